import JvmDerived
import JvmDerived.Pilot.@@N@@Statement
import JvmDerived.Pilot.@@N@@Code
set_option linter.unusedVariables false
set_option linter.unusedSimpArgs false
set_option maxRecDepth 65536
set_option maxHeartbeats 40000000
@@BLOCK:NumsL.lean.txt@@
namespace Jvm.Pilot.@@N@@
open Jvm Jvm.ClassFile Sem Op Lib Jvm.Free Jvm.Stand Jvm.LawKit Jvm.RoadKit Bundle Jvm.Pilot.@@N@@.Jvm.D
section OwnHead
variable {p : Program} {l : Launch} {e : Env} {R : Room} {s : State} {m : MethodId} {args : Array Value} {below : List Frame} {meth : Method} {c : Code} {T : State} {locs : List Loc} {cells slots : Nat} {Z : State} {a0 : Array Value} {h : Heap}
/-- from here the run comes to a state of which F holds -/
def own_Go (tb : Tables) (e : Env) (below : List Frame) (F : State → Prop) (U : State) : Prop := ∃ t, Steps tb e below U t ∧ F t
theorem own_by {tb : Tables} {F : State → Prop} {U U' : State} (q : ∀ t, Steps tb e below U' t → Steps tb e below U t) (k : own_Go tb e below F U') : own_Go tb e below F U := by
  obtain ⟨t, a, b⟩ := k
  exact ⟨t, q t a, b⟩
theorem own_ent {tb : Tables} {F : State → Prop} {T : State} {f g : JFrame} (q : f = g) (k : own_Go tb e below F (T.setTop g)) : own_Go tb e below F (T.setTop f) := by
  rw [q]
  exact k
abbrev own_rm (f c s l : Nat) : Room := { frames := f, cells := c, slots := s, locals := l }
theorem own_byR {tb : Tables} {F : State → Prop} {T U : State} {m : MethodId} {pc : Nat} {Ls : Array Slot} {v : Value} {rest : List Value} (q : ∀ t, Steps tb e below (T.setTop (mkF m pc Ls ((some v).toList ++ rest))) t → Steps tb e below U t) (pc' : Nat) (hp : pc = pc') (k : own_Go tb e below F (T.setTop (mkF m pc' Ls (v :: rest)))) : own_Go tb e below F U := by
  subst hp
  exact own_by q k
theorem own_byV {tb : Tables} {F : State → Prop} {T U : State} {m : MethodId} {pc : Nat} {Ls : Array Slot} {rest : List Value} (q : ∀ t, Steps tb e below (T.setTop (mkF m pc Ls ((none : Option Value).toList ++ rest))) t → Steps tb e below U t) (pc' : Nat) (hp : pc = pc') (k : own_Go tb e below F (T.setTop (mkF m pc' Ls rest))) : own_Go tb e below F U := by
  subst hp
  exact own_by q k
/-- the method has returned, and what its contract says holds -/
def own_Fin (s : State) (below : List Frame) (Q : Option Value → Heap → List Loc → Prop) (C N : Nat) (t : State) : Prop := ∃ o, t.status = .running ∧ Ended t below o ∧ ∃ v L, o = .returned v ∧ Q v t.heap L ∧ FrameEnd s o t L C N
theorem own_fin (X : Stand p l e R s m args below meth c T locs cells slots) {Q : Option Value → Heap → List Loc → Prop} {C N : Nat} {v : Option Value} (hk : meth.locks = false) (hv : meth.sig.returnType = none → v = none) {U : State}
    (hst : ∀ fs, (∀ (f : JFrame) (acts : List Action), f.method = m → f.locked = none → f.entered = [] → (doReturn e (T.setTop f) acts v).1 = T.setFrames fs) → Steps p.tables e below U (T.setFrames fs)) (hQ : Q v T.heap locs) (hC : cells ≤ C) (hN : slots ≤ N) :
    own_Go p.tables e below (own_Fin s below Q C N) U := by
  obtain ⟨fs, hr, hrun, hended, hW, hsame⟩ := X.leave (v := v) hv hk
  exact ⟨_, hst fs hr, _, hrun, hended, v, locs, rfl, hQ, ⟨_, rfl⟩, hW, hsame.mono hC hN⟩
theorem own_ret (X : Stand p l e R s m args below meth c T locs cells slots) (hx : p.tables.exec = Jvm.exec) {Q : Option Value → Heap → List Loc → Prop} {C N : Nat} (hk : meth.locks = false) {pc : Nat} {Ls : Array Slot} {w : Value} {t : FieldType} {i : Instr} {rest : List Value} (hret : meth.sig.returnType = some t) (hn : narrow t w = w)
    (hi : (i = .ireturn ∧ (t = .int ∨ t = .boolean ∨ t = .byte ∨ t = .char ∨ t = .short) ∧ ∃ z, w = .int z) ∨ (i = .lreturn ∧ t = .long ∧ ∃ z, w = .long z) ∨ (i = .dreturn ∧ t = .double ∧ ∃ z, w = .double z) ∨ (i = .freturn ∧ t = .float ∧ ∃ z, w = .float z) ∨ (i = .areturn ∧ t.isReference = true ∧ w.isRef = true))
    (hd : decode c.code pc = .ok (i, 1)) (hQ : Q (some w) T.heap locs) (hC : cells ≤ C) (hN : slots ≤ N) : own_Go p.tables e below (own_Fin s below Q C N) (T.setTop (mkF m pc Ls (w :: rest))) :=
  own_fin X hk (fun q => by rw [hret] at q; cases q) (fun fs hr => retOut X hx hret hn hi hd hr) hQ hC hN
theorem own_retI (X : Stand p l e R s m args below meth c T locs cells slots) (hx : p.tables.exec = Jvm.exec) {Q : Option Value → Heap → List Loc → Prop} {C N : Nat} (hk : meth.locks = false) {pc : Nat} {Ls : Array Slot} {z : Int32} {rest : List Value} (hret : meth.sig.returnType = some .int)
    (hd : decode c.code pc = .ok (.ireturn, 1)) (hQ : Q (some (.int z)) T.heap locs) (hC : cells ≤ C) (hN : slots ≤ N) : own_Go p.tables e below (own_Fin s below Q C N) (T.setTop (mkF m pc Ls (.int z :: rest))) :=
  own_ret X hx hk hret rfl (Or.inl ⟨rfl, Or.inl rfl, z, rfl⟩) hd hQ hC hN
theorem own_retZ (X : Stand p l e R s m args below meth c T locs cells slots) (hx : p.tables.exec = Jvm.exec) {Q : Option Value → Heap → List Loc → Prop} {C N : Nat} (hk : meth.locks = false) {pc : Nat} {Ls : Array Slot} {z z' : Int32} {rest : List Value} (hret : meth.sig.returnType = some .boolean)
    (hd : decode c.code pc = .ok (.ireturn, 1)) (hz : nar .boolean z = z') (hQ : Q (some (.int z')) T.heap locs) (hC : cells ≤ C) (hN : slots ≤ N) : own_Go p.tables e below (own_Fin s below Q C N) (T.setTop (mkF m pc Ls (.int z :: rest))) := by
  subst hz
  exact own_fin X hk (fun q => by rw [hret] at q; cases q) (fun fs hr => retN X hx hret (Or.inl rfl) hd hr) hQ hC hN
theorem own_retA (X : Stand p l e R s m args below meth c T locs cells slots) (hx : p.tables.exec = Jvm.exec) {Q : Option Value → Heap → List Loc → Prop} {C N : Nat} (hk : meth.locks = false) {pc : Nat} {Ls : Array Slot} {w : Value} {t : FieldType} {rest : List Value} (hret : meth.sig.returnType = some t) (ht : t.isReference = true) (hw : w.isRef = true)
    (hd : decode c.code pc = .ok (.areturn, 1)) (hn : narrow t w = w) (hQ : Q (some w) T.heap locs) (hC : cells ≤ C) (hN : slots ≤ N) : own_Go p.tables e below (own_Fin s below Q C N) (T.setTop (mkF m pc Ls (w :: rest))) :=
  own_ret X hx hk hret hn (Or.inr (Or.inr (Or.inr (Or.inr ⟨rfl, ht, hw⟩)))) hd hQ hC hN
theorem own_retJ (X : Stand p l e R s m args below meth c T locs cells slots) (hx : p.tables.exec = Jvm.exec) {Q : Option Value → Heap → List Loc → Prop} {C N : Nat} (hk : meth.locks = false) {pc : Nat} {Ls : Array Slot} {z : Int64} {rest : List Value} (hret : meth.sig.returnType = some .long)
    (hd : decode c.code pc = .ok (.lreturn, 1)) (hQ : Q (some (.long z)) T.heap locs) (hC : cells ≤ C) (hN : slots ≤ N) : own_Go p.tables e below (own_Fin s below Q C N) (T.setTop (mkF m pc Ls (.long z :: rest))) :=
  own_ret X hx hk hret rfl (Or.inr (Or.inl ⟨rfl, rfl, z, rfl⟩)) hd hQ hC hN
theorem own_retV (X : Stand p l e R s m args below meth c T locs cells slots) (hx : p.tables.exec = Jvm.exec) {Q : Option Value → Heap → List Loc → Prop} {C N : Nat} (hk : meth.locks = false) {pc : Nat} {Ls : Array Slot} (hret : meth.sig.returnType = none)
    (hd : decode c.code pc = .ok (.return_, 1)) (hQ : Q none T.heap locs) (hC : cells ≤ C) (hN : slots ≤ N) : own_Go p.tables e below (own_Fin s below Q C N) (T.setTop (mkF m pc Ls [])) :=
  own_fin X hk (fun _ => rfl) (fun fs hr => X.returnOut hx hret hd hr) hQ hC hN
theorem own_lsw0 {tb : Tables} [Ours tb] {target : State} {g : JFrame} (q : At T m c below) (hx : tb.exec = Jvm.exec) (hg : g.method = m) {dflt : Int} {pairs : Array (Int × Int)} {len : Nat} {o : Int} {pc0 pc' : Nat} (hpc : g.pc = pc0) (hd : decode c.code g.pc = .ok (.lookupswitch dflt pairs, len)) {i : Int32} {rest : List Value} (hs : g.stack = .int i :: rest)
    (hoff : lookupswitch.offset pairs.toList dflt i.toInt = o) (hso : (pairs.toList.zip pairs.toList.tail).all (fun q => decide (q.1.1 < q.2.1)) = true) (ho : 0 ≤ (pc0 : Int) + o) (hp : ((pc0 : Int) + o).toNat = pc') (hr : Steps tb e below (T.setTop { g with pc := pc', stack := rest }) target) : Steps tb e below (T.setTop g) target := by
  subst hg hpc hp
  jvm_step q [q.top, hx, hd, hs, hoff, ho, lookupswitch.wp_chain]
  refine ⟨fun a b a1 b1 hm => ?_, hr⟩
  simpa using List.all_eq_true.mp hso _ hm
theorem own_iload_n (X : Stand p l e R s m args below meth c T locs cells slots) (hx : p.tables.exec = Jvm.exec) {F : State → Prop} {pc : Nat} {Ls : Array Slot} {St : List Value} {i : Fin 4} {z : Int32} (hd : decode c.code pc = .ok (.iload_n i, 1)) (hl : Ls[i.val]? = some (.val (.int z))) (pc' : Nat) (hp : pc + 1 = pc') (k : own_Go p.tables e below F (T.setTop (mkF m pc' Ls (.int z :: St)))) : own_Go p.tables e below F (T.setTop (mkF m pc Ls (St))) := by
  subst hp
  exact own_by (fun _ q => XS.iloadN X.here hx rfl hd hl q) k
theorem own_iload (X : Stand p l e R s m args below meth c T locs cells slots) (hx : p.tables.exec = Jvm.exec) {F : State → Prop} {pc : Nat} {Ls : Array Slot} {St : List Value} {i : Nat} {z : Int32} (hd : decode c.code pc = .ok (.iload i, 2)) (hl : Ls[i]? = some (.val (.int z))) (pc' : Nat) (hp : pc + 2 = pc') (k : own_Go p.tables e below F (T.setTop (mkF m pc' Ls (.int z :: St)))) : own_Go p.tables e below F (T.setTop (mkF m pc Ls (St))) := by
  subst hp
  exact own_by (fun _ q => XS.iload X.here hx rfl hd hl q) k
theorem own_istore_n (X : Stand p l e R s m args below meth c T locs cells slots) (hx : p.tables.exec = Jvm.exec) {F : State → Prop} {pc : Nat} {Ls : Array Slot} {St : List Value} {i : Fin 4} {z : Int32} (hd : decode c.code pc = .ok (.istore_n i, 1)) (l' : Array Slot) (hl : storeLocals Ls i.val (.int z) = some l') (pc' : Nat) (hp : pc + 1 = pc') (k : own_Go p.tables e below F (T.setTop (mkF m pc' l' (St)))) : own_Go p.tables e below F (T.setTop (mkF m pc Ls (.int z :: St))) := by
  subst hp
  exact own_by (fun _ q => XS.istoreN X.here hx rfl hd rfl hl q) k
theorem own_istore (X : Stand p l e R s m args below meth c T locs cells slots) (hx : p.tables.exec = Jvm.exec) {F : State → Prop} {pc : Nat} {Ls : Array Slot} {St : List Value} {i : Nat} {z : Int32} (hd : decode c.code pc = .ok (.istore i, 2)) (l' : Array Slot) (hl : storeLocals Ls i (.int z) = some l') (pc' : Nat) (hp : pc + 2 = pc') (k : own_Go p.tables e below F (T.setTop (mkF m pc' l' (St)))) : own_Go p.tables e below F (T.setTop (mkF m pc Ls (.int z :: St))) := by
  subst hp
  exact own_by (fun _ q => XS.istore X.here hx rfl hd rfl hl q) k
theorem own_lload_n (X : Stand p l e R s m args below meth c T locs cells slots) (hx : p.tables.exec = Jvm.exec) {F : State → Prop} {pc : Nat} {Ls : Array Slot} {St : List Value} {i : Fin 4} {z : Int64} (hd : decode c.code pc = .ok (.lload_n i, 1)) (hl : Ls[i.val]? = some (.val (.long z))) (pc' : Nat) (hp : pc + 1 = pc') (k : own_Go p.tables e below F (T.setTop (mkF m pc' Ls (.long z :: St)))) : own_Go p.tables e below F (T.setTop (mkF m pc Ls (St))) := by
  subst hp
  exact own_by (fun _ q => XS.lloadN X.here hx rfl hd hl q) k
theorem own_lload (X : Stand p l e R s m args below meth c T locs cells slots) (hx : p.tables.exec = Jvm.exec) {F : State → Prop} {pc : Nat} {Ls : Array Slot} {St : List Value} {i : Nat} {z : Int64} (hd : decode c.code pc = .ok (.lload i, 2)) (hl : Ls[i]? = some (.val (.long z))) (pc' : Nat) (hp : pc + 2 = pc') (k : own_Go p.tables e below F (T.setTop (mkF m pc' Ls (.long z :: St)))) : own_Go p.tables e below F (T.setTop (mkF m pc Ls (St))) := by
  subst hp
  exact own_by (fun _ q => XS.lload X.here hx rfl hd hl q) k
theorem own_lstore_n (X : Stand p l e R s m args below meth c T locs cells slots) (hx : p.tables.exec = Jvm.exec) {F : State → Prop} {pc : Nat} {Ls : Array Slot} {St : List Value} {i : Fin 4} {z : Int64} (hd : decode c.code pc = .ok (.lstore_n i, 1)) (l' : Array Slot) (hl : storeLocals Ls i.val (.long z) = some l') (pc' : Nat) (hp : pc + 1 = pc') (k : own_Go p.tables e below F (T.setTop (mkF m pc' l' (St)))) : own_Go p.tables e below F (T.setTop (mkF m pc Ls (.long z :: St))) := by
  subst hp
  exact own_by (fun _ q => XS.lstoreN X.here hx rfl hd rfl hl q) k
theorem own_lstore (X : Stand p l e R s m args below meth c T locs cells slots) (hx : p.tables.exec = Jvm.exec) {F : State → Prop} {pc : Nat} {Ls : Array Slot} {St : List Value} {i : Nat} {z : Int64} (hd : decode c.code pc = .ok (.lstore i, 2)) (l' : Array Slot) (hl : storeLocals Ls i (.long z) = some l') (pc' : Nat) (hp : pc + 2 = pc') (k : own_Go p.tables e below F (T.setTop (mkF m pc' l' (St)))) : own_Go p.tables e below F (T.setTop (mkF m pc Ls (.long z :: St))) := by
  subst hp
  exact own_by (fun _ q => XS.lstore X.here hx rfl hd rfl hl q) k
theorem own_aload_n (X : Stand p l e R s m args below meth c T locs cells slots) (hx : p.tables.exec = Jvm.exec) {F : State → Prop} {pc : Nat} {Ls : Array Slot} {St : List Value} {i : Fin 4} {v : Value} (hd : decode c.code pc = .ok (.aload_n i, 1)) (hl : Ls[i.val]? = some (.val v)) (hv : v.isRef = true) (pc' : Nat) (hp : pc + 1 = pc') (k : own_Go p.tables e below F (T.setTop (mkF m pc' Ls (v :: St)))) : own_Go p.tables e below F (T.setTop (mkF m pc Ls (St))) := by
  subst hp
  exact own_by (fun _ q => XS.aloadN X.here hx rfl hd hl hv q) k
theorem own_aload (X : Stand p l e R s m args below meth c T locs cells slots) (hx : p.tables.exec = Jvm.exec) {F : State → Prop} {pc : Nat} {Ls : Array Slot} {St : List Value} {i : Nat} {v : Value} (hd : decode c.code pc = .ok (.aload i, 2)) (hl : Ls[i]? = some (.val v)) (hv : v.isRef = true) (pc' : Nat) (hp : pc + 2 = pc') (k : own_Go p.tables e below F (T.setTop (mkF m pc' Ls (v :: St)))) : own_Go p.tables e below F (T.setTop (mkF m pc Ls (St))) := by
  subst hp
  exact own_by (fun _ q => XS.aload X.here hx rfl hd hl hv q) k
theorem own_astore_n (X : Stand p l e R s m args below meth c T locs cells slots) (hx : p.tables.exec = Jvm.exec) {F : State → Prop} {pc : Nat} {Ls : Array Slot} {St : List Value} {i : Fin 4} {v : Value} (hd : decode c.code pc = .ok (.astore_n i, 1)) (l' : Array Slot) (hv : v.isRef = true) (hl : storeLocals Ls i.val v = some l') (pc' : Nat) (hp : pc + 1 = pc') (k : own_Go p.tables e below F (T.setTop (mkF m pc' l' (St)))) : own_Go p.tables e below F (T.setTop (mkF m pc Ls (v :: St))) := by
  subst hp
  exact own_by (fun _ q => XS.astoreN X.here hx rfl hd rfl hv hl q) k
theorem own_astore (X : Stand p l e R s m args below meth c T locs cells slots) (hx : p.tables.exec = Jvm.exec) {F : State → Prop} {pc : Nat} {Ls : Array Slot} {St : List Value} {i : Nat} {v : Value} (hd : decode c.code pc = .ok (.astore i, 2)) (l' : Array Slot) (hv : v.isRef = true) (hl : storeLocals Ls i v = some l') (pc' : Nat) (hp : pc + 2 = pc') (k : own_Go p.tables e below F (T.setTop (mkF m pc' l' (St)))) : own_Go p.tables e below F (T.setTop (mkF m pc Ls (v :: St))) := by
  subst hp
  exact own_by (fun _ q => XS.astore X.here hx rfl hd rfl hv hl q) k
theorem own_iconst (X : Stand p l e R s m args below meth c T locs cells slots) (hx : p.tables.exec = Jvm.exec) {F : State → Prop} {pc : Nat} {Ls : Array Slot} {St : List Value} {i : Int} (hd : decode c.code pc = .ok (.iconst i, 1)) (z : Int32) (hz : Int32.ofInt i = z) (pc' : Nat) (hp : pc + 1 = pc') (k : own_Go p.tables e below F (T.setTop (mkF m pc' Ls (.int z :: St)))) : own_Go p.tables e below F (T.setTop (mkF m pc Ls (St))) := by
  subst hp hz
  exact own_by (fun _ q => XS.iconst X.here hx rfl hd  q) k
theorem own_bipush (X : Stand p l e R s m args below meth c T locs cells slots) (hx : p.tables.exec = Jvm.exec) {F : State → Prop} {pc : Nat} {Ls : Array Slot} {St : List Value} {i : Int} (hd : decode c.code pc = .ok (.bipush i, 2)) (z : Int32) (hz : (Int8.ofInt i).toInt32 = z) (pc' : Nat) (hp : pc + 2 = pc') (k : own_Go p.tables e below F (T.setTop (mkF m pc' Ls (.int z :: St)))) : own_Go p.tables e below F (T.setTop (mkF m pc Ls (St))) := by
  subst hp hz
  exact own_by (fun _ q => XS.bipush X.here hx rfl hd  q) k
theorem own_sipush (X : Stand p l e R s m args below meth c T locs cells slots) (hx : p.tables.exec = Jvm.exec) {F : State → Prop} {pc : Nat} {Ls : Array Slot} {St : List Value} {i : Int} (hd : decode c.code pc = .ok (.sipush i, 3)) (z : Int32) (hz : (Int16.ofInt i).toInt32 = z) (pc' : Nat) (hp : pc + 3 = pc') (k : own_Go p.tables e below F (T.setTop (mkF m pc' Ls (.int z :: St)))) : own_Go p.tables e below F (T.setTop (mkF m pc Ls (St))) := by
  subst hp hz
  exact own_by (fun _ q => XS.sipush X.here hx rfl hd  q) k
theorem own_lconst (X : Stand p l e R s m args below meth c T locs cells slots) (hx : p.tables.exec = Jvm.exec) {F : State → Prop} {pc : Nat} {Ls : Array Slot} {St : List Value} {i : Fin 2} (hd : decode c.code pc = .ok (.lconst i, 1)) (z : Int64) (hz : Int64.ofNat i = z) (pc' : Nat) (hp : pc + 1 = pc') (k : own_Go p.tables e below F (T.setTop (mkF m pc' Ls (.long z :: St)))) : own_Go p.tables e below F (T.setTop (mkF m pc Ls (St))) := by
  subst hp hz
  exact own_by (fun _ q => XS.lconst X.here hx rfl hd  q) k
theorem own_aconst_null (X : Stand p l e R s m args below meth c T locs cells slots) (hx : p.tables.exec = Jvm.exec) {F : State → Prop} {pc : Nat} {Ls : Array Slot} {St : List Value}  (hd : decode c.code pc = .ok (.aconst_null, 1)) (pc' : Nat) (hp : pc + 1 = pc') (k : own_Go p.tables e below F (T.setTop (mkF m pc' Ls (.null :: St)))) : own_Go p.tables e below F (T.setTop (mkF m pc Ls (St))) := by
  subst hp
  exact own_by (fun _ q => XS.aconstNull X.here hx rfl hd  q) k
theorem own_iadd (X : Stand p l e R s m args below meth c T locs cells slots) (hx : p.tables.exec = Jvm.exec) {F : State → Prop} {pc : Nat} {Ls : Array Slot} {St : List Value} {x y : Int32} (hd : decode c.code pc = .ok (.iadd, 1)) (pc' : Nat) (hp : pc + 1 = pc') (k : own_Go p.tables e below F (T.setTop (mkF m pc' Ls (.int (x + y) :: St)))) : own_Go p.tables e below F (T.setTop (mkF m pc Ls (.int y :: .int x :: St))) := by
  subst hp
  exact own_by (fun _ q => XS.iadd X.here hx rfl hd rfl q) k
theorem own_isub (X : Stand p l e R s m args below meth c T locs cells slots) (hx : p.tables.exec = Jvm.exec) {F : State → Prop} {pc : Nat} {Ls : Array Slot} {St : List Value} {x y : Int32} (hd : decode c.code pc = .ok (.isub, 1)) (pc' : Nat) (hp : pc + 1 = pc') (k : own_Go p.tables e below F (T.setTop (mkF m pc' Ls (.int (x - y) :: St)))) : own_Go p.tables e below F (T.setTop (mkF m pc Ls (.int y :: .int x :: St))) := by
  subst hp
  exact own_by (fun _ q => XS.isub X.here hx rfl hd rfl q) k
theorem own_imul (X : Stand p l e R s m args below meth c T locs cells slots) (hx : p.tables.exec = Jvm.exec) {F : State → Prop} {pc : Nat} {Ls : Array Slot} {St : List Value} {x y : Int32} (hd : decode c.code pc = .ok (.imul, 1)) (pc' : Nat) (hp : pc + 1 = pc') (k : own_Go p.tables e below F (T.setTop (mkF m pc' Ls (.int (x * y) :: St)))) : own_Go p.tables e below F (T.setTop (mkF m pc Ls (.int y :: .int x :: St))) := by
  subst hp
  exact own_by (fun _ q => XS.imul X.here hx rfl hd rfl q) k
theorem own_iand (X : Stand p l e R s m args below meth c T locs cells slots) (hx : p.tables.exec = Jvm.exec) {F : State → Prop} {pc : Nat} {Ls : Array Slot} {St : List Value} {x y : Int32} (hd : decode c.code pc = .ok (.iand, 1)) (pc' : Nat) (hp : pc + 1 = pc') (k : own_Go p.tables e below F (T.setTop (mkF m pc' Ls (.int (x &&& y) :: St)))) : own_Go p.tables e below F (T.setTop (mkF m pc Ls (.int y :: .int x :: St))) := by
  subst hp
  exact own_by (fun _ q => XS.iand X.here hx rfl hd rfl q) k
theorem own_ior (X : Stand p l e R s m args below meth c T locs cells slots) (hx : p.tables.exec = Jvm.exec) {F : State → Prop} {pc : Nat} {Ls : Array Slot} {St : List Value} {x y : Int32} (hd : decode c.code pc = .ok (.ior, 1)) (pc' : Nat) (hp : pc + 1 = pc') (k : own_Go p.tables e below F (T.setTop (mkF m pc' Ls (.int (x ||| y) :: St)))) : own_Go p.tables e below F (T.setTop (mkF m pc Ls (.int y :: .int x :: St))) := by
  subst hp
  exact own_by (fun _ q => XS.ior X.here hx rfl hd rfl q) k
theorem own_ixor (X : Stand p l e R s m args below meth c T locs cells slots) (hx : p.tables.exec = Jvm.exec) {F : State → Prop} {pc : Nat} {Ls : Array Slot} {St : List Value} {x y : Int32} (hd : decode c.code pc = .ok (.ixor, 1)) (pc' : Nat) (hp : pc + 1 = pc') (k : own_Go p.tables e below F (T.setTop (mkF m pc' Ls (.int (x ^^^ y) :: St)))) : own_Go p.tables e below F (T.setTop (mkF m pc Ls (.int y :: .int x :: St))) := by
  subst hp
  exact own_by (fun _ q => XS.ixor X.here hx rfl hd rfl q) k
theorem own_ishl (X : Stand p l e R s m args below meth c T locs cells slots) (hx : p.tables.exec = Jvm.exec) {F : State → Prop} {pc : Nat} {Ls : Array Slot} {St : List Value} {x y : Int32} (hd : decode c.code pc = .ok (.ishl, 1)) (pc' : Nat) (hp : pc + 1 = pc') (k : own_Go p.tables e below F (T.setTop (mkF m pc' Ls (.int (x <<< (y &&& 31)) :: St)))) : own_Go p.tables e below F (T.setTop (mkF m pc Ls (.int y :: .int x :: St))) := by
  subst hp
  exact own_by (fun _ q => XS.ishl X.here hx rfl hd rfl q) k
theorem own_ishr (X : Stand p l e R s m args below meth c T locs cells slots) (hx : p.tables.exec = Jvm.exec) {F : State → Prop} {pc : Nat} {Ls : Array Slot} {St : List Value} {x y : Int32} (hd : decode c.code pc = .ok (.ishr, 1)) (pc' : Nat) (hp : pc + 1 = pc') (k : own_Go p.tables e below F (T.setTop (mkF m pc' Ls (.int (x >>> (y &&& 31)) :: St)))) : own_Go p.tables e below F (T.setTop (mkF m pc Ls (.int y :: .int x :: St))) := by
  subst hp
  exact own_by (fun _ q => XS.ishr X.here hx rfl hd rfl q) k
theorem own_iushr (X : Stand p l e R s m args below meth c T locs cells slots) (hx : p.tables.exec = Jvm.exec) {F : State → Prop} {pc : Nat} {Ls : Array Slot} {St : List Value} {x y : Int32} (hd : decode c.code pc = .ok (.iushr, 1)) (pc' : Nat) (hp : pc + 1 = pc') (k : own_Go p.tables e below F (T.setTop (mkF m pc' Ls (.int ((x.toUInt32 >>> (y &&& 31).toUInt32).toInt32) :: St)))) : own_Go p.tables e below F (T.setTop (mkF m pc Ls (.int y :: .int x :: St))) := by
  subst hp
  exact own_by (fun _ q => XS.iushr X.here hx rfl hd rfl q) k
theorem own_ladd (X : Stand p l e R s m args below meth c T locs cells slots) (hx : p.tables.exec = Jvm.exec) {F : State → Prop} {pc : Nat} {Ls : Array Slot} {St : List Value} {x y : Int64} (hd : decode c.code pc = .ok (.ladd, 1)) (pc' : Nat) (hp : pc + 1 = pc') (k : own_Go p.tables e below F (T.setTop (mkF m pc' Ls (.long (x + y) :: St)))) : own_Go p.tables e below F (T.setTop (mkF m pc Ls (.long y :: .long x :: St))) := by
  subst hp
  exact own_by (fun _ q => XS.ladd X.here hx rfl hd rfl q) k
theorem own_lsub (X : Stand p l e R s m args below meth c T locs cells slots) (hx : p.tables.exec = Jvm.exec) {F : State → Prop} {pc : Nat} {Ls : Array Slot} {St : List Value} {x y : Int64} (hd : decode c.code pc = .ok (.lsub, 1)) (pc' : Nat) (hp : pc + 1 = pc') (k : own_Go p.tables e below F (T.setTop (mkF m pc' Ls (.long (x - y) :: St)))) : own_Go p.tables e below F (T.setTop (mkF m pc Ls (.long y :: .long x :: St))) := by
  subst hp
  exact own_by (fun _ q => XS.lsub X.here hx rfl hd rfl q) k
theorem own_lmul (X : Stand p l e R s m args below meth c T locs cells slots) (hx : p.tables.exec = Jvm.exec) {F : State → Prop} {pc : Nat} {Ls : Array Slot} {St : List Value} {x y : Int64} (hd : decode c.code pc = .ok (.lmul, 1)) (pc' : Nat) (hp : pc + 1 = pc') (k : own_Go p.tables e below F (T.setTop (mkF m pc' Ls (.long (x * y) :: St)))) : own_Go p.tables e below F (T.setTop (mkF m pc Ls (.long y :: .long x :: St))) := by
  subst hp
  exact own_by (fun _ q => XS.lmul X.here hx rfl hd rfl q) k
theorem own_land (X : Stand p l e R s m args below meth c T locs cells slots) (hx : p.tables.exec = Jvm.exec) {F : State → Prop} {pc : Nat} {Ls : Array Slot} {St : List Value} {x y : Int64} (hd : decode c.code pc = .ok (.land, 1)) (pc' : Nat) (hp : pc + 1 = pc') (k : own_Go p.tables e below F (T.setTop (mkF m pc' Ls (.long (x &&& y) :: St)))) : own_Go p.tables e below F (T.setTop (mkF m pc Ls (.long y :: .long x :: St))) := by
  subst hp
  exact own_by (fun _ q => XS.land X.here hx rfl hd rfl q) k
theorem own_lor (X : Stand p l e R s m args below meth c T locs cells slots) (hx : p.tables.exec = Jvm.exec) {F : State → Prop} {pc : Nat} {Ls : Array Slot} {St : List Value} {x y : Int64} (hd : decode c.code pc = .ok (.lor, 1)) (pc' : Nat) (hp : pc + 1 = pc') (k : own_Go p.tables e below F (T.setTop (mkF m pc' Ls (.long (x ||| y) :: St)))) : own_Go p.tables e below F (T.setTop (mkF m pc Ls (.long y :: .long x :: St))) := by
  subst hp
  exact own_by (fun _ q => XS.lor X.here hx rfl hd rfl q) k
theorem own_lxor (X : Stand p l e R s m args below meth c T locs cells slots) (hx : p.tables.exec = Jvm.exec) {F : State → Prop} {pc : Nat} {Ls : Array Slot} {St : List Value} {x y : Int64} (hd : decode c.code pc = .ok (.lxor, 1)) (pc' : Nat) (hp : pc + 1 = pc') (k : own_Go p.tables e below F (T.setTop (mkF m pc' Ls (.long (x ^^^ y) :: St)))) : own_Go p.tables e below F (T.setTop (mkF m pc Ls (.long y :: .long x :: St))) := by
  subst hp
  exact own_by (fun _ q => XS.lxor X.here hx rfl hd rfl q) k
theorem own_lshl (X : Stand p l e R s m args below meth c T locs cells slots) (hx : p.tables.exec = Jvm.exec) {F : State → Prop} {pc : Nat} {Ls : Array Slot} {St : List Value} {x : Int64} {y : Int32} (hd : decode c.code pc = .ok (.lshl, 1)) (pc' : Nat) (hp : pc + 1 = pc') (k : own_Go p.tables e below F (T.setTop (mkF m pc' Ls (.long (x <<< (y &&& 0x3f).toInt64) :: St)))) : own_Go p.tables e below F (T.setTop (mkF m pc Ls (.int y :: .long x :: St))) := by
  subst hp
  exact own_by (fun _ q => XS.lshl X.here hx rfl hd rfl q) k
theorem own_lshr (X : Stand p l e R s m args below meth c T locs cells slots) (hx : p.tables.exec = Jvm.exec) {F : State → Prop} {pc : Nat} {Ls : Array Slot} {St : List Value} {x : Int64} {y : Int32} (hd : decode c.code pc = .ok (.lshr, 1)) (pc' : Nat) (hp : pc + 1 = pc') (k : own_Go p.tables e below F (T.setTop (mkF m pc' Ls (.long (x >>> (y &&& 0x3f).toInt64) :: St)))) : own_Go p.tables e below F (T.setTop (mkF m pc Ls (.int y :: .long x :: St))) := by
  subst hp
  exact own_by (fun _ q => XS.lshr X.here hx rfl hd rfl q) k
theorem own_lushr (X : Stand p l e R s m args below meth c T locs cells slots) (hx : p.tables.exec = Jvm.exec) {F : State → Prop} {pc : Nat} {Ls : Array Slot} {St : List Value} {x : Int64} {y : Int32} (hd : decode c.code pc = .ok (.lushr, 1)) (pc' : Nat) (hp : pc + 1 = pc') (k : own_Go p.tables e below F (T.setTop (mkF m pc' Ls (.long ((x.toUInt64 >>> (y &&& 0x3f).toInt64.toUInt64).toInt64) :: St)))) : own_Go p.tables e below F (T.setTop (mkF m pc Ls (.int y :: .long x :: St))) := by
  subst hp
  exact own_by (fun _ q => XS.lushr X.here hx rfl hd rfl q) k
theorem own_idiv (X : Stand p l e R s m args below meth c T locs cells slots) (hx : p.tables.exec = Jvm.exec) {F : State → Prop} {pc : Nat} {Ls : Array Slot} {St : List Value} {x y : Int32} (hd : decode c.code pc = .ok (.idiv, 1)) (hy : y ≠ 0) (pc' : Nat) (hp : pc + 1 = pc') (k : own_Go p.tables e below F (T.setTop (mkF m pc' Ls (.int (x / y) :: St)))) : own_Go p.tables e below F (T.setTop (mkF m pc Ls (.int y :: .int x :: St))) := by
  subst hp
  exact own_by (fun _ q => XS.idiv X.here hx rfl hd rfl hy q) k
theorem own_ineg (X : Stand p l e R s m args below meth c T locs cells slots) (hx : p.tables.exec = Jvm.exec) {F : State → Prop} {pc : Nat} {Ls : Array Slot} {St : List Value} {x : Int32} (hd : decode c.code pc = .ok (.ineg, 1)) (pc' : Nat) (hp : pc + 1 = pc') (k : own_Go p.tables e below F (T.setTop (mkF m pc' Ls (.int (-x) :: St)))) : own_Go p.tables e below F (T.setTop (mkF m pc Ls (.int x :: St))) := by
  subst hp
  exact own_by (fun _ q => XS.ineg X.here hx rfl hd rfl q) k
theorem own_i2l (X : Stand p l e R s m args below meth c T locs cells slots) (hx : p.tables.exec = Jvm.exec) {F : State → Prop} {pc : Nat} {Ls : Array Slot} {St : List Value} {x : Int32} (hd : decode c.code pc = .ok (.i2l, 1)) (pc' : Nat) (hp : pc + 1 = pc') (k : own_Go p.tables e below F (T.setTop (mkF m pc' Ls (.long (x.toInt64) :: St)))) : own_Go p.tables e below F (T.setTop (mkF m pc Ls (.int x :: St))) := by
  subst hp
  exact own_by (fun _ q => XS.i2l X.here hx rfl hd rfl q) k
theorem own_l2i (X : Stand p l e R s m args below meth c T locs cells slots) (hx : p.tables.exec = Jvm.exec) {F : State → Prop} {pc : Nat} {Ls : Array Slot} {St : List Value} {x : Int64} (hd : decode c.code pc = .ok (.l2i, 1)) (pc' : Nat) (hp : pc + 1 = pc') (k : own_Go p.tables e below F (T.setTop (mkF m pc' Ls (.int (x.toInt32) :: St)))) : own_Go p.tables e below F (T.setTop (mkF m pc Ls (.long x :: St))) := by
  subst hp
  exact own_by (fun _ q => XS.l2i X.here hx rfl hd rfl q) k
theorem own_i2b (X : Stand p l e R s m args below meth c T locs cells slots) (hx : p.tables.exec = Jvm.exec) {F : State → Prop} {pc : Nat} {Ls : Array Slot} {St : List Value} {x : Int32} (hd : decode c.code pc = .ok (.i2b, 1)) (pc' : Nat) (hp : pc + 1 = pc') (k : own_Go p.tables e below F (T.setTop (mkF m pc' Ls (.int (x.toInt8.toInt32) :: St)))) : own_Go p.tables e below F (T.setTop (mkF m pc Ls (.int x :: St))) := by
  subst hp
  exact own_by (fun _ q => XS.i2b X.here hx rfl hd rfl q) k
theorem own_i2c (X : Stand p l e R s m args below meth c T locs cells slots) (hx : p.tables.exec = Jvm.exec) {F : State → Prop} {pc : Nat} {Ls : Array Slot} {St : List Value} {x : Int32} (hd : decode c.code pc = .ok (.i2c, 1)) (pc' : Nat) (hp : pc + 1 = pc') (k : own_Go p.tables e below F (T.setTop (mkF m pc' Ls (.int (x.toUInt32.toUInt16.toUInt32.toInt32) :: St)))) : own_Go p.tables e below F (T.setTop (mkF m pc Ls (.int x :: St))) := by
  subst hp
  exact own_by (fun _ q => XS.i2c X.here hx rfl hd rfl q) k
theorem own_i2s (X : Stand p l e R s m args below meth c T locs cells slots) (hx : p.tables.exec = Jvm.exec) {F : State → Prop} {pc : Nat} {Ls : Array Slot} {St : List Value} {x : Int32} (hd : decode c.code pc = .ok (.i2s, 1)) (pc' : Nat) (hp : pc + 1 = pc') (k : own_Go p.tables e below F (T.setTop (mkF m pc' Ls (.int (x.toInt16.toInt32) :: St)))) : own_Go p.tables e below F (T.setTop (mkF m pc Ls (.int x :: St))) := by
  subst hp
  exact own_by (fun _ q => XS.i2s X.here hx rfl hd rfl q) k
theorem own_lcmp (X : Stand p l e R s m args below meth c T locs cells slots) (hx : p.tables.exec = Jvm.exec) {F : State → Prop} {pc : Nat} {Ls : Array Slot} {St : List Value} {x y : Int64} (hd : decode c.code pc = .ok (.lcmp, 1)) (pc' : Nat) (hp : pc + 1 = pc') (k : own_Go p.tables e below F (T.setTop (mkF m pc' Ls (.int (lcmpW x y) :: St)))) : own_Go p.tables e below F (T.setTop (mkF m pc Ls (.long y :: .long x :: St))) := by
  subst hp
  exact own_by (fun _ q => XS.lcmp X.here hx rfl hd rfl q) k
theorem own_iinc (X : Stand p l e R s m args below meth c T locs cells slots) (hx : p.tables.exec = Jvm.exec) {F : State → Prop} {pc : Nat} {Ls : Array Slot} {St : List Value} {i : Nat} {cst : Int} {x : Int32} (hd : decode c.code pc = .ok (.iinc i cst, 3)) (l' : Array Slot) (hl : Ls[i]? = some (.val (.int x))) (hl' : storeLocals Ls i (.int (x + Int32.ofInt cst)) = some l') (pc' : Nat) (hp : pc + 3 = pc') (k : own_Go p.tables e below F (T.setTop (mkF m pc' l' (St)))) : own_Go p.tables e below F (T.setTop (mkF m pc Ls (St))) := by
  subst hp
  exact own_by (fun _ q => XS.iinc X.here hx rfl hd hl hl' q) k
theorem own_dup (X : Stand p l e R s m args below meth c T locs cells slots) (hx : p.tables.exec = Jvm.exec) {F : State → Prop} {pc : Nat} {Ls : Array Slot} {St : List Value} {v : Value} (hd : decode c.code pc = .ok (.dup, 1)) (hc : v.category = 1) (pc' : Nat) (hp : pc + 1 = pc') (k : own_Go p.tables e below F (T.setTop (mkF m pc' Ls (v :: v :: St)))) : own_Go p.tables e below F (T.setTop (mkF m pc Ls (v :: St))) := by
  subst hp
  exact own_by (fun _ q => XS.dup X.here hx rfl hd rfl hc q) k
theorem own_pop (X : Stand p l e R s m args below meth c T locs cells slots) (hx : p.tables.exec = Jvm.exec) {F : State → Prop} {pc : Nat} {Ls : Array Slot} {St : List Value} {v : Value} (hd : decode c.code pc = .ok (.pop, 1)) (hc : v.category = 1) (pc' : Nat) (hp : pc + 1 = pc') (k : own_Go p.tables e below F (T.setTop (mkF m pc' Ls (St)))) : own_Go p.tables e below F (T.setTop (mkF m pc Ls (v :: St))) := by
  subst hp
  exact own_by (fun _ q => XS.pop X.here hx rfl hd rfl hc q) k
theorem own_dup_x1 (X : Stand p l e R s m args below meth c T locs cells slots) (hx : p.tables.exec = Jvm.exec) {F : State → Prop} {pc : Nat} {Ls : Array Slot} {St : List Value} {v w : Value} (hd : decode c.code pc = .ok (.dup_x1, 1)) (hc : v.category = 1) (hc' : w.category = 1) (pc' : Nat) (hp : pc + 1 = pc') (k : own_Go p.tables e below F (T.setTop (mkF m pc' Ls (v :: w :: v :: St)))) : own_Go p.tables e below F (T.setTop (mkF m pc Ls (v :: w :: St))) := by
  subst hp
  exact own_by (fun _ q => XS.dupX1 X.here hx rfl hd rfl hc hc' q) k
theorem own_goto (X : Stand p l e R s m args below meth c T locs cells slots) (hx : p.tables.exec = Jvm.exec) {F : State → Prop} {pc : Nat} {Ls : Array Slot} {St : List Value}  {o : Int} (hd : decode c.code pc = .ok (.goto o, 3)) (pc' : Nat) (ho : 0 ≤ (pc : Int) + o) (hp : ((pc : Int) + o).toNat = pc') (k : own_Go p.tables e below F (T.setTop (mkF m pc' Ls (St)))) : own_Go p.tables e below F (T.setTop (mkF m pc Ls (St))) :=
  own_by (fun _ q => XS.goto X.here hx rfl (pc0 := pc) rfl hd  ho hp q) k
theorem own_ifY (X : Stand p l e R s m args below meth c T locs cells slots) (hx : p.tables.exec = Jvm.exec) {F : State → Prop} {pc : Nat} {Ls : Array Slot} {St : List Value} {cd : ClassFile.Cond} {x : Int32} {o : Int} (hd : decode c.code pc = .ok (.ifCond cd o, 3)) (hc : ifCond.holds cd x = true) (pc' : Nat) (ho : 0 ≤ (pc : Int) + o) (hp : ((pc : Int) + o).toNat = pc') (k : own_Go p.tables e below F (T.setTop (mkF m pc' Ls (St)))) : own_Go p.tables e below F (T.setTop (mkF m pc Ls (.int x :: St))) :=
  own_by (fun _ q => XS.ifYes X.here hx rfl (pc0 := pc) rfl hd rfl hc ho hp q) k
theorem own_icmpY (X : Stand p l e R s m args below meth c T locs cells slots) (hx : p.tables.exec = Jvm.exec) {F : State → Prop} {pc : Nat} {Ls : Array Slot} {St : List Value} {cd : ClassFile.Cond} {x y : Int32} {o : Int} (hd : decode c.code pc = .ok (.if_icmp cd o, 3)) (hc : if_icmp.holds cd x y = true) (pc' : Nat) (ho : 0 ≤ (pc : Int) + o) (hp : ((pc : Int) + o).toNat = pc') (k : own_Go p.tables e below F (T.setTop (mkF m pc' Ls (St)))) : own_Go p.tables e below F (T.setTop (mkF m pc Ls (.int y :: .int x :: St))) :=
  own_by (fun _ q => XS.icmpYes X.here hx rfl (pc0 := pc) rfl hd rfl hc ho hp q) k
theorem own_ifnullY (X : Stand p l e R s m args below meth c T locs cells slots) (hx : p.tables.exec = Jvm.exec) {F : State → Prop} {pc : Nat} {Ls : Array Slot} {St : List Value}  {o : Int} (hd : decode c.code pc = .ok (.ifnull o, 3)) (pc' : Nat) (ho : 0 ≤ (pc : Int) + o) (hp : ((pc : Int) + o).toNat = pc') (k : own_Go p.tables e below F (T.setTop (mkF m pc' Ls (St)))) : own_Go p.tables e below F (T.setTop (mkF m pc Ls (.null :: St))) :=
  own_by (fun _ q => XS.ifnullYes X.here hx rfl (pc0 := pc) rfl hd rfl ho hp q) k
theorem own_ifnonnullY (X : Stand p l e R s m args below meth c T locs cells slots) (hx : p.tables.exec = Jvm.exec) {F : State → Prop} {pc : Nat} {Ls : Array Slot} {St : List Value} {b : Addr} {o : Int} (hd : decode c.code pc = .ok (.ifnonnull o, 3)) (pc' : Nat) (ho : 0 ≤ (pc : Int) + o) (hp : ((pc : Int) + o).toNat = pc') (k : own_Go p.tables e below F (T.setTop (mkF m pc' Ls (St)))) : own_Go p.tables e below F (T.setTop (mkF m pc Ls (.ref b :: St))) :=
  own_by (fun _ q => XS.ifnonnullYes X.here hx rfl (pc0 := pc) rfl hd rfl ho hp q) k
theorem own_ifN (X : Stand p l e R s m args below meth c T locs cells slots) (hx : p.tables.exec = Jvm.exec) {F : State → Prop} {pc : Nat} {Ls : Array Slot} {St : List Value} {o : Int} {cd : ClassFile.Cond} {x : Int32} (hd : decode c.code pc = .ok (.ifCond cd o, 3)) (hc : ifCond.holds cd x = false) (pc' : Nat) (hp : pc + 3 = pc') (k : own_Go p.tables e below F (T.setTop (mkF m pc' Ls (St)))) : own_Go p.tables e below F (T.setTop (mkF m pc Ls (.int x :: St))) := by
  subst hp
  exact own_by (fun _ q => XS.ifNo X.here hx rfl hd rfl hc q) k
theorem own_icmpN (X : Stand p l e R s m args below meth c T locs cells slots) (hx : p.tables.exec = Jvm.exec) {F : State → Prop} {pc : Nat} {Ls : Array Slot} {St : List Value} {o : Int} {cd : ClassFile.Cond} {x y : Int32} (hd : decode c.code pc = .ok (.if_icmp cd o, 3)) (hc : if_icmp.holds cd x y = false) (pc' : Nat) (hp : pc + 3 = pc') (k : own_Go p.tables e below F (T.setTop (mkF m pc' Ls (St)))) : own_Go p.tables e below F (T.setTop (mkF m pc Ls (.int y :: .int x :: St))) := by
  subst hp
  exact own_by (fun _ q => XS.icmpNo X.here hx rfl hd rfl hc q) k
theorem own_ifnullN (X : Stand p l e R s m args below meth c T locs cells slots) (hx : p.tables.exec = Jvm.exec) {F : State → Prop} {pc : Nat} {Ls : Array Slot} {St : List Value} {o : Int} {b : Addr} (hd : decode c.code pc = .ok (.ifnull o, 3)) (pc' : Nat) (hp : pc + 3 = pc') (k : own_Go p.tables e below F (T.setTop (mkF m pc' Ls (St)))) : own_Go p.tables e below F (T.setTop (mkF m pc Ls (.ref b :: St))) := by
  subst hp
  exact own_by (fun _ q => XS.ifnullNo X.here hx rfl hd rfl q) k
theorem own_ifnonnullN (X : Stand p l e R s m args below meth c T locs cells slots) (hx : p.tables.exec = Jvm.exec) {F : State → Prop} {pc : Nat} {Ls : Array Slot} {St : List Value} {o : Int} (hd : decode c.code pc = .ok (.ifnonnull o, 3)) (pc' : Nat) (hp : pc + 3 = pc') (k : own_Go p.tables e below F (T.setTop (mkF m pc' Ls (St)))) : own_Go p.tables e below F (T.setTop (mkF m pc Ls (.null :: St))) := by
  subst hp
  exact own_by (fun _ q => XS.ifnonnullNo X.here hx rfl hd rfl q) k
theorem own_irem (X : Stand p l e R s m args below meth c T locs cells slots) (hx : p.tables.exec = Jvm.exec) {F : State → Prop} {pc : Nat} {Ls : Array Slot} {St : List Value} {x y : Int32} (hd : decode c.code pc = .ok (.irem, 1)) (hy : y ≠ 0) (pc' : Nat) (hp : pc + 1 = pc') (k : own_Go p.tables e below F (T.setTop (mkF m pc' Ls (.int (x % y) :: St)))) : own_Go p.tables e below F (T.setTop (mkF m pc Ls (.int y :: .int x :: St))) := by
  subst hp
  exact own_by (fun _ q => iremM X hx rfl hd rfl hy q) k
theorem own_acmp (X : Stand p l e R s m args below meth c T locs cells slots) (hx : p.tables.exec = Jvm.exec) {F : State → Prop} {pc : Nat} {Ls : Array Slot} {St : List Value} {cd : ACond} {x y : Value} {o : Int} (same : Bool) (hd : decode c.code pc = .ok (.if_acmp cd o, 3)) (h1 : x.isRef = true) (h2 : y.isRef = true) (hq : decide (x = y) = same) (pc' : Nat) (ho : 0 ≤ (pc : Int) + o) (hp : pc' = if acV cd same = true then ((pc : Int) + o).toNat else pc + 3) (k : own_Go p.tables e below F (T.setTop (mkF m pc' Ls St))) : own_Go p.tables e below F (T.setTop (mkF m pc Ls (y :: x :: St))) :=
  own_by (fun _ q => Jvm.RoadKit.acmp (g := mkF m pc Ls (y :: x :: St)) X hx rfl h1 h2 (pc0 := pc) rfl hd rfl hq ho hp q) k
theorem own_ldc (X : Stand p l e R s m args below meth c T locs cells slots) (hx : p.tables.exec = Jvm.exec) {F : State → Prop} {pc : Nat} {Ls : Array Slot} {St : List Value} (hZ : Z.Warmed39 s.vm) {own : String} {i : Nat} {z : Int32} (hown : s.vm.findClass own = some m.cls) (w : (Cond.constant own i z).before a0 Z = true) (hd : decode c.code pc = .ok (.ldc i, 2)) (pc' : Nat) (hp : pc + 2 = pc') (k : own_Go p.tables e below F (T.setTop (mkF m pc' Ls (.int z :: St)))) : own_Go p.tables e below F (T.setTop (mkF m pc Ls St)) := by
  subst hp
  exact own_by (fun _ q => X.ldcInt hx hown (mvT hZ w) (g := mkF m pc Ls St) rfl hd _ q) k
theorem own_getS (X : Stand p l e R s m args below meth c T locs cells slots) (hx : p.tables.exec = Jvm.exec) {F : State → Prop} {pc : Nat} {Ls : Array Slot} {St : List Value} (hZ : Z.Warmed39 s.vm) {own R0 O n d host : String} {i : Nat} (hown : s.vm.findClass own = some m.cls) (w : (Cond.fieldLink own i R0 n d).before a0 Z = true ∨ (Cond.fieldLinkNest own i R0 n d host).before a0 Z = true) (via : Via Z R0 O n d) (eT : T.heap = h) {v : Value} (S : Sta Z h O n d v) (hd : decode c.code pc = .ok (.getstatic i, 3)) (pc' : Nat) (hp : pc + 3 = pc')
    (k : ∀ T', Stand p l e R s m args below meth c T' locs cells slots → T'.heap = h → own_Go p.tables e below F (T'.setTop (mkF m pc' Ls (v :: St)))) : own_Go p.tables e below F (T.setTop (mkF m pc Ls St)) := by
  subst hp
  obtain ⟨T', X', e', st⟩ := getS2 X hx hZ hown w via eT S (g := mkF m pc Ls St) rfl hd
  exact own_by st (k T' X' e')
theorem own_getF (X : Stand p l e R s m args below meth c T locs cells slots) (hx : p.tables.exec = Jvm.exec) {F : State → Prop} {pc : Nat} {Ls : Array Slot} {St : List Value} (hZ : Z.Warmed39 s.vm) {own R0 O n d host : String} {i : Nat} (hown : s.vm.findClass own = some m.cls) (w : (Cond.fieldLink own i R0 n d).before a0 Z = true ∨ (Cond.fieldLinkNest own i R0 n d host).before a0 Z = true) (via : Via Z R0 O n d) (eT : T.heap = h) {a : Addr} {v : Value} (S : Fld Z h a O n d v) (hd : decode c.code pc = .ok (.getfield i, 3)) (pc' : Nat) (hp : pc + 3 = pc')
    (k : ∀ T', Stand p l e R s m args below meth c T' locs cells slots → T'.heap = h → own_Go p.tables e below F (T'.setTop (mkF m pc' Ls (v :: St)))) : own_Go p.tables e below F (T.setTop (mkF m pc Ls (.ref a :: St))) := by
  subst hp
  obtain ⟨T', X', e', st⟩ := getF X hx hZ hown w via eT S (g := mkF m pc Ls (.ref a :: St)) rfl rfl hd
  exact own_by st (k T' X' e')
theorem own_lsw (X : Stand p l e R s m args below meth c T locs cells slots) (hx : p.tables.exec = Jvm.exec) {F : State → Prop} {pc : Nat} {Ls : Array Slot} {St : List Value} {dflt : Int} {pairs : Array (Int × Int)} {len : Nat} {i : Int32} (o : Int) (hd : decode c.code pc = .ok (.lookupswitch dflt pairs, len)) (hoff : lookupswitch.offset pairs.toList dflt i.toInt = o) (hso : (pairs.toList.zip pairs.toList.tail).all (fun q => decide (q.1.1 < q.2.1)) = true) (pc' : Nat) (ho : 0 ≤ (pc : Int) + o) (hp : ((pc : Int) + o).toNat = pc') (k : own_Go p.tables e below F (T.setTop (mkF m pc' Ls St))) : own_Go p.tables e below F (T.setTop (mkF m pc Ls (.int i :: St))) :=
  own_by (fun _ q => own_lsw0 X.here hx rfl (pc0 := pc) rfl hd rfl hoff hso ho hp q) k
theorem own_tsw (X : Stand p l e R s m args below meth c T locs cells slots) (hx : p.tables.exec = Jvm.exec) {F : State → Prop} {pc : Nat} {Ls : Array Slot} {St : List Value} {dflt lo hi : Int} {offs : Array Int} {len : Nat} {i : Int32} (o : Int) (hd : decode c.code pc = .ok (.tableswitch dflt lo hi offs, len)) (hin : ¬ (i.toInt < lo ∨ i.toInt > hi)) (hoff : offs[(i.toInt - lo).toNat]? = some o) (pc' : Nat) (ho : 0 ≤ (pc : Int) + o) (hp : ((pc : Int) + o).toNat = pc') (k : own_Go p.tables e below F (T.setTop (mkF m pc' Ls St))) : own_Go p.tables e below F (T.setTop (mkF m pc Ls (.int i :: St))) :=
  own_by (fun _ q => XS.tswIn X.here hx rfl (pc0 := pc) rfl hd rfl hin hoff ho hp q) k
theorem own_tswD (X : Stand p l e R s m args below meth c T locs cells slots) (hx : p.tables.exec = Jvm.exec) {F : State → Prop} {pc : Nat} {Ls : Array Slot} {St : List Value} {dflt lo hi : Int} {offs : Array Int} {len : Nat} {i : Int32} (hd : decode c.code pc = .ok (.tableswitch dflt lo hi offs, len)) (hout : i.toInt < lo ∨ i.toInt > hi) (pc' : Nat) (ho : 0 ≤ (pc : Int) + dflt) (hp : ((pc : Int) + dflt).toNat = pc') (k : own_Go p.tables e below F (T.setTop (mkF m pc' Ls St))) : own_Go p.tables e below F (T.setTop (mkF m pc Ls (.int i :: St))) :=
  own_by (fun _ q => XS.tswOut X.here hx rfl (pc0 := pc) rfl hd rfl hout ho hp q) k

theorem own_topI {F : State → Prop} {pc : Nat} {Ls : Array Slot} {St : List Value} {x : Int32} (z : Int32) (hz : x = z) (k : own_Go p.tables e below F (T.setTop (mkF m pc Ls (.int z :: St)))) : own_Go p.tables e below F (T.setTop (mkF m pc Ls (.int x :: St))) := by
  subst hz
  exact k
theorem own_topJ {F : State → Prop} {pc : Nat} {Ls : Array Slot} {St : List Value} {x : Int64} (z : Int64) (hz : x = z) (k : own_Go p.tables e below F (T.setTop (mkF m pc Ls (.long z :: St)))) : own_Go p.tables e below F (T.setTop (mkF m pc Ls (.long x :: St))) := by
  subst hz
  exact k
theorem own_lcmp0 (x : Int64) : lcmpW x x = 0 := by simp [lcmpW]
theorem own_lceq (x y : Int64) : lcmpW x y = (0 : Int32) ↔ x = y := by rw [lcW]; exact lc_eq x y
theorem own_iincC (X : Stand p l e R s m args below meth c T locs cells slots) (hx : p.tables.exec = Jvm.exec) {F : State → Prop} {pc : Nat} {Ls : Array Slot} {St : List Value} {i : Nat} {cst : Int} {x : Int32} (hd : decode c.code pc = .ok (.iinc i cst, 3)) (l' : Array Slot) (hl : Ls[i]? = some (.val (.int x))) (z : Int32) (hz : x + Int32.ofInt cst = z) (hl' : storeLocals Ls i (.int z) = some l') (pc' : Nat) (hp : pc + 3 = pc') (k : own_Go p.tables e below F (T.setTop (mkF m pc' l' St))) : own_Go p.tables e below F (T.setTop (mkF m pc Ls St)) := by
  subst hz
  exact own_iinc X hx hd l' hl hl' pc' hp k
/-- a body's contract: y, entered with 'as' over the heap h, ends, and Q holds of what it returns, of the heap and of the places written -/
abbrev own_Met (l : Launch) (y : MethodName) (bytes : ByteArray) (ml : Nat) (ret : Option FieldType) (ws : List Cond) (rm : Room) (Z : State) (as : Array Value) (h : Heap) (Q : Option Value → Heap → List Loc → Prop) : Prop :=
  MetFree l y (head1 (Jvm.Cond.code y bytes ml ret :: ws) rm) (fun a U => a = as ∧ Z.Warmed39 U.vm ∧ U.heap = h) (fun _ _ _ _ _ => True) (fun _ U o U' => ∃ v L, o = .returned v ∧ Q v U'.heap L ∧ FrameEnd U o U' L rm.cells rm.slots)
theorem own_met {y : MethodName} {bytes : ByteArray} {ml : Nat} {ret : Option FieldType} {ws : List Cond} {rm : Room} {as : Array Value} {Q : Option Value → Heap → List Loc → Prop} (hp : plainFor y = true)
    (body : ∀ (p : Program) (e : Env) (s : State) (m : MethodId) (below : List Frame) (meth : Method) (c : Code) (T0 : State), p.tables.exec = Jvm.exec → c.code = bytes → c.maxLocals = ml → s.vm.findClass y.cls = some m.cls → meth.sig.returnType = ret → meth.locks = false → meth.name = y.name → Z.Warmed39 s.vm →
      Stand p l e rm s m as below meth c T0 [] 0 0 → T0.heap = h → own_Go p.tables e below (own_Fin s below Q rm.cells rm.slots) (T0.setTop (entryFrame m as ml))) : own_Met l y bytes ml ret ws rm Z as h Q := by
  refine MetFree.of_bodySF hp hisR ?_
  intro p e s m args below meth c s₁ Bd hml0 hP hK
  obtain ⟨rfl, hZ, hh⟩ := hP
  have e0 : s₁.heap = h := by rw [← hh, Bd.state]; rfl
  obtain ⟨t, h1, o, h2, h3, h4⟩ := body p e s m below meth c s₁ Bd.exec Bd.bytes hml0 (findClass_of_methodNamed Bd.named) Bd.returns (BodyLoose.notSynchronized Bd) (name_of_methodNamed Bd.named Bd.method).1 hZ (Stand.of_body Bd) e0
  exact ⟨t, o, h1, h2, h3, h4⟩
theorem own_callS (X : Stand p l e R s m args below meth c T locs cells slots) (hx : p.tables.exec = Jvm.exec) (hZ : Z.Warmed39 s.vm) {own : String} {index : Nat} {y : MethodName} {bytes : ByteArray} {maxL : Nat} {ret : Option FieldType} {rm : Room} (hown : s.vm.findClass own = some m.cls)
    (w1 : (Cond.methodLink own index y).before a0 Z = true) (w2 : (Cond.static y).before a0 Z = true) (w3 : (Cond.initialized y.cls).before a0 Z = true) (w4 : (Cond.code y bytes maxL ret).before a0 Z = true) (hy : y.cls ≠ "java/lang/invoke/MethodHandle" ∧ y.cls ≠ "java/lang/invoke/VarHandle")
    {Q : Option Value → Heap → List Loc → Prop} (argsL rest : List Value) (W : Nat) (hM : own_Met l y bytes maxL ret [] rm Z argsL.toArray h Q) (hf : rm.frames + 1 ≤ R.frames) (hl : W + (maxL + 11) + rm.locals ≤ R.locals) (eT : T.heap = h) {pc : Nat} {Ls : Array Slot} (hsize : Ls.size = c.maxLocals)
    (hlen : ∀ sig, parseMethodDescriptor y.desc = some sig → argsL.length = sig.parameters.length) (hW : 2 * 0 + (rest.map fun v => v.category).sum ≤ W) (hd : decode c.code pc = .ok (.invokestatic index, 3)) (hC : cells + rm.cells ≤ R.cells) (hN : slots + rm.slots ≤ R.slots) :
    ∃ (v : Option Value) (T' : State) (L : List Loc), Stand p l e R s m args below meth c T' (locs ++ L) (cells + rm.cells) (slots + rm.slots) ∧ Q v T'.heap L ∧ ∀ target, Steps p.tables e below (T'.setTop (mkF m (pc + 3) Ls (v.toList ++ rest))) target → Steps p.tables e below (T.setTop (mkF m pc Ls (argsL.reverse ++ rest))) target := by
  obtain ⟨v, _, ⟨T', L', k', n'⟩, -, X', ⟨L, hQ, h1, h2, h3⟩, st⟩ := Jvm.LawKit.callS X hx (y := y) hown (mvT hZ w1) (mvT hZ w2) (mvT hZ w3) (mvT hZ w4) hy (backOf (W := W) hM hZ w4 w3 hf hl) (g := mkF m pc Ls (argsL.reverse ++ rest)) rfl hsize (argsL := argsL) (rest := rest) hlen rfl hW hd (fun _ _ => ⟨rfl, eT, hC, hN⟩)
  dsimp only [Pt.U, Pt.locs, Pt.cells, Pt.slots] at X' h1 h2 h3 st hQ
  subst h1 h2 h3
  exact ⟨v, T', L, X', hQ, st⟩
theorem own_callV (X : Stand p l e R s m args below meth c T locs cells slots) (hx : p.tables.exec = Jvm.exec) (hZ : Z.Warmed39 s.vm) {own C : String} {index : Nat} {y z : MethodName} {bytes : ByteArray} {maxL : Nat} {ret : Option FieldType} {rm : Room} (hown : s.vm.findClass own = some m.cls)
    (w1 : (Cond.methodLink own index y).before a0 Z = true) (w2 : (Cond.declares y).before a0 Z = true) (hnf : NotFace s y) (w3 : (Cond.selects C y z).before a0 Z = true) (w4 : (Cond.instanceMethod z).before a0 Z = true) (w5 : (Cond.initialized z.cls).before a0 Z = true) (w6 : (Cond.code z bytes maxL ret).before a0 Z = true) (hy : y.cls ≠ "java/lang/invoke/MethodHandle" ∧ y.cls ≠ "java/lang/invoke/VarHandle")
    {Q : Option Value → Heap → List Loc → Prop} (b : Addr) (argsL rest : List Value) (W : Nat) (hM : own_Met l z bytes maxL ret [] rm Z (.ref b :: argsL).toArray h Q) (hf : rm.frames + 1 ≤ R.frames) (hl : W + (maxL + 11) + rm.locals ≤ R.locals) (eT : T.heap = h) (E : Exa Z h b C) {pc : Nat} {Ls : Array Slot} (hsize : Ls.size = c.maxLocals)
    (hlen : ∀ sig, parseMethodDescriptor y.desc = some sig → argsL.length = sig.parameters.length) (hW : 2 * 0 + (rest.map fun v => v.category).sum ≤ W) (hd : decode c.code pc = .ok (.invokevirtual index, 3)) (hC : cells + rm.cells ≤ R.cells) (hN : slots + rm.slots ≤ R.slots) :
    ∃ (v : Option Value) (T' : State) (L : List Loc), Stand p l e R s m args below meth c T' (locs ++ L) (cells + rm.cells) (slots + rm.slots) ∧ Q v T'.heap L ∧ ∀ target, Steps p.tables e below (T'.setTop (mkF m (pc + 3) Ls (v.toList ++ rest))) target → Steps p.tables e below (T.setTop (mkF m pc Ls (argsL.reverse ++ .ref b :: rest))) target := by
  obtain ⟨cq, kq, qa, qb, qc⟩ := isOf hZ eT E
  obtain ⟨v, _, ⟨T', L', k', n'⟩, -, X', ⟨L, hQ, h1, h2, h3⟩, st⟩ := X.virtualBack hx (y := y) (z := z) hown (mvT hZ w1) (mvT hZ w2) hnf (mvT hZ w3) (mvT hZ w4) hy (backOf (W := W) hM hZ w6 w5 hf hl) qa qc (g := mkF m pc Ls (argsL.reverse ++ .ref b :: rest)) rfl hsize (Steps.refl _) (argsL := argsL) (rest := rest) hlen rfl hW hd (fun _ _ => ⟨rfl, eT, hC, hN⟩)
  dsimp only [Pt.U, Pt.locs, Pt.cells, Pt.slots] at X' h1 h2 h3 st hQ
  subst h1 h2 h3
  exact ⟨v, T', L, X', hQ, fun t k => st.trans k⟩
theorem own_callU (X : Stand p l e R s m args below meth c T locs cells slots) (hx : p.tables.exec = Jvm.exec) (hZ : Z.Warmed39 s.vm) {own C owner : String} {index : Nat} {x z : MethodName} {bytes : ByteArray} {maxL : Nat} {ret : Option FieldType} {rm : Room} (hown : s.vm.findClass own = some m.cls)
    (w1 : (Cond.methodLink own index x).before a0 Z = true) (w2 : (Cond.sameMethod x.cls owner x.name x.desc).before a0 Z = true) (w2' : (Cond.declares ⟨owner, x.name, x.desc⟩).before a0 Z = true) (hy : owner ≠ "java/lang/invoke/MethodHandle" ∧ owner ≠ "java/lang/invoke/VarHandle") (w3 : (Cond.selects C x z).before a0 Z = true) (w4 : (Cond.instanceMethod z).before a0 Z = true) (w5 : (Cond.initialized z.cls).before a0 Z = true) (w6 : (Cond.code z bytes maxL ret).before a0 Z = true)
    {Q : Option Value → Heap → List Loc → Prop} (b : Addr) (argsL rest : List Value) (W : Nat) (hM : own_Met l z bytes maxL ret [] rm Z (.ref b :: argsL).toArray h Q) (hf : rm.frames + 1 ≤ R.frames) (hl : W + (maxL + 11) + rm.locals ≤ R.locals) (eT : T.heap = h) (E : Exa Z h b C) {pc : Nat} {Ls : Array Slot} (hsize : Ls.size = c.maxLocals)
    (hlen : ∀ sig, parseMethodDescriptor x.desc = some sig → argsL.length = sig.parameters.length) (hW : 2 * 0 + (rest.map fun v => v.category).sum ≤ W) (hd : decode c.code pc = .ok (.invokevirtual index, 3)) (hC : cells + rm.cells ≤ R.cells) (hN : slots + rm.slots ≤ R.slots) :
    ∃ (v : Option Value) (T' : State) (L : List Loc), Stand p l e R s m args below meth c T' (locs ++ L) (cells + rm.cells) (slots + rm.slots) ∧ Q v T'.heap L ∧ ∀ target, Steps p.tables e below (T'.setTop (mkF m (pc + 3) Ls (v.toList ++ rest))) target → Steps p.tables e below (T.setTop (mkF m pc Ls (argsL.reverse ++ .ref b :: rest))) target := by
  obtain ⟨cq, kq, qa, qb, qc⟩ := isOf hZ eT E
  obtain ⟨v, _, ⟨T', L', k', n'⟩, -, X', ⟨L, hQ, h1, h2, h3⟩, st⟩ := X.virtualBackUp hx (x := x) (y := z) (owner := owner) hown (mvT hZ w1) (mvT hZ w2) (mvT hZ w2') hy (mvT hZ w3) (mvT hZ w4) (backOf (W := W) hM hZ w6 w5 hf hl) qa qc (g := mkF m pc Ls (argsL.reverse ++ .ref b :: rest)) rfl hsize (Steps.refl _) (argsL := argsL) (rest := rest) hlen rfl hW hd (fun _ _ => ⟨rfl, eT, hC, hN⟩)
  dsimp only [Pt.U, Pt.locs, Pt.cells, Pt.slots] at X' h1 h2 h3 st hQ
  subst h1 h2 h3
  exact ⟨v, T', L, X', hQ, fun t k => st.trans k⟩
theorem own_callN (X : Stand p l e R s m args below meth c T locs cells slots) (hx : p.tables.exec = Jvm.exec) (hZ : Z.Warmed39 s.vm) {own : String} {index : Nat} {y : MethodName} {bytes : ByteArray} {maxL : Nat} {rm : Room} (hy1 : y.name = "<init>") (hown : s.vm.findClass own = some m.cls)
    (w1 : (Cond.methodLink own index y).before a0 Z = true) (w4 : (Cond.instanceMethod y).before a0 Z = true) (w5 : (Cond.initialized y.cls).before a0 Z = true) (w6 : (Cond.code y bytes maxL none).before a0 Z = true) (hy : y.cls ≠ "java/lang/invoke/MethodHandle" ∧ y.cls ≠ "java/lang/invoke/VarHandle")
    {Q : Option Value → Heap → List Loc → Prop} (b : Addr) (argsL rest : List Value) (W : Nat) (hM : own_Met l y bytes maxL none [] rm Z (.ref b :: argsL).toArray h Q) (hf : rm.frames + 1 ≤ R.frames) (hl : W + (maxL + 11) + rm.locals ≤ R.locals) (eT : T.heap = h) {pc : Nat} {Ls : Array Slot} (hsize : Ls.size = c.maxLocals)
    (hlen : ∀ sig, parseMethodDescriptor y.desc = some sig → argsL.length = sig.parameters.length) (hW : 2 * 0 + (rest.map fun v => v.category).sum ≤ W) (hd : decode c.code pc = .ok (.invokespecial index, 3)) (hC : cells + rm.cells ≤ R.cells) (hN : slots + rm.slots ≤ R.slots) :
    ∃ (v : Option Value) (T' : State) (L : List Loc), Stand p l e R s m args below meth c T' (locs ++ L) (cells + rm.cells) (slots + rm.slots) ∧ Q v T'.heap L ∧ ∀ target, Steps p.tables e below (T'.setTop (mkF m (pc + 3) Ls (v.toList ++ rest))) target → Steps p.tables e below (T.setTop (mkF m pc Ls (argsL.reverse ++ .ref b :: rest))) target := by
  obtain ⟨v, _, ⟨T', L', k', n'⟩, -, X', ⟨L, hQ, h1, h2, h3⟩, st⟩ := X.specialBack hx (y := y) hy1 hown (mvT hZ w1) (mvT hZ w4) (mvT hZ w6) hy (backOf (W := W) hM hZ w6 w5 hf hl) (g := mkF m pc Ls (argsL.reverse ++ .ref b :: rest)) rfl hsize (Steps.refl _) (a := b) (argsL := argsL) (rest := rest) hlen rfl hW hd (fun _ _ => ⟨rfl, eT, hC, hN⟩)
  dsimp only [Pt.U, Pt.locs, Pt.cells, Pt.slots] at X' h1 h2 h3 st hQ
  subst h1 h2 h3
  exact ⟨v, T', L, X', hQ, fun t k => st.trans k⟩
abbrev own_HW (Z : State) (a0 : Array Value) : Prop := ∀ d ∈ tables_1, d.before a0 Z = true
theorem own_w {a0 : Array Value} {Z : State} (hw : ∀ d ∈ tables_1, d.before a0 Z = true) (i : Nat) {d : Jvm.Cond} (q : tables_1[i]? = some d) : d.before a0 Z = true := hw _ (List.mem_of_getElem? q)
/-- a body that writes nothing and makes nothing -/
def own_R (r : Option Value) (h0 : Heap) (v : Option Value) (h : Heap) (L : List Loc) : Prop := v = r ∧ h = h0 ∧ L = []
theorem own_same {rm : Room} {T' : State} {L : List Loc} (hc : rm.cells = 0) (hs : rm.slots = 0) (X : Stand p l e R s m args below meth c T' (locs ++ L) (cells + rm.cells) (slots + rm.slots)) (q : L = []) : Stand p l e R s m args below meth c T' locs cells slots := by
  subst q
  rw [hc, hs, List.append_nil] at X
  exact X
theorem own_pureS (X : Stand p l e R s m args below meth c T locs cells slots) (hx : p.tables.exec = Jvm.exec) {F : State → Prop} (hZ : Z.Warmed39 s.vm) {own : String} {index : Nat} {y : MethodName} {bytes : ByteArray} {maxL : Nat} {ret : Option FieldType} {rm : Room} (hown : s.vm.findClass own = some m.cls)
    (w1 : (Cond.methodLink own index y).before a0 Z = true) (w2 : (Cond.static y).before a0 Z = true) (w3 : (Cond.initialized y.cls).before a0 Z = true) (w4 : (Cond.code y bytes maxL ret).before a0 Z = true) (hy : y.cls ≠ "java/lang/invoke/MethodHandle" ∧ y.cls ≠ "java/lang/invoke/VarHandle")
    (argsL rest : List Value) (W : Nat) {r : Value} (hM : own_Met l y bytes maxL ret [] rm Z argsL.toArray h (own_R (some r) h)) (hf : rm.frames + 1 ≤ R.frames) (hl : W + (maxL + 11) + rm.locals ≤ R.locals) (hc0 : rm.cells = 0) (hs0 : rm.slots = 0) (eT : T.heap = h) {pc : Nat} {Ls : Array Slot} (hsize : Ls.size = c.maxLocals)
    (hlen : ∀ sig, parseMethodDescriptor y.desc = some sig → argsL.length = sig.parameters.length) (hW : 2 * 0 + (rest.map fun v => v.category).sum ≤ W) (hd : decode c.code pc = .ok (.invokestatic index, 3)) (pc' : Nat) (hp : pc + 3 = pc') {St : List Value} (hs : St = argsL.reverse ++ rest) (hC : cells ≤ R.cells) (hN : slots ≤ R.slots)
    (k : ∀ T', Stand p l e R s m args below meth c T' locs cells slots → T'.heap = h → own_Go p.tables e below F (T'.setTop (mkF m pc' Ls (r :: rest)))) : own_Go p.tables e below F (T.setTop (mkF m pc Ls St)) := by
  subst hp hs
  obtain ⟨v, T', L, X', ⟨q1, q2, q3⟩, st⟩ := own_callS X hx hZ hown w1 w2 w3 w4 hy argsL rest W hM hf hl eT hsize hlen hW hd (by rw [hc0]; exact hC) (by rw [hs0]; exact hN)
  subst q1
  exact own_by st (k T' (own_same hc0 hs0 X' q3) q2)
theorem own_pureV (X : Stand p l e R s m args below meth c T locs cells slots) (hx : p.tables.exec = Jvm.exec) {F : State → Prop} (hZ : Z.Warmed39 s.vm) {own C : String} {index : Nat} {y z : MethodName} {bytes : ByteArray} {maxL : Nat} {ret : Option FieldType} {rm : Room} (hown : s.vm.findClass own = some m.cls)
    (w1 : (Cond.methodLink own index y).before a0 Z = true) (w2 : (Cond.declares y).before a0 Z = true) (hnf : NotFace s y) (w3 : (Cond.selects C y z).before a0 Z = true) (w4 : (Cond.instanceMethod z).before a0 Z = true) (w5 : (Cond.initialized z.cls).before a0 Z = true) (w6 : (Cond.code z bytes maxL ret).before a0 Z = true) (hy : y.cls ≠ "java/lang/invoke/MethodHandle" ∧ y.cls ≠ "java/lang/invoke/VarHandle")
    (b : Addr) (argsL rest : List Value) (W : Nat) {r : Value} (hM : own_Met l z bytes maxL ret [] rm Z (.ref b :: argsL).toArray h (own_R (some r) h)) (hf : rm.frames + 1 ≤ R.frames) (hl : W + (maxL + 11) + rm.locals ≤ R.locals) (hc0 : rm.cells = 0) (hs0 : rm.slots = 0) (eT : T.heap = h) (E : Exa Z h b C) {pc : Nat} {Ls : Array Slot} (hsize : Ls.size = c.maxLocals)
    (hlen : ∀ sig, parseMethodDescriptor y.desc = some sig → argsL.length = sig.parameters.length) (hW : 2 * 0 + (rest.map fun v => v.category).sum ≤ W) (hd : decode c.code pc = .ok (.invokevirtual index, 3)) (pc' : Nat) (hp : pc + 3 = pc') {St : List Value} (hs : St = argsL.reverse ++ .ref b :: rest) (hC : cells ≤ R.cells) (hN : slots ≤ R.slots)
    (k : ∀ T', Stand p l e R s m args below meth c T' locs cells slots → T'.heap = h → own_Go p.tables e below F (T'.setTop (mkF m pc' Ls (r :: rest)))) : own_Go p.tables e below F (T.setTop (mkF m pc Ls St)) := by
  subst hp hs
  obtain ⟨v, T', L, X', ⟨q1, q2, q3⟩, st⟩ := own_callV X hx hZ hown w1 w2 hnf w3 w4 w5 w6 hy b argsL rest W hM hf hl eT E hsize hlen hW hd (by rw [hc0]; exact hC) (by rw [hs0]; exact hN)
  subst q1
  exact own_by st (k T' (own_same hc0 hs0 X' q3) q2)
theorem own_pureU (X : Stand p l e R s m args below meth c T locs cells slots) (hx : p.tables.exec = Jvm.exec) {F : State → Prop} (hZ : Z.Warmed39 s.vm) {own C owner : String} {index : Nat} {x z : MethodName} {bytes : ByteArray} {maxL : Nat} {ret : Option FieldType} {rm : Room} (hown : s.vm.findClass own = some m.cls)
    (w1 : (Cond.methodLink own index x).before a0 Z = true) (w2 : (Cond.sameMethod x.cls owner x.name x.desc).before a0 Z = true) (w2' : (Cond.declares ⟨owner, x.name, x.desc⟩).before a0 Z = true) (hy : owner ≠ "java/lang/invoke/MethodHandle" ∧ owner ≠ "java/lang/invoke/VarHandle") (w3 : (Cond.selects C x z).before a0 Z = true) (w4 : (Cond.instanceMethod z).before a0 Z = true) (w5 : (Cond.initialized z.cls).before a0 Z = true) (w6 : (Cond.code z bytes maxL ret).before a0 Z = true)
    (b : Addr) (argsL rest : List Value) (W : Nat) {r : Value} (hM : own_Met l z bytes maxL ret [] rm Z (.ref b :: argsL).toArray h (own_R (some r) h)) (hf : rm.frames + 1 ≤ R.frames) (hl : W + (maxL + 11) + rm.locals ≤ R.locals) (hc0 : rm.cells = 0) (hs0 : rm.slots = 0) (eT : T.heap = h) (E : Exa Z h b C) {pc : Nat} {Ls : Array Slot} (hsize : Ls.size = c.maxLocals)
    (hlen : ∀ sig, parseMethodDescriptor x.desc = some sig → argsL.length = sig.parameters.length) (hW : 2 * 0 + (rest.map fun v => v.category).sum ≤ W) (hd : decode c.code pc = .ok (.invokevirtual index, 3)) (pc' : Nat) (hp : pc + 3 = pc') {St : List Value} (hs : St = argsL.reverse ++ .ref b :: rest) (hC : cells ≤ R.cells) (hN : slots ≤ R.slots)
    (k : ∀ T', Stand p l e R s m args below meth c T' locs cells slots → T'.heap = h → own_Go p.tables e below F (T'.setTop (mkF m pc' Ls (r :: rest)))) : own_Go p.tables e below F (T.setTop (mkF m pc Ls St)) := by
  subst hp hs
  obtain ⟨v, T', L, X', ⟨q1, q2, q3⟩, st⟩ := own_callU X hx hZ hown w1 w2 w2' hy w3 w4 w5 w6 b argsL rest W hM hf hl eT E hsize hlen hW hd (by rw [hc0]; exact hC) (by rw [hs0]; exact hN)
  subst q1
  exact own_by st (k T' (own_same hc0 hs0 X' q3) q2)
theorem own_voidS (X : Stand p l e R s m args below meth c T locs cells slots) (hx : p.tables.exec = Jvm.exec) {F : State → Prop} (hZ : Z.Warmed39 s.vm) {own : String} {index : Nat} {y : MethodName} {bytes : ByteArray} {maxL : Nat} {ret : Option FieldType} {rm : Room} (hown : s.vm.findClass own = some m.cls)
    (w1 : (Cond.methodLink own index y).before a0 Z = true) (w2 : (Cond.static y).before a0 Z = true) (w3 : (Cond.initialized y.cls).before a0 Z = true) (w4 : (Cond.code y bytes maxL ret).before a0 Z = true) (hy : y.cls ≠ "java/lang/invoke/MethodHandle" ∧ y.cls ≠ "java/lang/invoke/VarHandle")
    (argsL rest : List Value) (W : Nat) (hM : own_Met l y bytes maxL ret [] rm Z argsL.toArray h (own_R none h)) (hf : rm.frames + 1 ≤ R.frames) (hl : W + (maxL + 11) + rm.locals ≤ R.locals) (hc0 : rm.cells = 0) (hs0 : rm.slots = 0) (eT : T.heap = h) {pc : Nat} {Ls : Array Slot} (hsize : Ls.size = c.maxLocals)
    (hlen : ∀ sig, parseMethodDescriptor y.desc = some sig → argsL.length = sig.parameters.length) (hW : 2 * 0 + (rest.map fun v => v.category).sum ≤ W) (hd : decode c.code pc = .ok (.invokestatic index, 3)) (pc' : Nat) (hp : pc + 3 = pc') {St : List Value} (hs : St = argsL.reverse ++ rest) (hC : cells ≤ R.cells) (hN : slots ≤ R.slots)
    (k : ∀ T', Stand p l e R s m args below meth c T' locs cells slots → T'.heap = h → own_Go p.tables e below F (T'.setTop (mkF m pc' Ls rest))) : own_Go p.tables e below F (T.setTop (mkF m pc Ls St)) := by
  subst hp hs
  obtain ⟨v, T', L, X', ⟨q1, q2, q3⟩, st⟩ := own_callS X hx hZ hown w1 w2 w3 w4 hy argsL rest W hM hf hl eT hsize hlen hW hd (by rw [hc0]; exact hC) (by rw [hs0]; exact hN)
  subst q1
  exact own_by st (k T' (own_same hc0 hs0 X' q3) q2)
theorem own_voidV (X : Stand p l e R s m args below meth c T locs cells slots) (hx : p.tables.exec = Jvm.exec) {F : State → Prop} (hZ : Z.Warmed39 s.vm) {own C : String} {index : Nat} {y z : MethodName} {bytes : ByteArray} {maxL : Nat} {ret : Option FieldType} {rm : Room} (hown : s.vm.findClass own = some m.cls)
    (w1 : (Cond.methodLink own index y).before a0 Z = true) (w2 : (Cond.declares y).before a0 Z = true) (hnf : NotFace s y) (w3 : (Cond.selects C y z).before a0 Z = true) (w4 : (Cond.instanceMethod z).before a0 Z = true) (w5 : (Cond.initialized z.cls).before a0 Z = true) (w6 : (Cond.code z bytes maxL ret).before a0 Z = true) (hy : y.cls ≠ "java/lang/invoke/MethodHandle" ∧ y.cls ≠ "java/lang/invoke/VarHandle")
    (b : Addr) (argsL rest : List Value) (W : Nat) (hM : own_Met l z bytes maxL ret [] rm Z (.ref b :: argsL).toArray h (own_R none h)) (hf : rm.frames + 1 ≤ R.frames) (hl : W + (maxL + 11) + rm.locals ≤ R.locals) (hc0 : rm.cells = 0) (hs0 : rm.slots = 0) (eT : T.heap = h) (E : Exa Z h b C) {pc : Nat} {Ls : Array Slot} (hsize : Ls.size = c.maxLocals)
    (hlen : ∀ sig, parseMethodDescriptor y.desc = some sig → argsL.length = sig.parameters.length) (hW : 2 * 0 + (rest.map fun v => v.category).sum ≤ W) (hd : decode c.code pc = .ok (.invokevirtual index, 3)) (pc' : Nat) (hp : pc + 3 = pc') {St : List Value} (hs : St = argsL.reverse ++ .ref b :: rest) (hC : cells ≤ R.cells) (hN : slots ≤ R.slots)
    (k : ∀ T', Stand p l e R s m args below meth c T' locs cells slots → T'.heap = h → own_Go p.tables e below F (T'.setTop (mkF m pc' Ls rest))) : own_Go p.tables e below F (T.setTop (mkF m pc Ls St)) := by
  subst hp hs
  obtain ⟨v, T', L, X', ⟨q1, q2, q3⟩, st⟩ := own_callV X hx hZ hown w1 w2 hnf w3 w4 w5 w6 hy b argsL rest W hM hf hl eT E hsize hlen hW hd (by rw [hc0]; exact hC) (by rw [hs0]; exact hN)
  subst q1
  exact own_by st (k T' (own_same hc0 hs0 X' q3) q2)
theorem own_voidN (X : Stand p l e R s m args below meth c T locs cells slots) (hx : p.tables.exec = Jvm.exec) {F : State → Prop} (hZ : Z.Warmed39 s.vm) {own : String} {index : Nat} {y : MethodName} {bytes : ByteArray} {maxL : Nat} {rm : Room} (hy1 : y.name = "<init>") (hown : s.vm.findClass own = some m.cls)
    (w1 : (Cond.methodLink own index y).before a0 Z = true) (w4 : (Cond.instanceMethod y).before a0 Z = true) (w5 : (Cond.initialized y.cls).before a0 Z = true) (w6 : (Cond.code y bytes maxL none).before a0 Z = true) (hy : y.cls ≠ "java/lang/invoke/MethodHandle" ∧ y.cls ≠ "java/lang/invoke/VarHandle")
    (b : Addr) (argsL rest : List Value) (W : Nat) (hM : own_Met l y bytes maxL none [] rm Z (.ref b :: argsL).toArray h (own_R none h)) (hf : rm.frames + 1 ≤ R.frames) (hl : W + (maxL + 11) + rm.locals ≤ R.locals) (hc0 : rm.cells = 0) (hs0 : rm.slots = 0) (eT : T.heap = h) {pc : Nat} {Ls : Array Slot} (hsize : Ls.size = c.maxLocals)
    (hlen : ∀ sig, parseMethodDescriptor y.desc = some sig → argsL.length = sig.parameters.length) (hW : 2 * 0 + (rest.map fun v => v.category).sum ≤ W) (hd : decode c.code pc = .ok (.invokespecial index, 3)) (pc' : Nat) (hp : pc + 3 = pc') {St : List Value} (hs : St = argsL.reverse ++ .ref b :: rest) (hC : cells ≤ R.cells) (hN : slots ≤ R.slots)
    (k : ∀ T', Stand p l e R s m args below meth c T' locs cells slots → T'.heap = h → own_Go p.tables e below F (T'.setTop (mkF m pc' Ls rest))) : own_Go p.tables e below F (T.setTop (mkF m pc Ls St)) := by
  subst hp hs
  obtain ⟨v, T', L, X', ⟨q1, q2, q3⟩, st⟩ := own_callN X hx hZ hy1 hown w1 w4 w5 w6 hy b argsL rest W hM hf hl eT hsize hlen hW hd (by rw [hc0]; exact hC) (by rw [hs0]; exact hN)
  subst q1
  exact own_by st (k T' (own_same hc0 hs0 X' q3) q2)
def own_Q0 (n0 : Nat) (v : Option Value) (h : Heap) (L : List Loc) : Prop := v = some (.int 1) ∧ Fr n0 L
end OwnHead
theorem own_fldI {Z : State} {args : Array Value} {t : Term} {a : Addr} {C n d : String} {k : Int32} (ev : t.eval args Z none [] Z = some (.ref a)) (q : (Cond.eq (.field t C n d) (.int k)).value args Z none Z [] = some true) : Fld Z Z.heap a C n d (.int k) := by
  exact Fld.start ((fld_at ev).symm.trans (eqv_i (F := .int k) rfl q))
theorem own_fldN {Z : State} {args : Array Value} {t : Term} {a : Addr} {C n d : String} (ev : t.eval args Z none [] Z = some (.ref a)) (q : (Cond.eq (.field t C n d) .null).value args Z none Z [] = some true) : Fld Z Z.heap a C n d .null := by
  exact Fld.start ((fld_at ev).symm.trans (null_v q))
theorem own_fldR {Z : State} {args : Array Value} {t u : Term} {a b : Addr} {C n d : String} (ev : t.eval args Z none [] Z = some (.ref a)) (eu : u.eval args Z none [] Z = some (.ref b)) (q : (Cond.eq (.field t C n d) u).value args Z none Z [] = some true) : Fld Z Z.heap a C n d (.ref b) := by
  obtain ⟨x, y, hx, hy, hk, hk'⟩ := cmp_v (Or.inl q)
  cases eu.symm.trans hy
  refine Fld.start ((fld_at ev).symm.trans ?_)
  rw [hx]
  cases x with
  | ref z => simp [Cond.value, hx, hy] at q; rw [q]
  | null => simp [Cond.value, hx, hy] at q
  | _ => simp_all [Kin, Value.isRef]

def own_C (Z : State) (h0 : Heap) (w_Role_LOAD w_Quantity_MOVEMENT w_Role_Period_INTERVAL w_Role_Period_HOUR w_Role_VIRTUAL_LOAD w_Quantity_RT w_Quantity_BID w_Quantity_ACTUAL w_Role_VIRTUAL_SUPPLY w_Quantity_DA w_Role_SUPPLIER w_Role_HUB_POI w_Quantity_PERFORMANCE w_Role_REGULATION w_Role_EXPORT w_Role_IMPORT w_Role_HUB_POW : Addr) : Prop := Sta Z h0 "com/example/gridledger/gridledger/positions/Role" "LOAD" "Lcom/example/gridledger/gridledger/positions/Role;" (.ref w_Role_LOAD) ∧ Exa Z h0 w_Role_LOAD "com/example/gridledger/gridledger/positions/Role" ∧ Sta Z h0 "com/example/gridledger/gridledger/positions/Quantity" "MOVEMENT" "Lcom/example/gridledger/gridledger/positions/Quantity;" (.ref w_Quantity_MOVEMENT) ∧ Exa Z h0 w_Quantity_MOVEMENT "com/example/gridledger/gridledger/positions/Quantity" ∧ Sta Z h0 "com/example/gridledger/gridledger/positions/Role$Period" "INTERVAL" "Lcom/example/gridledger/gridledger/positions/Role$Period;" (.ref w_Role_Period_INTERVAL) ∧ Exa Z h0 w_Role_Period_INTERVAL "com/example/gridledger/gridledger/positions/Role$Period" ∧ Sta Z h0 "com/example/gridledger/gridledger/positions/Role$Period" "HOUR" "Lcom/example/gridledger/gridledger/positions/Role$Period;" (.ref w_Role_Period_HOUR) ∧ Exa Z h0 w_Role_Period_HOUR "com/example/gridledger/gridledger/positions/Role$Period" ∧ Sta Z h0 "com/example/gridledger/gridledger/positions/Role" "VIRTUAL_LOAD" "Lcom/example/gridledger/gridledger/positions/Role;" (.ref w_Role_VIRTUAL_LOAD) ∧ Exa Z h0 w_Role_VIRTUAL_LOAD "com/example/gridledger/gridledger/positions/Role" ∧ Sta Z h0 "com/example/gridledger/gridledger/positions/Quantity" "RT" "Lcom/example/gridledger/gridledger/positions/Quantity;" (.ref w_Quantity_RT) ∧ Exa Z h0 w_Quantity_RT "com/example/gridledger/gridledger/positions/Quantity" ∧ Sta Z h0 "com/example/gridledger/gridledger/positions/Quantity" "BID" "Lcom/example/gridledger/gridledger/positions/Quantity;" (.ref w_Quantity_BID) ∧ Exa Z h0 w_Quantity_BID "com/example/gridledger/gridledger/positions/Quantity" ∧ Sta Z h0 "com/example/gridledger/gridledger/positions/Quantity" "ACTUAL" "Lcom/example/gridledger/gridledger/positions/Quantity;" (.ref w_Quantity_ACTUAL) ∧ Exa Z h0 w_Quantity_ACTUAL "com/example/gridledger/gridledger/positions/Quantity" ∧ Sta Z h0 "com/example/gridledger/gridledger/positions/Role" "VIRTUAL_SUPPLY" "Lcom/example/gridledger/gridledger/positions/Role;" (.ref w_Role_VIRTUAL_SUPPLY) ∧ Exa Z h0 w_Role_VIRTUAL_SUPPLY "com/example/gridledger/gridledger/positions/Role" ∧ Sta Z h0 "com/example/gridledger/gridledger/positions/Quantity" "DA" "Lcom/example/gridledger/gridledger/positions/Quantity;" (.ref w_Quantity_DA) ∧ Exa Z h0 w_Quantity_DA "com/example/gridledger/gridledger/positions/Quantity" ∧ Sta Z h0 "com/example/gridledger/gridledger/positions/Role" "SUPPLIER" "Lcom/example/gridledger/gridledger/positions/Role;" (.ref w_Role_SUPPLIER) ∧ Exa Z h0 w_Role_SUPPLIER "com/example/gridledger/gridledger/positions/Role" ∧ Sta Z h0 "com/example/gridledger/gridledger/positions/Role" "HUB_POI" "Lcom/example/gridledger/gridledger/positions/Role;" (.ref w_Role_HUB_POI) ∧ Exa Z h0 w_Role_HUB_POI "com/example/gridledger/gridledger/positions/Role" ∧ Sta Z h0 "com/example/gridledger/gridledger/positions/Quantity" "PERFORMANCE" "Lcom/example/gridledger/gridledger/positions/Quantity;" (.ref w_Quantity_PERFORMANCE) ∧ Exa Z h0 w_Quantity_PERFORMANCE "com/example/gridledger/gridledger/positions/Quantity" ∧ Sta Z h0 "com/example/gridledger/gridledger/positions/Role" "REGULATION" "Lcom/example/gridledger/gridledger/positions/Role;" (.ref w_Role_REGULATION) ∧ Exa Z h0 w_Role_REGULATION "com/example/gridledger/gridledger/positions/Role" ∧ Sta Z h0 "com/example/gridledger/gridledger/positions/Role" "EXPORT" "Lcom/example/gridledger/gridledger/positions/Role;" (.ref w_Role_EXPORT) ∧ Exa Z h0 w_Role_EXPORT "com/example/gridledger/gridledger/positions/Role" ∧ Sta Z h0 "com/example/gridledger/gridledger/positions/Role" "IMPORT" "Lcom/example/gridledger/gridledger/positions/Role;" (.ref w_Role_IMPORT) ∧ Exa Z h0 w_Role_IMPORT "com/example/gridledger/gridledger/positions/Role" ∧ Sta Z h0 "com/example/gridledger/gridledger/positions/Role" "HUB_POW" "Lcom/example/gridledger/gridledger/positions/Role;" (.ref w_Role_HUB_POW) ∧ Exa Z h0 w_Role_HUB_POW "com/example/gridledger/gridledger/positions/Role" ∧ Fld Z h0 w_Quantity_MOVEMENT "com/example/gridledger/gridledger/positions/Quantity" "hourly" "Z" (.int (0 : Int32)) ∧ Fld Z h0 w_Role_LOAD "com/example/gridledger/gridledger/positions/Role" "period" "Lcom/example/gridledger/gridledger/positions/Role$Period;" (.ref w_Role_Period_INTERVAL) ∧ Fld Z h0 w_Role_Period_INTERVAL "java/lang/Enum" "ordinal" "I" (.int (0 : Int32)) ∧ Fld Z h0 w_Role_Period_HOUR "java/lang/Enum" "ordinal" "I" (.int (1 : Int32)) ∧ Fld Z h0 w_Quantity_RT "com/example/gridledger/gridledger/positions/Quantity" "hourly" "Z" (.int (0 : Int32)) ∧ Fld Z h0 w_Role_VIRTUAL_LOAD "com/example/gridledger/gridledger/positions/Role" "period" "Lcom/example/gridledger/gridledger/positions/Role$Period;" (.ref w_Role_Period_HOUR) ∧ Fld Z h0 w_Quantity_BID "com/example/gridledger/gridledger/positions/Quantity" "hourly" "Z" (.int (1 : Int32)) ∧ Fld Z h0 w_Quantity_ACTUAL "com/example/gridledger/gridledger/positions/Quantity" "hourly" "Z" (.int (0 : Int32)) ∧ Fld Z h0 w_Quantity_DA "com/example/gridledger/gridledger/positions/Quantity" "hourly" "Z" (.int (1 : Int32)) ∧ Fld Z h0 w_Role_SUPPLIER "com/example/gridledger/gridledger/positions/Role" "period" "Lcom/example/gridledger/gridledger/positions/Role$Period;" (.ref w_Role_Period_INTERVAL) ∧ Fld Z h0 w_Quantity_PERFORMANCE "com/example/gridledger/gridledger/positions/Quantity" "hourly" "Z" (.int (0 : Int32)) ∧ Fld Z h0 w_Role_HUB_POI "com/example/gridledger/gridledger/positions/Role" "period" "Lcom/example/gridledger/gridledger/positions/Role$Period;" (.ref w_Role_Period_HOUR) ∧ Fld Z h0 w_Role_REGULATION "com/example/gridledger/gridledger/positions/Role" "period" "Lcom/example/gridledger/gridledger/positions/Role$Period;" (.ref w_Role_Period_INTERVAL) ∧ Fld Z h0 w_Role_IMPORT "com/example/gridledger/gridledger/positions/Role" "period" "Lcom/example/gridledger/gridledger/positions/Role$Period;" (.ref w_Role_Period_INTERVAL) ∧ Fld Z h0 w_Role_EXPORT "com/example/gridledger/gridledger/positions/Role" "period" "Lcom/example/gridledger/gridledger/positions/Role$Period;" (.ref w_Role_Period_INTERVAL) ∧ Fld Z h0 w_Role_VIRTUAL_SUPPLY "com/example/gridledger/gridledger/positions/Role" "period" "Lcom/example/gridledger/gridledger/positions/Role$Period;" (.ref w_Role_Period_HOUR) ∧ Fld Z h0 w_Role_HUB_POW "com/example/gridledger/gridledger/positions/Role" "period" "Lcom/example/gridledger/gridledger/positions/Role$Period;" (.ref w_Role_Period_HOUR) ∧ w_Role_Period_HOUR ≠ w_Role_Period_INTERVAL
theorem own_mod9 (x : Int32) : ((x &&& (2147483647 : Int32)) % (9 : Int32)) = (0 : Int32) ∨ ((x &&& (2147483647 : Int32)) % (9 : Int32)) = (1 : Int32) ∨ ((x &&& (2147483647 : Int32)) % (9 : Int32)) = (2 : Int32) ∨ ((x &&& (2147483647 : Int32)) % (9 : Int32)) = (3 : Int32) ∨ ((x &&& (2147483647 : Int32)) % (9 : Int32)) = (4 : Int32) ∨ ((x &&& (2147483647 : Int32)) % (9 : Int32)) = (5 : Int32) ∨ ((x &&& (2147483647 : Int32)) % (9 : Int32)) = (6 : Int32) ∨ ((x &&& (2147483647 : Int32)) % (9 : Int32)) = (7 : Int32) ∨ ((x &&& (2147483647 : Int32)) % (9 : Int32)) = (8 : Int32) := by
  have e := Jvm.Kit.i32_mask x (2147483647 : Int32) (k := 31) (by decide) (by decide)
  have r : ((x &&& (2147483647 : Int32)) % (9 : Int32)).toInt = (x &&& (2147483647 : Int32)).toInt % ((9 : Int32)).toInt := Jvm.Kit.i32_rem_nonneg (by rw [e]; omega)
  have l0 : ((0 : Int32)).toInt = 0 := by decide
  have l1 : ((1 : Int32)).toInt = 1 := by decide
  have l2 : ((2 : Int32)).toInt = 2 := by decide
  have l3 : ((3 : Int32)).toInt = 3 := by decide
  have l4 : ((4 : Int32)).toInt = 4 := by decide
  have l5 : ((5 : Int32)).toInt = 5 := by decide
  have l6 : ((6 : Int32)).toInt = 6 := by decide
  have l7 : ((7 : Int32)).toInt = 7 := by decide
  have l8 : ((8 : Int32)).toInt = 8 := by decide
  have l9 : ((9 : Int32)).toInt = 9 := by decide
  rw [l9] at r
  simp only [← Int32.toInt_inj, l0, l1, l2, l3, l4, l5, l6, l7, l8]
  generalize ((x &&& (2147483647 : Int32)) % (9 : Int32)).toInt = z at r ⊢
  omega
theorem own_mod6 (x : Int32) : ((x &&& (2147483647 : Int32)) % (6 : Int32)) = (0 : Int32) ∨ ((x &&& (2147483647 : Int32)) % (6 : Int32)) = (1 : Int32) ∨ ((x &&& (2147483647 : Int32)) % (6 : Int32)) = (2 : Int32) ∨ ((x &&& (2147483647 : Int32)) % (6 : Int32)) = (3 : Int32) ∨ ((x &&& (2147483647 : Int32)) % (6 : Int32)) = (4 : Int32) ∨ ((x &&& (2147483647 : Int32)) % (6 : Int32)) = (5 : Int32) := by
  have e := Jvm.Kit.i32_mask x (2147483647 : Int32) (k := 31) (by decide) (by decide)
  have r : ((x &&& (2147483647 : Int32)) % (6 : Int32)).toInt = (x &&& (2147483647 : Int32)).toInt % ((6 : Int32)).toInt := Jvm.Kit.i32_rem_nonneg (by rw [e]; omega)
  have l0 : ((0 : Int32)).toInt = 0 := by decide
  have l1 : ((1 : Int32)).toInt = 1 := by decide
  have l2 : ((2 : Int32)).toInt = 2 := by decide
  have l3 : ((3 : Int32)).toInt = 3 := by decide
  have l4 : ((4 : Int32)).toInt = 4 := by decide
  have l5 : ((5 : Int32)).toInt = 5 := by decide
  have l6 : ((6 : Int32)).toInt = 6 := by decide
  rw [l6] at r
  simp only [← Int32.toInt_inj, l0, l1, l2, l3, l4, l5]
  generalize ((x &&& (2147483647 : Int32)) % (6 : Int32)).toInt = z at r ⊢
  omega
theorem d0_0 : decode method_2_code 0 = .ok (.iload_n 0, 1) := by decide +kernel
theorem d0_1 : decode method_2_code 1 = .ok (.ifCond .ne 7, 3) := by decide +kernel
theorem d0_4 : decode method_2_code 4 = .ok (.getstatic 7, 3) := by decide +kernel
theorem d0_7 : decode method_2_code 7 = .ok (.areturn, 1) := by decide +kernel
theorem pn_0 : plainName "com/example/gridledger/gridledger/positions/RoleSpansHourPinLaw" = true := by first | (simp [plainName, overriddenIn]; done) | decide +kernel
theorem ef_0 (m : MethodId) (y0 : Int32) : entryFrame m #[(.int y0)] 1 = mkF m 0 #[.val (.int y0)] [] := by first | (simp [entryFrame, mkF, argsToLocals, Value.category]; done) | rfl
theorem rm_role_1 (l : Launch) (Z : State) (a0 : Array Value) (hw : own_HW Z a0) (ws : List Jvm.Cond)  (h0 : Heap) (n0 : Nat) {w_Role_LOAD w_Quantity_MOVEMENT w_Role_Period_INTERVAL w_Role_Period_HOUR w_Role_VIRTUAL_LOAD w_Quantity_RT w_Quantity_BID w_Quantity_ACTUAL w_Role_VIRTUAL_SUPPLY w_Quantity_DA w_Role_SUPPLIER w_Role_HUB_POI w_Quantity_PERFORMANCE w_Role_REGULATION w_Role_EXPORT w_Role_IMPORT w_Role_HUB_POW : Addr} (H : own_C Z h0 w_Role_LOAD w_Quantity_MOVEMENT w_Role_Period_INTERVAL w_Role_Period_HOUR w_Role_VIRTUAL_LOAD w_Quantity_RT w_Quantity_BID w_Quantity_ACTUAL w_Role_VIRTUAL_SUPPLY w_Quantity_DA w_Role_SUPPLIER w_Role_HUB_POI w_Quantity_PERFORMANCE w_Role_REGULATION w_Role_EXPORT w_Role_IMPORT w_Role_HUB_POW) :
    own_Met l (⟨"com/example/gridledger/gridledger/positions/RoleSpansHourPinLaw", "role", "(I)Lcom/example/gridledger/gridledger/positions/Role;"⟩ : MethodName) method_2_code 1 (some (.object "com/example/gridledger/gridledger/positions/Role")) ws (own_rm 0 0 0 0) Z #[(.int (0 : Int32))] h0 (own_R (some (.ref w_Role_LOAD)) h0) := by
  refine own_met (plainFor_of_name pn_0) ?_
  intro p e s m below meth c T0 hx hby hml hown hret hk hnm hZ X0 e0
  have hown : s.vm.findClass "com/example/gridledger/gridledger/positions/RoleSpansHourPinLaw" = some m.cls := hown
  obtain ⟨S_w_Role_LOAD, -, -, -, -, -, -, -, -, -, -, -, -, -, -, -, -, -, -, -, -, -, -, -, -, -, -, -, -, -, -, -, -, -, -, -, -, -, -, -, -, -, -, -, -, -, -, -, -, -, -, -⟩ := id H
  refine own_ent (ef_0 m (0 : Int32)) ?_
  refine own_iload_n X0 hx (hb hby d0_0) rfl 1 rfl ?_
  refine own_ifN X0 hx (hb hby d0_1) ((if0 _ _).trans (teq (by decide : (0 : Int32) = (0 : Int32))).2) 4 rfl ?_
  refine own_getS X0 hx hZ hown (host := "") (Or.inl (own_w hw 5 rfl)) Via.refl e0 S_w_Role_LOAD (hb hby d0_4) 7 rfl fun T1 X1 e1 => ?_
  exact own_retA X1 hx hk hret rfl rfl (hb hby d0_7) rfl ⟨rfl, e1, rfl⟩ (by decide) (by decide)
theorem d1_0 : decode method_3_code 0 = .ok (.iload_n 0, 1) := by decide +kernel
theorem d1_1 : decode method_3_code 1 = .ok (.ifCond .ne 7, 3) := by decide +kernel
theorem d1_4 : decode method_3_code 4 = .ok (.getstatic 37, 3) := by decide +kernel
theorem d1_7 : decode method_3_code 7 = .ok (.areturn, 1) := by decide +kernel
theorem rm_quantity_2 (l : Launch) (Z : State) (a0 : Array Value) (hw : own_HW Z a0) (ws : List Jvm.Cond)  (h0 : Heap) (n0 : Nat) {w_Role_LOAD w_Quantity_MOVEMENT w_Role_Period_INTERVAL w_Role_Period_HOUR w_Role_VIRTUAL_LOAD w_Quantity_RT w_Quantity_BID w_Quantity_ACTUAL w_Role_VIRTUAL_SUPPLY w_Quantity_DA w_Role_SUPPLIER w_Role_HUB_POI w_Quantity_PERFORMANCE w_Role_REGULATION w_Role_EXPORT w_Role_IMPORT w_Role_HUB_POW : Addr} (H : own_C Z h0 w_Role_LOAD w_Quantity_MOVEMENT w_Role_Period_INTERVAL w_Role_Period_HOUR w_Role_VIRTUAL_LOAD w_Quantity_RT w_Quantity_BID w_Quantity_ACTUAL w_Role_VIRTUAL_SUPPLY w_Quantity_DA w_Role_SUPPLIER w_Role_HUB_POI w_Quantity_PERFORMANCE w_Role_REGULATION w_Role_EXPORT w_Role_IMPORT w_Role_HUB_POW) :
    own_Met l (⟨"com/example/gridledger/gridledger/positions/RoleSpansHourPinLaw", "quantity", "(I)Lcom/example/gridledger/gridledger/positions/Quantity;"⟩ : MethodName) method_3_code 1 (some (.object "com/example/gridledger/gridledger/positions/Quantity")) ws (own_rm 0 0 0 0) Z #[(.int (0 : Int32))] h0 (own_R (some (.ref w_Quantity_DA)) h0) := by
  refine own_met (plainFor_of_name pn_0) ?_
  intro p e s m below meth c T0 hx hby hml hown hret hk hnm hZ X0 e0
  have hown : s.vm.findClass "com/example/gridledger/gridledger/positions/RoleSpansHourPinLaw" = some m.cls := hown
  obtain ⟨-, -, -, -, -, -, -, -, -, -, -, -, -, -, -, -, -, -, S_w_Quantity_DA, -, -, -, -, -, -, -, -, -, -, -, -, -, -, -, -, -, -, -, -, -, -, -, -, -, -, -, -, -, -, -, -, -⟩ := id H
  refine own_ent (ef_0 m (0 : Int32)) ?_
  refine own_iload_n X0 hx (hb hby d1_0) rfl 1 rfl ?_
  refine own_ifN X0 hx (hb hby d1_1) ((if0 _ _).trans (teq (by decide : (0 : Int32) = (0 : Int32))).2) 4 rfl ?_
  refine own_getS X0 hx hZ hown (host := "") (Or.inl (own_w hw 42 rfl)) Via.refl e0 S_w_Quantity_DA (hb hby d1_4) 7 rfl fun T1 X1 e1 => ?_
  exact own_retA X1 hx hk hret rfl rfl (hb hby d1_7) rfl ⟨rfl, e1, rfl⟩ (by decide) (by decide)
theorem d3_0 : decode prog_40_method_5_code 0 = .ok (.aload_n 0, 1) := by decide +kernel
theorem d3_1 : decode prog_40_method_5_code 1 = .ok (.getfield 45, 3) := by decide +kernel
theorem d3_4 : decode prog_40_method_5_code 4 = .ok (.ireturn, 1) := by decide +kernel
theorem pn_1 : plainName "com/example/gridledger/gridledger/positions/Quantity" = true := by first | (simp [plainName, overriddenIn]; done) | decide +kernel
theorem ef_1 (m : MethodId) (y0 : Addr) : entryFrame m #[(.ref y0)] 1 = mkF m 0 #[.val (.ref y0)] [] := by first | (simp [entryFrame, mkF, argsToLocals, Value.category]; done) | rfl
theorem rm_hourly_3 (l : Launch) (Z : State) (a0 : Array Value) (hw : own_HW Z a0) (ws : List Jvm.Cond)  (h0 : Heap) (n0 : Nat) {w_Role_LOAD w_Quantity_MOVEMENT w_Role_Period_INTERVAL w_Role_Period_HOUR w_Role_VIRTUAL_LOAD w_Quantity_RT w_Quantity_BID w_Quantity_ACTUAL w_Role_VIRTUAL_SUPPLY w_Quantity_DA w_Role_SUPPLIER w_Role_HUB_POI w_Quantity_PERFORMANCE w_Role_REGULATION w_Role_EXPORT w_Role_IMPORT w_Role_HUB_POW : Addr} (H : own_C Z h0 w_Role_LOAD w_Quantity_MOVEMENT w_Role_Period_INTERVAL w_Role_Period_HOUR w_Role_VIRTUAL_LOAD w_Quantity_RT w_Quantity_BID w_Quantity_ACTUAL w_Role_VIRTUAL_SUPPLY w_Quantity_DA w_Role_SUPPLIER w_Role_HUB_POI w_Quantity_PERFORMANCE w_Role_REGULATION w_Role_EXPORT w_Role_IMPORT w_Role_HUB_POW) :
    own_Met l (⟨"com/example/gridledger/gridledger/positions/Quantity", "hourly", "()Z"⟩ : MethodName) prog_40_method_5_code 1 (some .boolean) ws (own_rm 0 0 0 0) Z #[(.ref w_Quantity_DA)] h0 (own_R (some (.int (1 : Int32))) h0) := by
  refine own_met (plainFor_of_name pn_1) ?_
  intro p e s m below meth c T0 hx hby hml hown hret hk hnm hZ X0 e0
  have hown : s.vm.findClass "com/example/gridledger/gridledger/positions/Quantity" = some m.cls := hown
  obtain ⟨-, -, -, -, -, -, -, -, -, -, -, -, -, -, -, -, -, -, -, -, -, -, -, -, -, -, -, -, -, -, -, -, -, -, -, -, -, -, -, -, -, -, F_w_Quantity_DA_hourly, -, -, -, -, -, -, -, -, -⟩ := id H
  refine own_ent (ef_1 m w_Quantity_DA) ?_
  refine own_aload_n X0 hx (hb hby d3_0) rfl rfl 1 rfl ?_
  refine own_getF X0 hx hZ hown (host := "") (Or.inl (own_w hw 24 rfl)) Via.refl e0 F_w_Quantity_DA_hourly (hb hby d3_1) 4 rfl fun T1 X1 e1 => ?_
  exact own_retZ X1 hx hk hret (hb hby d3_4) rfl ⟨rfl, e1, rfl⟩ (by decide) (by decide)
theorem pd_2 : parseMethodDescriptor "()Z" = some ⟨[], some .boolean⟩ := by decide +kernel
theorem d2_0 : decode prog_41_method_10_code 0 = .ok (.aload_n 1, 1) := by decide +kernel
theorem d2_1 : decode prog_41_method_10_code 1 = .ok (.invokevirtual 117, 3) := by decide +kernel
theorem d2_4 : decode prog_41_method_10_code 4 = .ok (.ifCond .ne 13, 3) := by decide +kernel
theorem d2_17 : decode prog_41_method_10_code 17 = .ok (.iconst 1, 1) := by decide +kernel
theorem d2_18 : decode prog_41_method_10_code 18 = .ok (.goto 4, 3) := by decide +kernel
theorem d2_22 : decode prog_41_method_10_code 22 = .ok (.ireturn, 1) := by decide +kernel
theorem pn_2 : plainName "com/example/gridledger/gridledger/positions/Role" = true := by first | (simp [plainName, overriddenIn]; done) | decide +kernel
theorem ef_2 (m : MethodId) (y0 : Addr) (y1 : Addr) : entryFrame m #[(.ref y0), (.ref y1)] 2 = mkF m 0 #[.val (.ref y0), .val (.ref y1)] [] := by first | (simp [entryFrame, mkF, argsToLocals, Value.category]; done) | rfl
theorem rm_spansHour_3 (l : Launch) (Z : State) (a0 : Array Value) (hw : own_HW Z a0) (ws : List Jvm.Cond)  (h0 : Heap) (n0 : Nat) {w_Role_LOAD w_Quantity_MOVEMENT w_Role_Period_INTERVAL w_Role_Period_HOUR w_Role_VIRTUAL_LOAD w_Quantity_RT w_Quantity_BID w_Quantity_ACTUAL w_Role_VIRTUAL_SUPPLY w_Quantity_DA w_Role_SUPPLIER w_Role_HUB_POI w_Quantity_PERFORMANCE w_Role_REGULATION w_Role_EXPORT w_Role_IMPORT w_Role_HUB_POW : Addr} (H : own_C Z h0 w_Role_LOAD w_Quantity_MOVEMENT w_Role_Period_INTERVAL w_Role_Period_HOUR w_Role_VIRTUAL_LOAD w_Quantity_RT w_Quantity_BID w_Quantity_ACTUAL w_Role_VIRTUAL_SUPPLY w_Quantity_DA w_Role_SUPPLIER w_Role_HUB_POI w_Quantity_PERFORMANCE w_Role_REGULATION w_Role_EXPORT w_Role_IMPORT w_Role_HUB_POW) :
    own_Met l (⟨"com/example/gridledger/gridledger/positions/Role", "spansHour", "(Lcom/example/gridledger/gridledger/positions/Quantity;)Z"⟩ : MethodName) prog_41_method_10_code 2 (some .boolean) ws (own_rm 1 0 0 12) Z #[(.ref w_Role_LOAD), (.ref w_Quantity_DA)] h0 (own_R (some (.int (1 : Int32))) h0) := by
  refine own_met (plainFor_of_name pn_2) ?_
  intro p e s m below meth c T0 hx hby hml hown hret hk hnm hZ X0 e0
  have hown : s.vm.findClass "com/example/gridledger/gridledger/positions/Role" = some m.cls := hown
  obtain ⟨-, -, -, -, -, -, -, -, -, -, -, -, -, -, -, -, -, -, -, E_w_Quantity_DA, -, -, -, -, -, -, -, -, -, -, -, -, -, -, -, -, -, -, -, -, -, -, -, -, -, -, -, -, -, -, -, -⟩ := id H
  refine own_ent (ef_2 m w_Role_LOAD w_Quantity_DA) ?_
  refine own_aload_n X0 hx (hb hby d2_0) rfl rfl 1 rfl ?_
  refine own_pureV X0 hx hZ hown (own_w hw 19 rfl) (own_w hw 20 rfl) (notFace_of_selects (args := #[]) (mvT hZ (own_w hw 22 rfl))) (own_w hw 22 rfl) (own_w hw 21 rfl) (own_w hw 12 rfl) (own_w hw 23 rfl) (by decide) w_Quantity_DA [] [] 0 (rm_hourly_3 l Z a0 hw []  h0 n0 H) (by decide) (by decide) rfl rfl e0 E_w_Quantity_DA (by rw [hml]; rfl) (lenOf pd_2 rfl) (Nat.le_of_eq rfl) (hb hby d2_1) 4 rfl rfl (by decide) (by decide) fun T2 X2 e2 => ?_
  refine own_ifY X2 hx (hb hby d2_4) ((if0 _ _).trans (feq (by decide : ¬ ((1 : Int32) = (0 : Int32)))).2) 17 (by decide) (by decide) ?_
  refine own_iconst X2 hx (hb hby d2_17) (1 : Int32) rfl 18 rfl ?_
  refine own_goto X2 hx (hb hby d2_18) 22 (by decide) (by decide) ?_
  exact own_retZ X2 hx hk hret (hb hby d2_22) rfl ⟨rfl, e2, rfl⟩ (by decide) (by decide)
theorem d1_8 : decode method_3_code 8 = .ok (.iload_n 0, 1) := by decide +kernel
theorem d1_9 : decode method_3_code 9 = .ok (.iconst 1, 1) := by decide +kernel
theorem d1_10 : decode method_3_code 10 = .ok (.if_icmp .ne 7, 3) := by decide +kernel
theorem d1_13 : decode method_3_code 13 = .ok (.getstatic 43, 3) := by decide +kernel
theorem d1_16 : decode method_3_code 16 = .ok (.areturn, 1) := by decide +kernel
theorem rm_quantity_5 (l : Launch) (Z : State) (a0 : Array Value) (hw : own_HW Z a0) (ws : List Jvm.Cond)  (h0 : Heap) (n0 : Nat) {w_Role_LOAD w_Quantity_MOVEMENT w_Role_Period_INTERVAL w_Role_Period_HOUR w_Role_VIRTUAL_LOAD w_Quantity_RT w_Quantity_BID w_Quantity_ACTUAL w_Role_VIRTUAL_SUPPLY w_Quantity_DA w_Role_SUPPLIER w_Role_HUB_POI w_Quantity_PERFORMANCE w_Role_REGULATION w_Role_EXPORT w_Role_IMPORT w_Role_HUB_POW : Addr} (H : own_C Z h0 w_Role_LOAD w_Quantity_MOVEMENT w_Role_Period_INTERVAL w_Role_Period_HOUR w_Role_VIRTUAL_LOAD w_Quantity_RT w_Quantity_BID w_Quantity_ACTUAL w_Role_VIRTUAL_SUPPLY w_Quantity_DA w_Role_SUPPLIER w_Role_HUB_POI w_Quantity_PERFORMANCE w_Role_REGULATION w_Role_EXPORT w_Role_IMPORT w_Role_HUB_POW) :
    own_Met l (⟨"com/example/gridledger/gridledger/positions/RoleSpansHourPinLaw", "quantity", "(I)Lcom/example/gridledger/gridledger/positions/Quantity;"⟩ : MethodName) method_3_code 1 (some (.object "com/example/gridledger/gridledger/positions/Quantity")) ws (own_rm 0 0 0 0) Z #[(.int (1 : Int32))] h0 (own_R (some (.ref w_Quantity_RT)) h0) := by
  refine own_met (plainFor_of_name pn_0) ?_
  intro p e s m below meth c T0 hx hby hml hown hret hk hnm hZ X0 e0
  have hown : s.vm.findClass "com/example/gridledger/gridledger/positions/RoleSpansHourPinLaw" = some m.cls := hown
  obtain ⟨-, -, -, -, -, -, -, -, -, -, S_w_Quantity_RT, -, -, -, -, -, -, -, -, -, -, -, -, -, -, -, -, -, -, -, -, -, -, -, -, -, -, -, -, -, -, -, -, -, -, -, -, -, -, -, -, -⟩ := id H
  refine own_ent (ef_0 m (1 : Int32)) ?_
  refine own_iload_n X0 hx (hb hby d1_0) rfl 1 rfl ?_
  refine own_ifY X0 hx (hb hby d1_1) ((if0 _ _).trans (feq (by decide : ¬ ((1 : Int32) = (0 : Int32)))).2) 8 (by decide) (by decide) ?_
  refine own_iload_n X0 hx (hb hby d1_8) rfl 9 rfl ?_
  refine own_iconst X0 hx (hb hby d1_9) (1 : Int32) rfl 10 rfl ?_
  refine own_icmpN X0 hx (hb hby d1_10) (teq (by decide : (1 : Int32) = (1 : Int32))).2 13 rfl ?_
  refine own_getS X0 hx hZ hown (host := "") (Or.inl (own_w hw 34 rfl)) Via.refl e0 S_w_Quantity_RT (hb hby d1_13) 16 rfl fun T1 X1 e1 => ?_
  exact own_retA X1 hx hk hret rfl rfl (hb hby d1_16) rfl ⟨rfl, e1, rfl⟩ (by decide) (by decide)
theorem rm_hourly_6 (l : Launch) (Z : State) (a0 : Array Value) (hw : own_HW Z a0) (ws : List Jvm.Cond)  (h0 : Heap) (n0 : Nat) {w_Role_LOAD w_Quantity_MOVEMENT w_Role_Period_INTERVAL w_Role_Period_HOUR w_Role_VIRTUAL_LOAD w_Quantity_RT w_Quantity_BID w_Quantity_ACTUAL w_Role_VIRTUAL_SUPPLY w_Quantity_DA w_Role_SUPPLIER w_Role_HUB_POI w_Quantity_PERFORMANCE w_Role_REGULATION w_Role_EXPORT w_Role_IMPORT w_Role_HUB_POW : Addr} (H : own_C Z h0 w_Role_LOAD w_Quantity_MOVEMENT w_Role_Period_INTERVAL w_Role_Period_HOUR w_Role_VIRTUAL_LOAD w_Quantity_RT w_Quantity_BID w_Quantity_ACTUAL w_Role_VIRTUAL_SUPPLY w_Quantity_DA w_Role_SUPPLIER w_Role_HUB_POI w_Quantity_PERFORMANCE w_Role_REGULATION w_Role_EXPORT w_Role_IMPORT w_Role_HUB_POW) :
    own_Met l (⟨"com/example/gridledger/gridledger/positions/Quantity", "hourly", "()Z"⟩ : MethodName) prog_40_method_5_code 1 (some .boolean) ws (own_rm 0 0 0 0) Z #[(.ref w_Quantity_RT)] h0 (own_R (some (.int (0 : Int32))) h0) := by
  refine own_met (plainFor_of_name pn_1) ?_
  intro p e s m below meth c T0 hx hby hml hown hret hk hnm hZ X0 e0
  have hown : s.vm.findClass "com/example/gridledger/gridledger/positions/Quantity" = some m.cls := hown
  obtain ⟨-, -, -, -, -, -, -, -, -, -, -, -, -, -, -, -, -, -, -, -, -, -, -, -, -, -, -, -, -, -, -, -, -, -, -, -, -, -, F_w_Quantity_RT_hourly, -, -, -, -, -, -, -, -, -, -, -, -, -⟩ := id H
  refine own_ent (ef_1 m w_Quantity_RT) ?_
  refine own_aload_n X0 hx (hb hby d3_0) rfl rfl 1 rfl ?_
  refine own_getF X0 hx hZ hown (host := "") (Or.inl (own_w hw 24 rfl)) Via.refl e0 F_w_Quantity_RT_hourly (hb hby d3_1) 4 rfl fun T1 X1 e1 => ?_
  exact own_retZ X1 hx hk hret (hb hby d3_4) rfl ⟨rfl, e1, rfl⟩ (by decide) (by decide)
theorem d2_7 : decode prog_41_method_10_code 7 = .ok (.aload_n 0, 1) := by decide +kernel
theorem d2_8 : decode prog_41_method_10_code 8 = .ok (.getfield 58, 3) := by decide +kernel
theorem d2_11 : decode prog_41_method_10_code 11 = .ok (.getstatic 121, 3) := by decide +kernel
theorem d2_14 : decode prog_41_method_10_code 14 = .ok (.if_acmp .ne 7, 3) := by decide +kernel
theorem d2_21 : decode prog_41_method_10_code 21 = .ok (.iconst 0, 1) := by decide +kernel
theorem rm_spansHour_6 (l : Launch) (Z : State) (a0 : Array Value) (hw : own_HW Z a0) (ws : List Jvm.Cond)  (h0 : Heap) (n0 : Nat) {w_Role_LOAD w_Quantity_MOVEMENT w_Role_Period_INTERVAL w_Role_Period_HOUR w_Role_VIRTUAL_LOAD w_Quantity_RT w_Quantity_BID w_Quantity_ACTUAL w_Role_VIRTUAL_SUPPLY w_Quantity_DA w_Role_SUPPLIER w_Role_HUB_POI w_Quantity_PERFORMANCE w_Role_REGULATION w_Role_EXPORT w_Role_IMPORT w_Role_HUB_POW : Addr} (H : own_C Z h0 w_Role_LOAD w_Quantity_MOVEMENT w_Role_Period_INTERVAL w_Role_Period_HOUR w_Role_VIRTUAL_LOAD w_Quantity_RT w_Quantity_BID w_Quantity_ACTUAL w_Role_VIRTUAL_SUPPLY w_Quantity_DA w_Role_SUPPLIER w_Role_HUB_POI w_Quantity_PERFORMANCE w_Role_REGULATION w_Role_EXPORT w_Role_IMPORT w_Role_HUB_POW) :
    own_Met l (⟨"com/example/gridledger/gridledger/positions/Role", "spansHour", "(Lcom/example/gridledger/gridledger/positions/Quantity;)Z"⟩ : MethodName) prog_41_method_10_code 2 (some .boolean) ws (own_rm 1 0 0 12) Z #[(.ref w_Role_LOAD), (.ref w_Quantity_RT)] h0 (own_R (some (.int (0 : Int32))) h0) := by
  refine own_met (plainFor_of_name pn_2) ?_
  intro p e s m below meth c T0 hx hby hml hown hret hk hnm hZ X0 e0
  have hown : s.vm.findClass "com/example/gridledger/gridledger/positions/Role" = some m.cls := hown
  obtain ⟨-, -, -, -, -, -, S_w_Role_Period_HOUR, -, -, -, -, E_w_Quantity_RT, -, -, -, -, -, -, -, -, -, -, -, -, -, -, -, -, -, -, -, -, -, -, -, F_w_Role_LOAD_period, -, -, -, -, -, -, -, -, -, -, -, -, -, -, -, ne_w_Role_Period_HOUR_w_Role_Period_INTERVAL⟩ := id H
  refine own_ent (ef_2 m w_Role_LOAD w_Quantity_RT) ?_
  refine own_aload_n X0 hx (hb hby d2_0) rfl rfl 1 rfl ?_
  refine own_pureV X0 hx hZ hown (own_w hw 19 rfl) (own_w hw 20 rfl) (notFace_of_selects (args := #[]) (mvT hZ (own_w hw 22 rfl))) (own_w hw 22 rfl) (own_w hw 21 rfl) (own_w hw 12 rfl) (own_w hw 23 rfl) (by decide) w_Quantity_RT [] [] 0 (rm_hourly_6 l Z a0 hw []  h0 n0 H) (by decide) (by decide) rfl rfl e0 E_w_Quantity_RT (by rw [hml]; rfl) (lenOf pd_2 rfl) (Nat.le_of_eq rfl) (hb hby d2_1) 4 rfl rfl (by decide) (by decide) fun T2 X2 e2 => ?_
  refine own_ifN X2 hx (hb hby d2_4) ((if0 _ _).trans (teq (by decide : (0 : Int32) = (0 : Int32))).2) 7 rfl ?_
  refine own_aload_n X2 hx (hb hby d2_7) rfl rfl 8 rfl ?_
  refine own_getF X2 hx hZ hown (host := "") (Or.inl (own_w hw 26 rfl)) Via.refl e2 F_w_Role_LOAD_period (hb hby d2_8) 11 rfl fun T3 X3 e3 => ?_
  refine own_getS X3 hx hZ hown (host := "") (Or.inl (own_w hw 30 rfl)) Via.refl e3 S_w_Role_Period_HOUR (hb hby d2_11) 14 rfl fun T4 X4 e4 => ?_
  refine own_acmp X4 hx false (hb hby d2_14) rfl rfl (decide_eq_false fun q => (Ne.symm ne_w_Role_Period_HOUR_w_Role_Period_INTERVAL) (Value.ref.inj q)) 21 (by decide) (by decide) ?_
  refine own_iconst X4 hx (hb hby d2_21) (0 : Int32) rfl 22 rfl ?_
  exact own_retZ X4 hx hk hret (hb hby d2_22) rfl ⟨rfl, e4, rfl⟩ (by decide) (by decide)
theorem d1_17 : decode method_3_code 17 = .ok (.iload_n 0, 1) := by decide +kernel
theorem d1_18 : decode method_3_code 18 = .ok (.iconst 2, 1) := by decide +kernel
theorem d1_19 : decode method_3_code 19 = .ok (.if_icmp .ne 7, 3) := by decide +kernel
theorem d1_22 : decode method_3_code 22 = .ok (.getstatic 46, 3) := by decide +kernel
theorem d1_25 : decode method_3_code 25 = .ok (.areturn, 1) := by decide +kernel
theorem rm_quantity_8 (l : Launch) (Z : State) (a0 : Array Value) (hw : own_HW Z a0) (ws : List Jvm.Cond)  (h0 : Heap) (n0 : Nat) {w_Role_LOAD w_Quantity_MOVEMENT w_Role_Period_INTERVAL w_Role_Period_HOUR w_Role_VIRTUAL_LOAD w_Quantity_RT w_Quantity_BID w_Quantity_ACTUAL w_Role_VIRTUAL_SUPPLY w_Quantity_DA w_Role_SUPPLIER w_Role_HUB_POI w_Quantity_PERFORMANCE w_Role_REGULATION w_Role_EXPORT w_Role_IMPORT w_Role_HUB_POW : Addr} (H : own_C Z h0 w_Role_LOAD w_Quantity_MOVEMENT w_Role_Period_INTERVAL w_Role_Period_HOUR w_Role_VIRTUAL_LOAD w_Quantity_RT w_Quantity_BID w_Quantity_ACTUAL w_Role_VIRTUAL_SUPPLY w_Quantity_DA w_Role_SUPPLIER w_Role_HUB_POI w_Quantity_PERFORMANCE w_Role_REGULATION w_Role_EXPORT w_Role_IMPORT w_Role_HUB_POW) :
    own_Met l (⟨"com/example/gridledger/gridledger/positions/RoleSpansHourPinLaw", "quantity", "(I)Lcom/example/gridledger/gridledger/positions/Quantity;"⟩ : MethodName) method_3_code 1 (some (.object "com/example/gridledger/gridledger/positions/Quantity")) ws (own_rm 0 0 0 0) Z #[(.int (2 : Int32))] h0 (own_R (some (.ref w_Quantity_ACTUAL)) h0) := by
  refine own_met (plainFor_of_name pn_0) ?_
  intro p e s m below meth c T0 hx hby hml hown hret hk hnm hZ X0 e0
  have hown : s.vm.findClass "com/example/gridledger/gridledger/positions/RoleSpansHourPinLaw" = some m.cls := hown
  obtain ⟨-, -, -, -, -, -, -, -, -, -, -, -, -, -, S_w_Quantity_ACTUAL, -, -, -, -, -, -, -, -, -, -, -, -, -, -, -, -, -, -, -, -, -, -, -, -, -, -, -, -, -, -, -, -, -, -, -, -, -⟩ := id H
  refine own_ent (ef_0 m (2 : Int32)) ?_
  refine own_iload_n X0 hx (hb hby d1_0) rfl 1 rfl ?_
  refine own_ifY X0 hx (hb hby d1_1) ((if0 _ _).trans (feq (by decide : ¬ ((2 : Int32) = (0 : Int32)))).2) 8 (by decide) (by decide) ?_
  refine own_iload_n X0 hx (hb hby d1_8) rfl 9 rfl ?_
  refine own_iconst X0 hx (hb hby d1_9) (1 : Int32) rfl 10 rfl ?_
  refine own_icmpY X0 hx (hb hby d1_10) (feq (by decide : ¬ ((2 : Int32) = (1 : Int32)))).2 17 (by decide) (by decide) ?_
  refine own_iload_n X0 hx (hb hby d1_17) rfl 18 rfl ?_
  refine own_iconst X0 hx (hb hby d1_18) (2 : Int32) rfl 19 rfl ?_
  refine own_icmpN X0 hx (hb hby d1_19) (teq (by decide : (2 : Int32) = (2 : Int32))).2 22 rfl ?_
  refine own_getS X0 hx hZ hown (host := "") (Or.inl (own_w hw 38 rfl)) Via.refl e0 S_w_Quantity_ACTUAL (hb hby d1_22) 25 rfl fun T1 X1 e1 => ?_
  exact own_retA X1 hx hk hret rfl rfl (hb hby d1_25) rfl ⟨rfl, e1, rfl⟩ (by decide) (by decide)
theorem rm_hourly_9 (l : Launch) (Z : State) (a0 : Array Value) (hw : own_HW Z a0) (ws : List Jvm.Cond)  (h0 : Heap) (n0 : Nat) {w_Role_LOAD w_Quantity_MOVEMENT w_Role_Period_INTERVAL w_Role_Period_HOUR w_Role_VIRTUAL_LOAD w_Quantity_RT w_Quantity_BID w_Quantity_ACTUAL w_Role_VIRTUAL_SUPPLY w_Quantity_DA w_Role_SUPPLIER w_Role_HUB_POI w_Quantity_PERFORMANCE w_Role_REGULATION w_Role_EXPORT w_Role_IMPORT w_Role_HUB_POW : Addr} (H : own_C Z h0 w_Role_LOAD w_Quantity_MOVEMENT w_Role_Period_INTERVAL w_Role_Period_HOUR w_Role_VIRTUAL_LOAD w_Quantity_RT w_Quantity_BID w_Quantity_ACTUAL w_Role_VIRTUAL_SUPPLY w_Quantity_DA w_Role_SUPPLIER w_Role_HUB_POI w_Quantity_PERFORMANCE w_Role_REGULATION w_Role_EXPORT w_Role_IMPORT w_Role_HUB_POW) :
    own_Met l (⟨"com/example/gridledger/gridledger/positions/Quantity", "hourly", "()Z"⟩ : MethodName) prog_40_method_5_code 1 (some .boolean) ws (own_rm 0 0 0 0) Z #[(.ref w_Quantity_ACTUAL)] h0 (own_R (some (.int (0 : Int32))) h0) := by
  refine own_met (plainFor_of_name pn_1) ?_
  intro p e s m below meth c T0 hx hby hml hown hret hk hnm hZ X0 e0
  have hown : s.vm.findClass "com/example/gridledger/gridledger/positions/Quantity" = some m.cls := hown
  obtain ⟨-, -, -, -, -, -, -, -, -, -, -, -, -, -, -, -, -, -, -, -, -, -, -, -, -, -, -, -, -, -, -, -, -, -, -, -, -, -, -, -, -, F_w_Quantity_ACTUAL_hourly, -, -, -, -, -, -, -, -, -, -⟩ := id H
  refine own_ent (ef_1 m w_Quantity_ACTUAL) ?_
  refine own_aload_n X0 hx (hb hby d3_0) rfl rfl 1 rfl ?_
  refine own_getF X0 hx hZ hown (host := "") (Or.inl (own_w hw 24 rfl)) Via.refl e0 F_w_Quantity_ACTUAL_hourly (hb hby d3_1) 4 rfl fun T1 X1 e1 => ?_
  exact own_retZ X1 hx hk hret (hb hby d3_4) rfl ⟨rfl, e1, rfl⟩ (by decide) (by decide)
theorem rm_spansHour_9 (l : Launch) (Z : State) (a0 : Array Value) (hw : own_HW Z a0) (ws : List Jvm.Cond)  (h0 : Heap) (n0 : Nat) {w_Role_LOAD w_Quantity_MOVEMENT w_Role_Period_INTERVAL w_Role_Period_HOUR w_Role_VIRTUAL_LOAD w_Quantity_RT w_Quantity_BID w_Quantity_ACTUAL w_Role_VIRTUAL_SUPPLY w_Quantity_DA w_Role_SUPPLIER w_Role_HUB_POI w_Quantity_PERFORMANCE w_Role_REGULATION w_Role_EXPORT w_Role_IMPORT w_Role_HUB_POW : Addr} (H : own_C Z h0 w_Role_LOAD w_Quantity_MOVEMENT w_Role_Period_INTERVAL w_Role_Period_HOUR w_Role_VIRTUAL_LOAD w_Quantity_RT w_Quantity_BID w_Quantity_ACTUAL w_Role_VIRTUAL_SUPPLY w_Quantity_DA w_Role_SUPPLIER w_Role_HUB_POI w_Quantity_PERFORMANCE w_Role_REGULATION w_Role_EXPORT w_Role_IMPORT w_Role_HUB_POW) :
    own_Met l (⟨"com/example/gridledger/gridledger/positions/Role", "spansHour", "(Lcom/example/gridledger/gridledger/positions/Quantity;)Z"⟩ : MethodName) prog_41_method_10_code 2 (some .boolean) ws (own_rm 1 0 0 12) Z #[(.ref w_Role_LOAD), (.ref w_Quantity_ACTUAL)] h0 (own_R (some (.int (0 : Int32))) h0) := by
  refine own_met (plainFor_of_name pn_2) ?_
  intro p e s m below meth c T0 hx hby hml hown hret hk hnm hZ X0 e0
  have hown : s.vm.findClass "com/example/gridledger/gridledger/positions/Role" = some m.cls := hown
  obtain ⟨-, -, -, -, -, -, S_w_Role_Period_HOUR, -, -, -, -, -, -, -, -, E_w_Quantity_ACTUAL, -, -, -, -, -, -, -, -, -, -, -, -, -, -, -, -, -, -, -, F_w_Role_LOAD_period, -, -, -, -, -, -, -, -, -, -, -, -, -, -, -, ne_w_Role_Period_HOUR_w_Role_Period_INTERVAL⟩ := id H
  refine own_ent (ef_2 m w_Role_LOAD w_Quantity_ACTUAL) ?_
  refine own_aload_n X0 hx (hb hby d2_0) rfl rfl 1 rfl ?_
  refine own_pureV X0 hx hZ hown (own_w hw 19 rfl) (own_w hw 20 rfl) (notFace_of_selects (args := #[]) (mvT hZ (own_w hw 22 rfl))) (own_w hw 22 rfl) (own_w hw 21 rfl) (own_w hw 12 rfl) (own_w hw 23 rfl) (by decide) w_Quantity_ACTUAL [] [] 0 (rm_hourly_9 l Z a0 hw []  h0 n0 H) (by decide) (by decide) rfl rfl e0 E_w_Quantity_ACTUAL (by rw [hml]; rfl) (lenOf pd_2 rfl) (Nat.le_of_eq rfl) (hb hby d2_1) 4 rfl rfl (by decide) (by decide) fun T2 X2 e2 => ?_
  refine own_ifN X2 hx (hb hby d2_4) ((if0 _ _).trans (teq (by decide : (0 : Int32) = (0 : Int32))).2) 7 rfl ?_
  refine own_aload_n X2 hx (hb hby d2_7) rfl rfl 8 rfl ?_
  refine own_getF X2 hx hZ hown (host := "") (Or.inl (own_w hw 26 rfl)) Via.refl e2 F_w_Role_LOAD_period (hb hby d2_8) 11 rfl fun T3 X3 e3 => ?_
  refine own_getS X3 hx hZ hown (host := "") (Or.inl (own_w hw 30 rfl)) Via.refl e3 S_w_Role_Period_HOUR (hb hby d2_11) 14 rfl fun T4 X4 e4 => ?_
  refine own_acmp X4 hx false (hb hby d2_14) rfl rfl (decide_eq_false fun q => (Ne.symm ne_w_Role_Period_HOUR_w_Role_Period_INTERVAL) (Value.ref.inj q)) 21 (by decide) (by decide) ?_
  refine own_iconst X4 hx (hb hby d2_21) (0 : Int32) rfl 22 rfl ?_
  exact own_retZ X4 hx hk hret (hb hby d2_22) rfl ⟨rfl, e4, rfl⟩ (by decide) (by decide)
theorem d1_26 : decode method_3_code 26 = .ok (.iload_n 0, 1) := by decide +kernel
theorem d1_27 : decode method_3_code 27 = .ok (.iconst 3, 1) := by decide +kernel
theorem d1_28 : decode method_3_code 28 = .ok (.if_icmp .ne 7, 3) := by decide +kernel
theorem d1_31 : decode method_3_code 31 = .ok (.getstatic 49, 3) := by decide +kernel
theorem d1_34 : decode method_3_code 34 = .ok (.areturn, 1) := by decide +kernel
theorem rm_quantity_11 (l : Launch) (Z : State) (a0 : Array Value) (hw : own_HW Z a0) (ws : List Jvm.Cond)  (h0 : Heap) (n0 : Nat) {w_Role_LOAD w_Quantity_MOVEMENT w_Role_Period_INTERVAL w_Role_Period_HOUR w_Role_VIRTUAL_LOAD w_Quantity_RT w_Quantity_BID w_Quantity_ACTUAL w_Role_VIRTUAL_SUPPLY w_Quantity_DA w_Role_SUPPLIER w_Role_HUB_POI w_Quantity_PERFORMANCE w_Role_REGULATION w_Role_EXPORT w_Role_IMPORT w_Role_HUB_POW : Addr} (H : own_C Z h0 w_Role_LOAD w_Quantity_MOVEMENT w_Role_Period_INTERVAL w_Role_Period_HOUR w_Role_VIRTUAL_LOAD w_Quantity_RT w_Quantity_BID w_Quantity_ACTUAL w_Role_VIRTUAL_SUPPLY w_Quantity_DA w_Role_SUPPLIER w_Role_HUB_POI w_Quantity_PERFORMANCE w_Role_REGULATION w_Role_EXPORT w_Role_IMPORT w_Role_HUB_POW) :
    own_Met l (⟨"com/example/gridledger/gridledger/positions/RoleSpansHourPinLaw", "quantity", "(I)Lcom/example/gridledger/gridledger/positions/Quantity;"⟩ : MethodName) method_3_code 1 (some (.object "com/example/gridledger/gridledger/positions/Quantity")) ws (own_rm 0 0 0 0) Z #[(.int (3 : Int32))] h0 (own_R (some (.ref w_Quantity_MOVEMENT)) h0) := by
  refine own_met (plainFor_of_name pn_0) ?_
  intro p e s m below meth c T0 hx hby hml hown hret hk hnm hZ X0 e0
  have hown : s.vm.findClass "com/example/gridledger/gridledger/positions/RoleSpansHourPinLaw" = some m.cls := hown
  obtain ⟨-, -, S_w_Quantity_MOVEMENT, -, -, -, -, -, -, -, -, -, -, -, -, -, -, -, -, -, -, -, -, -, -, -, -, -, -, -, -, -, -, -, -, -, -, -, -, -, -, -, -, -, -, -, -, -, -, -, -, -⟩ := id H
  refine own_ent (ef_0 m (3 : Int32)) ?_
  refine own_iload_n X0 hx (hb hby d1_0) rfl 1 rfl ?_
  refine own_ifY X0 hx (hb hby d1_1) ((if0 _ _).trans (feq (by decide : ¬ ((3 : Int32) = (0 : Int32)))).2) 8 (by decide) (by decide) ?_
  refine own_iload_n X0 hx (hb hby d1_8) rfl 9 rfl ?_
  refine own_iconst X0 hx (hb hby d1_9) (1 : Int32) rfl 10 rfl ?_
  refine own_icmpY X0 hx (hb hby d1_10) (feq (by decide : ¬ ((3 : Int32) = (1 : Int32)))).2 17 (by decide) (by decide) ?_
  refine own_iload_n X0 hx (hb hby d1_17) rfl 18 rfl ?_
  refine own_iconst X0 hx (hb hby d1_18) (2 : Int32) rfl 19 rfl ?_
  refine own_icmpY X0 hx (hb hby d1_19) (feq (by decide : ¬ ((3 : Int32) = (2 : Int32)))).2 26 (by decide) (by decide) ?_
  refine own_iload_n X0 hx (hb hby d1_26) rfl 27 rfl ?_
  refine own_iconst X0 hx (hb hby d1_27) (3 : Int32) rfl 28 rfl ?_
  refine own_icmpN X0 hx (hb hby d1_28) (teq (by decide : (3 : Int32) = (3 : Int32))).2 31 rfl ?_
  refine own_getS X0 hx hZ hown (host := "") (Or.inl (own_w hw 11 rfl)) Via.refl e0 S_w_Quantity_MOVEMENT (hb hby d1_31) 34 rfl fun T1 X1 e1 => ?_
  exact own_retA X1 hx hk hret rfl rfl (hb hby d1_34) rfl ⟨rfl, e1, rfl⟩ (by decide) (by decide)
theorem rm_hourly_12 (l : Launch) (Z : State) (a0 : Array Value) (hw : own_HW Z a0) (ws : List Jvm.Cond)  (h0 : Heap) (n0 : Nat) {w_Role_LOAD w_Quantity_MOVEMENT w_Role_Period_INTERVAL w_Role_Period_HOUR w_Role_VIRTUAL_LOAD w_Quantity_RT w_Quantity_BID w_Quantity_ACTUAL w_Role_VIRTUAL_SUPPLY w_Quantity_DA w_Role_SUPPLIER w_Role_HUB_POI w_Quantity_PERFORMANCE w_Role_REGULATION w_Role_EXPORT w_Role_IMPORT w_Role_HUB_POW : Addr} (H : own_C Z h0 w_Role_LOAD w_Quantity_MOVEMENT w_Role_Period_INTERVAL w_Role_Period_HOUR w_Role_VIRTUAL_LOAD w_Quantity_RT w_Quantity_BID w_Quantity_ACTUAL w_Role_VIRTUAL_SUPPLY w_Quantity_DA w_Role_SUPPLIER w_Role_HUB_POI w_Quantity_PERFORMANCE w_Role_REGULATION w_Role_EXPORT w_Role_IMPORT w_Role_HUB_POW) :
    own_Met l (⟨"com/example/gridledger/gridledger/positions/Quantity", "hourly", "()Z"⟩ : MethodName) prog_40_method_5_code 1 (some .boolean) ws (own_rm 0 0 0 0) Z #[(.ref w_Quantity_MOVEMENT)] h0 (own_R (some (.int (0 : Int32))) h0) := by
  refine own_met (plainFor_of_name pn_1) ?_
  intro p e s m below meth c T0 hx hby hml hown hret hk hnm hZ X0 e0
  have hown : s.vm.findClass "com/example/gridledger/gridledger/positions/Quantity" = some m.cls := hown
  obtain ⟨-, -, -, -, -, -, -, -, -, -, -, -, -, -, -, -, -, -, -, -, -, -, -, -, -, -, -, -, -, -, -, -, -, -, F_w_Quantity_MOVEMENT_hourly, -, -, -, -, -, -, -, -, -, -, -, -, -, -, -, -, -⟩ := id H
  refine own_ent (ef_1 m w_Quantity_MOVEMENT) ?_
  refine own_aload_n X0 hx (hb hby d3_0) rfl rfl 1 rfl ?_
  refine own_getF X0 hx hZ hown (host := "") (Or.inl (own_w hw 24 rfl)) Via.refl e0 F_w_Quantity_MOVEMENT_hourly (hb hby d3_1) 4 rfl fun T1 X1 e1 => ?_
  exact own_retZ X1 hx hk hret (hb hby d3_4) rfl ⟨rfl, e1, rfl⟩ (by decide) (by decide)
theorem rm_spansHour_12 (l : Launch) (Z : State) (a0 : Array Value) (hw : own_HW Z a0) (ws : List Jvm.Cond)  (h0 : Heap) (n0 : Nat) {w_Role_LOAD w_Quantity_MOVEMENT w_Role_Period_INTERVAL w_Role_Period_HOUR w_Role_VIRTUAL_LOAD w_Quantity_RT w_Quantity_BID w_Quantity_ACTUAL w_Role_VIRTUAL_SUPPLY w_Quantity_DA w_Role_SUPPLIER w_Role_HUB_POI w_Quantity_PERFORMANCE w_Role_REGULATION w_Role_EXPORT w_Role_IMPORT w_Role_HUB_POW : Addr} (H : own_C Z h0 w_Role_LOAD w_Quantity_MOVEMENT w_Role_Period_INTERVAL w_Role_Period_HOUR w_Role_VIRTUAL_LOAD w_Quantity_RT w_Quantity_BID w_Quantity_ACTUAL w_Role_VIRTUAL_SUPPLY w_Quantity_DA w_Role_SUPPLIER w_Role_HUB_POI w_Quantity_PERFORMANCE w_Role_REGULATION w_Role_EXPORT w_Role_IMPORT w_Role_HUB_POW) :
    own_Met l (⟨"com/example/gridledger/gridledger/positions/Role", "spansHour", "(Lcom/example/gridledger/gridledger/positions/Quantity;)Z"⟩ : MethodName) prog_41_method_10_code 2 (some .boolean) ws (own_rm 1 0 0 12) Z #[(.ref w_Role_LOAD), (.ref w_Quantity_MOVEMENT)] h0 (own_R (some (.int (0 : Int32))) h0) := by
  refine own_met (plainFor_of_name pn_2) ?_
  intro p e s m below meth c T0 hx hby hml hown hret hk hnm hZ X0 e0
  have hown : s.vm.findClass "com/example/gridledger/gridledger/positions/Role" = some m.cls := hown
  obtain ⟨-, -, -, E_w_Quantity_MOVEMENT, -, -, S_w_Role_Period_HOUR, -, -, -, -, -, -, -, -, -, -, -, -, -, -, -, -, -, -, -, -, -, -, -, -, -, -, -, -, F_w_Role_LOAD_period, -, -, -, -, -, -, -, -, -, -, -, -, -, -, -, ne_w_Role_Period_HOUR_w_Role_Period_INTERVAL⟩ := id H
  refine own_ent (ef_2 m w_Role_LOAD w_Quantity_MOVEMENT) ?_
  refine own_aload_n X0 hx (hb hby d2_0) rfl rfl 1 rfl ?_
  refine own_pureV X0 hx hZ hown (own_w hw 19 rfl) (own_w hw 20 rfl) (notFace_of_selects (args := #[]) (mvT hZ (own_w hw 22 rfl))) (own_w hw 22 rfl) (own_w hw 21 rfl) (own_w hw 12 rfl) (own_w hw 23 rfl) (by decide) w_Quantity_MOVEMENT [] [] 0 (rm_hourly_12 l Z a0 hw []  h0 n0 H) (by decide) (by decide) rfl rfl e0 E_w_Quantity_MOVEMENT (by rw [hml]; rfl) (lenOf pd_2 rfl) (Nat.le_of_eq rfl) (hb hby d2_1) 4 rfl rfl (by decide) (by decide) fun T2 X2 e2 => ?_
  refine own_ifN X2 hx (hb hby d2_4) ((if0 _ _).trans (teq (by decide : (0 : Int32) = (0 : Int32))).2) 7 rfl ?_
  refine own_aload_n X2 hx (hb hby d2_7) rfl rfl 8 rfl ?_
  refine own_getF X2 hx hZ hown (host := "") (Or.inl (own_w hw 26 rfl)) Via.refl e2 F_w_Role_LOAD_period (hb hby d2_8) 11 rfl fun T3 X3 e3 => ?_
  refine own_getS X3 hx hZ hown (host := "") (Or.inl (own_w hw 30 rfl)) Via.refl e3 S_w_Role_Period_HOUR (hb hby d2_11) 14 rfl fun T4 X4 e4 => ?_
  refine own_acmp X4 hx false (hb hby d2_14) rfl rfl (decide_eq_false fun q => (Ne.symm ne_w_Role_Period_HOUR_w_Role_Period_INTERVAL) (Value.ref.inj q)) 21 (by decide) (by decide) ?_
  refine own_iconst X4 hx (hb hby d2_21) (0 : Int32) rfl 22 rfl ?_
  exact own_retZ X4 hx hk hret (hb hby d2_22) rfl ⟨rfl, e4, rfl⟩ (by decide) (by decide)
theorem d1_35 : decode method_3_code 35 = .ok (.iload_n 0, 1) := by decide +kernel
theorem d1_36 : decode method_3_code 36 = .ok (.iconst 4, 1) := by decide +kernel
theorem d1_37 : decode method_3_code 37 = .ok (.if_icmp .ne 7, 3) := by decide +kernel
theorem d1_40 : decode method_3_code 40 = .ok (.getstatic 52, 3) := by decide +kernel
theorem d1_43 : decode method_3_code 43 = .ok (.areturn, 1) := by decide +kernel
theorem rm_quantity_14 (l : Launch) (Z : State) (a0 : Array Value) (hw : own_HW Z a0) (ws : List Jvm.Cond)  (h0 : Heap) (n0 : Nat) {w_Role_LOAD w_Quantity_MOVEMENT w_Role_Period_INTERVAL w_Role_Period_HOUR w_Role_VIRTUAL_LOAD w_Quantity_RT w_Quantity_BID w_Quantity_ACTUAL w_Role_VIRTUAL_SUPPLY w_Quantity_DA w_Role_SUPPLIER w_Role_HUB_POI w_Quantity_PERFORMANCE w_Role_REGULATION w_Role_EXPORT w_Role_IMPORT w_Role_HUB_POW : Addr} (H : own_C Z h0 w_Role_LOAD w_Quantity_MOVEMENT w_Role_Period_INTERVAL w_Role_Period_HOUR w_Role_VIRTUAL_LOAD w_Quantity_RT w_Quantity_BID w_Quantity_ACTUAL w_Role_VIRTUAL_SUPPLY w_Quantity_DA w_Role_SUPPLIER w_Role_HUB_POI w_Quantity_PERFORMANCE w_Role_REGULATION w_Role_EXPORT w_Role_IMPORT w_Role_HUB_POW) :
    own_Met l (⟨"com/example/gridledger/gridledger/positions/RoleSpansHourPinLaw", "quantity", "(I)Lcom/example/gridledger/gridledger/positions/Quantity;"⟩ : MethodName) method_3_code 1 (some (.object "com/example/gridledger/gridledger/positions/Quantity")) ws (own_rm 0 0 0 0) Z #[(.int (4 : Int32))] h0 (own_R (some (.ref w_Quantity_PERFORMANCE)) h0) := by
  refine own_met (plainFor_of_name pn_0) ?_
  intro p e s m below meth c T0 hx hby hml hown hret hk hnm hZ X0 e0
  have hown : s.vm.findClass "com/example/gridledger/gridledger/positions/RoleSpansHourPinLaw" = some m.cls := hown
  obtain ⟨-, -, -, -, -, -, -, -, -, -, -, -, -, -, -, -, -, -, -, -, -, -, -, -, S_w_Quantity_PERFORMANCE, -, -, -, -, -, -, -, -, -, -, -, -, -, -, -, -, -, -, -, -, -, -, -, -, -, -, -⟩ := id H
  refine own_ent (ef_0 m (4 : Int32)) ?_
  refine own_iload_n X0 hx (hb hby d1_0) rfl 1 rfl ?_
  refine own_ifY X0 hx (hb hby d1_1) ((if0 _ _).trans (feq (by decide : ¬ ((4 : Int32) = (0 : Int32)))).2) 8 (by decide) (by decide) ?_
  refine own_iload_n X0 hx (hb hby d1_8) rfl 9 rfl ?_
  refine own_iconst X0 hx (hb hby d1_9) (1 : Int32) rfl 10 rfl ?_
  refine own_icmpY X0 hx (hb hby d1_10) (feq (by decide : ¬ ((4 : Int32) = (1 : Int32)))).2 17 (by decide) (by decide) ?_
  refine own_iload_n X0 hx (hb hby d1_17) rfl 18 rfl ?_
  refine own_iconst X0 hx (hb hby d1_18) (2 : Int32) rfl 19 rfl ?_
  refine own_icmpY X0 hx (hb hby d1_19) (feq (by decide : ¬ ((4 : Int32) = (2 : Int32)))).2 26 (by decide) (by decide) ?_
  refine own_iload_n X0 hx (hb hby d1_26) rfl 27 rfl ?_
  refine own_iconst X0 hx (hb hby d1_27) (3 : Int32) rfl 28 rfl ?_
  refine own_icmpY X0 hx (hb hby d1_28) (feq (by decide : ¬ ((4 : Int32) = (3 : Int32)))).2 35 (by decide) (by decide) ?_
  refine own_iload_n X0 hx (hb hby d1_35) rfl 36 rfl ?_
  refine own_iconst X0 hx (hb hby d1_36) (4 : Int32) rfl 37 rfl ?_
  refine own_icmpN X0 hx (hb hby d1_37) (teq (by decide : (4 : Int32) = (4 : Int32))).2 40 rfl ?_
  refine own_getS X0 hx hZ hown (host := "") (Or.inl (own_w hw 48 rfl)) Via.refl e0 S_w_Quantity_PERFORMANCE (hb hby d1_40) 43 rfl fun T1 X1 e1 => ?_
  exact own_retA X1 hx hk hret rfl rfl (hb hby d1_43) rfl ⟨rfl, e1, rfl⟩ (by decide) (by decide)
theorem rm_hourly_15 (l : Launch) (Z : State) (a0 : Array Value) (hw : own_HW Z a0) (ws : List Jvm.Cond)  (h0 : Heap) (n0 : Nat) {w_Role_LOAD w_Quantity_MOVEMENT w_Role_Period_INTERVAL w_Role_Period_HOUR w_Role_VIRTUAL_LOAD w_Quantity_RT w_Quantity_BID w_Quantity_ACTUAL w_Role_VIRTUAL_SUPPLY w_Quantity_DA w_Role_SUPPLIER w_Role_HUB_POI w_Quantity_PERFORMANCE w_Role_REGULATION w_Role_EXPORT w_Role_IMPORT w_Role_HUB_POW : Addr} (H : own_C Z h0 w_Role_LOAD w_Quantity_MOVEMENT w_Role_Period_INTERVAL w_Role_Period_HOUR w_Role_VIRTUAL_LOAD w_Quantity_RT w_Quantity_BID w_Quantity_ACTUAL w_Role_VIRTUAL_SUPPLY w_Quantity_DA w_Role_SUPPLIER w_Role_HUB_POI w_Quantity_PERFORMANCE w_Role_REGULATION w_Role_EXPORT w_Role_IMPORT w_Role_HUB_POW) :
    own_Met l (⟨"com/example/gridledger/gridledger/positions/Quantity", "hourly", "()Z"⟩ : MethodName) prog_40_method_5_code 1 (some .boolean) ws (own_rm 0 0 0 0) Z #[(.ref w_Quantity_PERFORMANCE)] h0 (own_R (some (.int (0 : Int32))) h0) := by
  refine own_met (plainFor_of_name pn_1) ?_
  intro p e s m below meth c T0 hx hby hml hown hret hk hnm hZ X0 e0
  have hown : s.vm.findClass "com/example/gridledger/gridledger/positions/Quantity" = some m.cls := hown
  obtain ⟨-, -, -, -, -, -, -, -, -, -, -, -, -, -, -, -, -, -, -, -, -, -, -, -, -, -, -, -, -, -, -, -, -, -, -, -, -, -, -, -, -, -, -, -, F_w_Quantity_PERFORMANCE_hourly, -, -, -, -, -, -, -⟩ := id H
  refine own_ent (ef_1 m w_Quantity_PERFORMANCE) ?_
  refine own_aload_n X0 hx (hb hby d3_0) rfl rfl 1 rfl ?_
  refine own_getF X0 hx hZ hown (host := "") (Or.inl (own_w hw 24 rfl)) Via.refl e0 F_w_Quantity_PERFORMANCE_hourly (hb hby d3_1) 4 rfl fun T1 X1 e1 => ?_
  exact own_retZ X1 hx hk hret (hb hby d3_4) rfl ⟨rfl, e1, rfl⟩ (by decide) (by decide)
theorem rm_spansHour_15 (l : Launch) (Z : State) (a0 : Array Value) (hw : own_HW Z a0) (ws : List Jvm.Cond)  (h0 : Heap) (n0 : Nat) {w_Role_LOAD w_Quantity_MOVEMENT w_Role_Period_INTERVAL w_Role_Period_HOUR w_Role_VIRTUAL_LOAD w_Quantity_RT w_Quantity_BID w_Quantity_ACTUAL w_Role_VIRTUAL_SUPPLY w_Quantity_DA w_Role_SUPPLIER w_Role_HUB_POI w_Quantity_PERFORMANCE w_Role_REGULATION w_Role_EXPORT w_Role_IMPORT w_Role_HUB_POW : Addr} (H : own_C Z h0 w_Role_LOAD w_Quantity_MOVEMENT w_Role_Period_INTERVAL w_Role_Period_HOUR w_Role_VIRTUAL_LOAD w_Quantity_RT w_Quantity_BID w_Quantity_ACTUAL w_Role_VIRTUAL_SUPPLY w_Quantity_DA w_Role_SUPPLIER w_Role_HUB_POI w_Quantity_PERFORMANCE w_Role_REGULATION w_Role_EXPORT w_Role_IMPORT w_Role_HUB_POW) :
    own_Met l (⟨"com/example/gridledger/gridledger/positions/Role", "spansHour", "(Lcom/example/gridledger/gridledger/positions/Quantity;)Z"⟩ : MethodName) prog_41_method_10_code 2 (some .boolean) ws (own_rm 1 0 0 12) Z #[(.ref w_Role_LOAD), (.ref w_Quantity_PERFORMANCE)] h0 (own_R (some (.int (0 : Int32))) h0) := by
  refine own_met (plainFor_of_name pn_2) ?_
  intro p e s m below meth c T0 hx hby hml hown hret hk hnm hZ X0 e0
  have hown : s.vm.findClass "com/example/gridledger/gridledger/positions/Role" = some m.cls := hown
  obtain ⟨-, -, -, -, -, -, S_w_Role_Period_HOUR, -, -, -, -, -, -, -, -, -, -, -, -, -, -, -, -, -, -, E_w_Quantity_PERFORMANCE, -, -, -, -, -, -, -, -, -, F_w_Role_LOAD_period, -, -, -, -, -, -, -, -, -, -, -, -, -, -, -, ne_w_Role_Period_HOUR_w_Role_Period_INTERVAL⟩ := id H
  refine own_ent (ef_2 m w_Role_LOAD w_Quantity_PERFORMANCE) ?_
  refine own_aload_n X0 hx (hb hby d2_0) rfl rfl 1 rfl ?_
  refine own_pureV X0 hx hZ hown (own_w hw 19 rfl) (own_w hw 20 rfl) (notFace_of_selects (args := #[]) (mvT hZ (own_w hw 22 rfl))) (own_w hw 22 rfl) (own_w hw 21 rfl) (own_w hw 12 rfl) (own_w hw 23 rfl) (by decide) w_Quantity_PERFORMANCE [] [] 0 (rm_hourly_15 l Z a0 hw []  h0 n0 H) (by decide) (by decide) rfl rfl e0 E_w_Quantity_PERFORMANCE (by rw [hml]; rfl) (lenOf pd_2 rfl) (Nat.le_of_eq rfl) (hb hby d2_1) 4 rfl rfl (by decide) (by decide) fun T2 X2 e2 => ?_
  refine own_ifN X2 hx (hb hby d2_4) ((if0 _ _).trans (teq (by decide : (0 : Int32) = (0 : Int32))).2) 7 rfl ?_
  refine own_aload_n X2 hx (hb hby d2_7) rfl rfl 8 rfl ?_
  refine own_getF X2 hx hZ hown (host := "") (Or.inl (own_w hw 26 rfl)) Via.refl e2 F_w_Role_LOAD_period (hb hby d2_8) 11 rfl fun T3 X3 e3 => ?_
  refine own_getS X3 hx hZ hown (host := "") (Or.inl (own_w hw 30 rfl)) Via.refl e3 S_w_Role_Period_HOUR (hb hby d2_11) 14 rfl fun T4 X4 e4 => ?_
  refine own_acmp X4 hx false (hb hby d2_14) rfl rfl (decide_eq_false fun q => (Ne.symm ne_w_Role_Period_HOUR_w_Role_Period_INTERVAL) (Value.ref.inj q)) 21 (by decide) (by decide) ?_
  refine own_iconst X4 hx (hb hby d2_21) (0 : Int32) rfl 22 rfl ?_
  exact own_retZ X4 hx hk hret (hb hby d2_22) rfl ⟨rfl, e4, rfl⟩ (by decide) (by decide)
theorem d1_44 : decode method_3_code 44 = .ok (.getstatic 55, 3) := by decide +kernel
theorem d1_47 : decode method_3_code 47 = .ok (.areturn, 1) := by decide +kernel
theorem rm_quantity_17 (l : Launch) (Z : State) (a0 : Array Value) (hw : own_HW Z a0) (ws : List Jvm.Cond)  (h0 : Heap) (n0 : Nat) {w_Role_LOAD w_Quantity_MOVEMENT w_Role_Period_INTERVAL w_Role_Period_HOUR w_Role_VIRTUAL_LOAD w_Quantity_RT w_Quantity_BID w_Quantity_ACTUAL w_Role_VIRTUAL_SUPPLY w_Quantity_DA w_Role_SUPPLIER w_Role_HUB_POI w_Quantity_PERFORMANCE w_Role_REGULATION w_Role_EXPORT w_Role_IMPORT w_Role_HUB_POW : Addr} (H : own_C Z h0 w_Role_LOAD w_Quantity_MOVEMENT w_Role_Period_INTERVAL w_Role_Period_HOUR w_Role_VIRTUAL_LOAD w_Quantity_RT w_Quantity_BID w_Quantity_ACTUAL w_Role_VIRTUAL_SUPPLY w_Quantity_DA w_Role_SUPPLIER w_Role_HUB_POI w_Quantity_PERFORMANCE w_Role_REGULATION w_Role_EXPORT w_Role_IMPORT w_Role_HUB_POW) :
    own_Met l (⟨"com/example/gridledger/gridledger/positions/RoleSpansHourPinLaw", "quantity", "(I)Lcom/example/gridledger/gridledger/positions/Quantity;"⟩ : MethodName) method_3_code 1 (some (.object "com/example/gridledger/gridledger/positions/Quantity")) ws (own_rm 0 0 0 0) Z #[(.int (5 : Int32))] h0 (own_R (some (.ref w_Quantity_BID)) h0) := by
  refine own_met (plainFor_of_name pn_0) ?_
  intro p e s m below meth c T0 hx hby hml hown hret hk hnm hZ X0 e0
  have hown : s.vm.findClass "com/example/gridledger/gridledger/positions/RoleSpansHourPinLaw" = some m.cls := hown
  obtain ⟨-, -, -, -, -, -, -, -, -, -, -, -, S_w_Quantity_BID, -, -, -, -, -, -, -, -, -, -, -, -, -, -, -, -, -, -, -, -, -, -, -, -, -, -, -, -, -, -, -, -, -, -, -, -, -, -, -⟩ := id H
  refine own_ent (ef_0 m (5 : Int32)) ?_
  refine own_iload_n X0 hx (hb hby d1_0) rfl 1 rfl ?_
  refine own_ifY X0 hx (hb hby d1_1) ((if0 _ _).trans (feq (by decide : ¬ ((5 : Int32) = (0 : Int32)))).2) 8 (by decide) (by decide) ?_
  refine own_iload_n X0 hx (hb hby d1_8) rfl 9 rfl ?_
  refine own_iconst X0 hx (hb hby d1_9) (1 : Int32) rfl 10 rfl ?_
  refine own_icmpY X0 hx (hb hby d1_10) (feq (by decide : ¬ ((5 : Int32) = (1 : Int32)))).2 17 (by decide) (by decide) ?_
  refine own_iload_n X0 hx (hb hby d1_17) rfl 18 rfl ?_
  refine own_iconst X0 hx (hb hby d1_18) (2 : Int32) rfl 19 rfl ?_
  refine own_icmpY X0 hx (hb hby d1_19) (feq (by decide : ¬ ((5 : Int32) = (2 : Int32)))).2 26 (by decide) (by decide) ?_
  refine own_iload_n X0 hx (hb hby d1_26) rfl 27 rfl ?_
  refine own_iconst X0 hx (hb hby d1_27) (3 : Int32) rfl 28 rfl ?_
  refine own_icmpY X0 hx (hb hby d1_28) (feq (by decide : ¬ ((5 : Int32) = (3 : Int32)))).2 35 (by decide) (by decide) ?_
  refine own_iload_n X0 hx (hb hby d1_35) rfl 36 rfl ?_
  refine own_iconst X0 hx (hb hby d1_36) (4 : Int32) rfl 37 rfl ?_
  refine own_icmpY X0 hx (hb hby d1_37) (feq (by decide : ¬ ((5 : Int32) = (4 : Int32)))).2 44 (by decide) (by decide) ?_
  refine own_getS X0 hx hZ hown (host := "") (Or.inl (own_w hw 36 rfl)) Via.refl e0 S_w_Quantity_BID (hb hby d1_44) 47 rfl fun T1 X1 e1 => ?_
  exact own_retA X1 hx hk hret rfl rfl (hb hby d1_47) rfl ⟨rfl, e1, rfl⟩ (by decide) (by decide)
theorem rm_hourly_18 (l : Launch) (Z : State) (a0 : Array Value) (hw : own_HW Z a0) (ws : List Jvm.Cond)  (h0 : Heap) (n0 : Nat) {w_Role_LOAD w_Quantity_MOVEMENT w_Role_Period_INTERVAL w_Role_Period_HOUR w_Role_VIRTUAL_LOAD w_Quantity_RT w_Quantity_BID w_Quantity_ACTUAL w_Role_VIRTUAL_SUPPLY w_Quantity_DA w_Role_SUPPLIER w_Role_HUB_POI w_Quantity_PERFORMANCE w_Role_REGULATION w_Role_EXPORT w_Role_IMPORT w_Role_HUB_POW : Addr} (H : own_C Z h0 w_Role_LOAD w_Quantity_MOVEMENT w_Role_Period_INTERVAL w_Role_Period_HOUR w_Role_VIRTUAL_LOAD w_Quantity_RT w_Quantity_BID w_Quantity_ACTUAL w_Role_VIRTUAL_SUPPLY w_Quantity_DA w_Role_SUPPLIER w_Role_HUB_POI w_Quantity_PERFORMANCE w_Role_REGULATION w_Role_EXPORT w_Role_IMPORT w_Role_HUB_POW) :
    own_Met l (⟨"com/example/gridledger/gridledger/positions/Quantity", "hourly", "()Z"⟩ : MethodName) prog_40_method_5_code 1 (some .boolean) ws (own_rm 0 0 0 0) Z #[(.ref w_Quantity_BID)] h0 (own_R (some (.int (1 : Int32))) h0) := by
  refine own_met (plainFor_of_name pn_1) ?_
  intro p e s m below meth c T0 hx hby hml hown hret hk hnm hZ X0 e0
  have hown : s.vm.findClass "com/example/gridledger/gridledger/positions/Quantity" = some m.cls := hown
  obtain ⟨-, -, -, -, -, -, -, -, -, -, -, -, -, -, -, -, -, -, -, -, -, -, -, -, -, -, -, -, -, -, -, -, -, -, -, -, -, -, -, -, F_w_Quantity_BID_hourly, -, -, -, -, -, -, -, -, -, -, -⟩ := id H
  refine own_ent (ef_1 m w_Quantity_BID) ?_
  refine own_aload_n X0 hx (hb hby d3_0) rfl rfl 1 rfl ?_
  refine own_getF X0 hx hZ hown (host := "") (Or.inl (own_w hw 24 rfl)) Via.refl e0 F_w_Quantity_BID_hourly (hb hby d3_1) 4 rfl fun T1 X1 e1 => ?_
  exact own_retZ X1 hx hk hret (hb hby d3_4) rfl ⟨rfl, e1, rfl⟩ (by decide) (by decide)
theorem rm_spansHour_18 (l : Launch) (Z : State) (a0 : Array Value) (hw : own_HW Z a0) (ws : List Jvm.Cond)  (h0 : Heap) (n0 : Nat) {w_Role_LOAD w_Quantity_MOVEMENT w_Role_Period_INTERVAL w_Role_Period_HOUR w_Role_VIRTUAL_LOAD w_Quantity_RT w_Quantity_BID w_Quantity_ACTUAL w_Role_VIRTUAL_SUPPLY w_Quantity_DA w_Role_SUPPLIER w_Role_HUB_POI w_Quantity_PERFORMANCE w_Role_REGULATION w_Role_EXPORT w_Role_IMPORT w_Role_HUB_POW : Addr} (H : own_C Z h0 w_Role_LOAD w_Quantity_MOVEMENT w_Role_Period_INTERVAL w_Role_Period_HOUR w_Role_VIRTUAL_LOAD w_Quantity_RT w_Quantity_BID w_Quantity_ACTUAL w_Role_VIRTUAL_SUPPLY w_Quantity_DA w_Role_SUPPLIER w_Role_HUB_POI w_Quantity_PERFORMANCE w_Role_REGULATION w_Role_EXPORT w_Role_IMPORT w_Role_HUB_POW) :
    own_Met l (⟨"com/example/gridledger/gridledger/positions/Role", "spansHour", "(Lcom/example/gridledger/gridledger/positions/Quantity;)Z"⟩ : MethodName) prog_41_method_10_code 2 (some .boolean) ws (own_rm 1 0 0 12) Z #[(.ref w_Role_LOAD), (.ref w_Quantity_BID)] h0 (own_R (some (.int (1 : Int32))) h0) := by
  refine own_met (plainFor_of_name pn_2) ?_
  intro p e s m below meth c T0 hx hby hml hown hret hk hnm hZ X0 e0
  have hown : s.vm.findClass "com/example/gridledger/gridledger/positions/Role" = some m.cls := hown
  obtain ⟨-, -, -, -, -, -, -, -, -, -, -, -, -, E_w_Quantity_BID, -, -, -, -, -, -, -, -, -, -, -, -, -, -, -, -, -, -, -, -, -, -, -, -, -, -, -, -, -, -, -, -, -, -, -, -, -, -⟩ := id H
  refine own_ent (ef_2 m w_Role_LOAD w_Quantity_BID) ?_
  refine own_aload_n X0 hx (hb hby d2_0) rfl rfl 1 rfl ?_
  refine own_pureV X0 hx hZ hown (own_w hw 19 rfl) (own_w hw 20 rfl) (notFace_of_selects (args := #[]) (mvT hZ (own_w hw 22 rfl))) (own_w hw 22 rfl) (own_w hw 21 rfl) (own_w hw 12 rfl) (own_w hw 23 rfl) (by decide) w_Quantity_BID [] [] 0 (rm_hourly_18 l Z a0 hw []  h0 n0 H) (by decide) (by decide) rfl rfl e0 E_w_Quantity_BID (by rw [hml]; rfl) (lenOf pd_2 rfl) (Nat.le_of_eq rfl) (hb hby d2_1) 4 rfl rfl (by decide) (by decide) fun T2 X2 e2 => ?_
  refine own_ifY X2 hx (hb hby d2_4) ((if0 _ _).trans (feq (by decide : ¬ ((1 : Int32) = (0 : Int32)))).2) 17 (by decide) (by decide) ?_
  refine own_iconst X2 hx (hb hby d2_17) (1 : Int32) rfl 18 rfl ?_
  refine own_goto X2 hx (hb hby d2_18) 22 (by decide) (by decide) ?_
  exact own_retZ X2 hx hk hret (hb hby d2_22) rfl ⟨rfl, e2, rfl⟩ (by decide) (by decide)
theorem d0_8 : decode method_2_code 8 = .ok (.iload_n 0, 1) := by decide +kernel
theorem d0_9 : decode method_2_code 9 = .ok (.iconst 1, 1) := by decide +kernel
theorem d0_10 : decode method_2_code 10 = .ok (.if_icmp .ne 7, 3) := by decide +kernel
theorem d0_13 : decode method_2_code 13 = .ok (.getstatic 13, 3) := by decide +kernel
theorem d0_16 : decode method_2_code 16 = .ok (.areturn, 1) := by decide +kernel
theorem rm_role_20 (l : Launch) (Z : State) (a0 : Array Value) (hw : own_HW Z a0) (ws : List Jvm.Cond)  (h0 : Heap) (n0 : Nat) {w_Role_LOAD w_Quantity_MOVEMENT w_Role_Period_INTERVAL w_Role_Period_HOUR w_Role_VIRTUAL_LOAD w_Quantity_RT w_Quantity_BID w_Quantity_ACTUAL w_Role_VIRTUAL_SUPPLY w_Quantity_DA w_Role_SUPPLIER w_Role_HUB_POI w_Quantity_PERFORMANCE w_Role_REGULATION w_Role_EXPORT w_Role_IMPORT w_Role_HUB_POW : Addr} (H : own_C Z h0 w_Role_LOAD w_Quantity_MOVEMENT w_Role_Period_INTERVAL w_Role_Period_HOUR w_Role_VIRTUAL_LOAD w_Quantity_RT w_Quantity_BID w_Quantity_ACTUAL w_Role_VIRTUAL_SUPPLY w_Quantity_DA w_Role_SUPPLIER w_Role_HUB_POI w_Quantity_PERFORMANCE w_Role_REGULATION w_Role_EXPORT w_Role_IMPORT w_Role_HUB_POW) :
    own_Met l (⟨"com/example/gridledger/gridledger/positions/RoleSpansHourPinLaw", "role", "(I)Lcom/example/gridledger/gridledger/positions/Role;"⟩ : MethodName) method_2_code 1 (some (.object "com/example/gridledger/gridledger/positions/Role")) ws (own_rm 0 0 0 0) Z #[(.int (1 : Int32))] h0 (own_R (some (.ref w_Role_SUPPLIER)) h0) := by
  refine own_met (plainFor_of_name pn_0) ?_
  intro p e s m below meth c T0 hx hby hml hown hret hk hnm hZ X0 e0
  have hown : s.vm.findClass "com/example/gridledger/gridledger/positions/RoleSpansHourPinLaw" = some m.cls := hown
  obtain ⟨-, -, -, -, -, -, -, -, -, -, -, -, -, -, -, -, -, -, -, -, S_w_Role_SUPPLIER, -, -, -, -, -, -, -, -, -, -, -, -, -, -, -, -, -, -, -, -, -, -, -, -, -, -, -, -, -, -, -⟩ := id H
  refine own_ent (ef_0 m (1 : Int32)) ?_
  refine own_iload_n X0 hx (hb hby d0_0) rfl 1 rfl ?_
  refine own_ifY X0 hx (hb hby d0_1) ((if0 _ _).trans (feq (by decide : ¬ ((1 : Int32) = (0 : Int32)))).2) 8 (by decide) (by decide) ?_
  refine own_iload_n X0 hx (hb hby d0_8) rfl 9 rfl ?_
  refine own_iconst X0 hx (hb hby d0_9) (1 : Int32) rfl 10 rfl ?_
  refine own_icmpN X0 hx (hb hby d0_10) (teq (by decide : (1 : Int32) = (1 : Int32))).2 13 rfl ?_
  refine own_getS X0 hx hZ hown (host := "") (Or.inl (own_w hw 44 rfl)) Via.refl e0 S_w_Role_SUPPLIER (hb hby d0_13) 16 rfl fun T1 X1 e1 => ?_
  exact own_retA X1 hx hk hret rfl rfl (hb hby d0_16) rfl ⟨rfl, e1, rfl⟩ (by decide) (by decide)
theorem rm_spansHour_21 (l : Launch) (Z : State) (a0 : Array Value) (hw : own_HW Z a0) (ws : List Jvm.Cond)  (h0 : Heap) (n0 : Nat) {w_Role_LOAD w_Quantity_MOVEMENT w_Role_Period_INTERVAL w_Role_Period_HOUR w_Role_VIRTUAL_LOAD w_Quantity_RT w_Quantity_BID w_Quantity_ACTUAL w_Role_VIRTUAL_SUPPLY w_Quantity_DA w_Role_SUPPLIER w_Role_HUB_POI w_Quantity_PERFORMANCE w_Role_REGULATION w_Role_EXPORT w_Role_IMPORT w_Role_HUB_POW : Addr} (H : own_C Z h0 w_Role_LOAD w_Quantity_MOVEMENT w_Role_Period_INTERVAL w_Role_Period_HOUR w_Role_VIRTUAL_LOAD w_Quantity_RT w_Quantity_BID w_Quantity_ACTUAL w_Role_VIRTUAL_SUPPLY w_Quantity_DA w_Role_SUPPLIER w_Role_HUB_POI w_Quantity_PERFORMANCE w_Role_REGULATION w_Role_EXPORT w_Role_IMPORT w_Role_HUB_POW) :
    own_Met l (⟨"com/example/gridledger/gridledger/positions/Role", "spansHour", "(Lcom/example/gridledger/gridledger/positions/Quantity;)Z"⟩ : MethodName) prog_41_method_10_code 2 (some .boolean) ws (own_rm 1 0 0 12) Z #[(.ref w_Role_SUPPLIER), (.ref w_Quantity_DA)] h0 (own_R (some (.int (1 : Int32))) h0) := by
  refine own_met (plainFor_of_name pn_2) ?_
  intro p e s m below meth c T0 hx hby hml hown hret hk hnm hZ X0 e0
  have hown : s.vm.findClass "com/example/gridledger/gridledger/positions/Role" = some m.cls := hown
  obtain ⟨-, -, -, -, -, -, -, -, -, -, -, -, -, -, -, -, -, -, -, E_w_Quantity_DA, -, -, -, -, -, -, -, -, -, -, -, -, -, -, -, -, -, -, -, -, -, -, -, -, -, -, -, -, -, -, -, -⟩ := id H
  refine own_ent (ef_2 m w_Role_SUPPLIER w_Quantity_DA) ?_
  refine own_aload_n X0 hx (hb hby d2_0) rfl rfl 1 rfl ?_
  refine own_pureV X0 hx hZ hown (own_w hw 19 rfl) (own_w hw 20 rfl) (notFace_of_selects (args := #[]) (mvT hZ (own_w hw 22 rfl))) (own_w hw 22 rfl) (own_w hw 21 rfl) (own_w hw 12 rfl) (own_w hw 23 rfl) (by decide) w_Quantity_DA [] [] 0 (rm_hourly_3 l Z a0 hw []  h0 n0 H) (by decide) (by decide) rfl rfl e0 E_w_Quantity_DA (by rw [hml]; rfl) (lenOf pd_2 rfl) (Nat.le_of_eq rfl) (hb hby d2_1) 4 rfl rfl (by decide) (by decide) fun T2 X2 e2 => ?_
  refine own_ifY X2 hx (hb hby d2_4) ((if0 _ _).trans (feq (by decide : ¬ ((1 : Int32) = (0 : Int32)))).2) 17 (by decide) (by decide) ?_
  refine own_iconst X2 hx (hb hby d2_17) (1 : Int32) rfl 18 rfl ?_
  refine own_goto X2 hx (hb hby d2_18) 22 (by decide) (by decide) ?_
  exact own_retZ X2 hx hk hret (hb hby d2_22) rfl ⟨rfl, e2, rfl⟩ (by decide) (by decide)
theorem rm_spansHour_22 (l : Launch) (Z : State) (a0 : Array Value) (hw : own_HW Z a0) (ws : List Jvm.Cond)  (h0 : Heap) (n0 : Nat) {w_Role_LOAD w_Quantity_MOVEMENT w_Role_Period_INTERVAL w_Role_Period_HOUR w_Role_VIRTUAL_LOAD w_Quantity_RT w_Quantity_BID w_Quantity_ACTUAL w_Role_VIRTUAL_SUPPLY w_Quantity_DA w_Role_SUPPLIER w_Role_HUB_POI w_Quantity_PERFORMANCE w_Role_REGULATION w_Role_EXPORT w_Role_IMPORT w_Role_HUB_POW : Addr} (H : own_C Z h0 w_Role_LOAD w_Quantity_MOVEMENT w_Role_Period_INTERVAL w_Role_Period_HOUR w_Role_VIRTUAL_LOAD w_Quantity_RT w_Quantity_BID w_Quantity_ACTUAL w_Role_VIRTUAL_SUPPLY w_Quantity_DA w_Role_SUPPLIER w_Role_HUB_POI w_Quantity_PERFORMANCE w_Role_REGULATION w_Role_EXPORT w_Role_IMPORT w_Role_HUB_POW) :
    own_Met l (⟨"com/example/gridledger/gridledger/positions/Role", "spansHour", "(Lcom/example/gridledger/gridledger/positions/Quantity;)Z"⟩ : MethodName) prog_41_method_10_code 2 (some .boolean) ws (own_rm 1 0 0 12) Z #[(.ref w_Role_SUPPLIER), (.ref w_Quantity_RT)] h0 (own_R (some (.int (0 : Int32))) h0) := by
  refine own_met (plainFor_of_name pn_2) ?_
  intro p e s m below meth c T0 hx hby hml hown hret hk hnm hZ X0 e0
  have hown : s.vm.findClass "com/example/gridledger/gridledger/positions/Role" = some m.cls := hown
  obtain ⟨-, -, -, -, -, -, S_w_Role_Period_HOUR, -, -, -, -, E_w_Quantity_RT, -, -, -, -, -, -, -, -, -, -, -, -, -, -, -, -, -, -, -, -, -, -, -, -, -, -, -, -, -, -, -, F_w_Role_SUPPLIER_period, -, -, -, -, -, -, -, ne_w_Role_Period_HOUR_w_Role_Period_INTERVAL⟩ := id H
  refine own_ent (ef_2 m w_Role_SUPPLIER w_Quantity_RT) ?_
  refine own_aload_n X0 hx (hb hby d2_0) rfl rfl 1 rfl ?_
  refine own_pureV X0 hx hZ hown (own_w hw 19 rfl) (own_w hw 20 rfl) (notFace_of_selects (args := #[]) (mvT hZ (own_w hw 22 rfl))) (own_w hw 22 rfl) (own_w hw 21 rfl) (own_w hw 12 rfl) (own_w hw 23 rfl) (by decide) w_Quantity_RT [] [] 0 (rm_hourly_6 l Z a0 hw []  h0 n0 H) (by decide) (by decide) rfl rfl e0 E_w_Quantity_RT (by rw [hml]; rfl) (lenOf pd_2 rfl) (Nat.le_of_eq rfl) (hb hby d2_1) 4 rfl rfl (by decide) (by decide) fun T2 X2 e2 => ?_
  refine own_ifN X2 hx (hb hby d2_4) ((if0 _ _).trans (teq (by decide : (0 : Int32) = (0 : Int32))).2) 7 rfl ?_
  refine own_aload_n X2 hx (hb hby d2_7) rfl rfl 8 rfl ?_
  refine own_getF X2 hx hZ hown (host := "") (Or.inl (own_w hw 26 rfl)) Via.refl e2 F_w_Role_SUPPLIER_period (hb hby d2_8) 11 rfl fun T3 X3 e3 => ?_
  refine own_getS X3 hx hZ hown (host := "") (Or.inl (own_w hw 30 rfl)) Via.refl e3 S_w_Role_Period_HOUR (hb hby d2_11) 14 rfl fun T4 X4 e4 => ?_
  refine own_acmp X4 hx false (hb hby d2_14) rfl rfl (decide_eq_false fun q => (Ne.symm ne_w_Role_Period_HOUR_w_Role_Period_INTERVAL) (Value.ref.inj q)) 21 (by decide) (by decide) ?_
  refine own_iconst X4 hx (hb hby d2_21) (0 : Int32) rfl 22 rfl ?_
  exact own_retZ X4 hx hk hret (hb hby d2_22) rfl ⟨rfl, e4, rfl⟩ (by decide) (by decide)
theorem rm_spansHour_23 (l : Launch) (Z : State) (a0 : Array Value) (hw : own_HW Z a0) (ws : List Jvm.Cond)  (h0 : Heap) (n0 : Nat) {w_Role_LOAD w_Quantity_MOVEMENT w_Role_Period_INTERVAL w_Role_Period_HOUR w_Role_VIRTUAL_LOAD w_Quantity_RT w_Quantity_BID w_Quantity_ACTUAL w_Role_VIRTUAL_SUPPLY w_Quantity_DA w_Role_SUPPLIER w_Role_HUB_POI w_Quantity_PERFORMANCE w_Role_REGULATION w_Role_EXPORT w_Role_IMPORT w_Role_HUB_POW : Addr} (H : own_C Z h0 w_Role_LOAD w_Quantity_MOVEMENT w_Role_Period_INTERVAL w_Role_Period_HOUR w_Role_VIRTUAL_LOAD w_Quantity_RT w_Quantity_BID w_Quantity_ACTUAL w_Role_VIRTUAL_SUPPLY w_Quantity_DA w_Role_SUPPLIER w_Role_HUB_POI w_Quantity_PERFORMANCE w_Role_REGULATION w_Role_EXPORT w_Role_IMPORT w_Role_HUB_POW) :
    own_Met l (⟨"com/example/gridledger/gridledger/positions/Role", "spansHour", "(Lcom/example/gridledger/gridledger/positions/Quantity;)Z"⟩ : MethodName) prog_41_method_10_code 2 (some .boolean) ws (own_rm 1 0 0 12) Z #[(.ref w_Role_SUPPLIER), (.ref w_Quantity_ACTUAL)] h0 (own_R (some (.int (0 : Int32))) h0) := by
  refine own_met (plainFor_of_name pn_2) ?_
  intro p e s m below meth c T0 hx hby hml hown hret hk hnm hZ X0 e0
  have hown : s.vm.findClass "com/example/gridledger/gridledger/positions/Role" = some m.cls := hown
  obtain ⟨-, -, -, -, -, -, S_w_Role_Period_HOUR, -, -, -, -, -, -, -, -, E_w_Quantity_ACTUAL, -, -, -, -, -, -, -, -, -, -, -, -, -, -, -, -, -, -, -, -, -, -, -, -, -, -, -, F_w_Role_SUPPLIER_period, -, -, -, -, -, -, -, ne_w_Role_Period_HOUR_w_Role_Period_INTERVAL⟩ := id H
  refine own_ent (ef_2 m w_Role_SUPPLIER w_Quantity_ACTUAL) ?_
  refine own_aload_n X0 hx (hb hby d2_0) rfl rfl 1 rfl ?_
  refine own_pureV X0 hx hZ hown (own_w hw 19 rfl) (own_w hw 20 rfl) (notFace_of_selects (args := #[]) (mvT hZ (own_w hw 22 rfl))) (own_w hw 22 rfl) (own_w hw 21 rfl) (own_w hw 12 rfl) (own_w hw 23 rfl) (by decide) w_Quantity_ACTUAL [] [] 0 (rm_hourly_9 l Z a0 hw []  h0 n0 H) (by decide) (by decide) rfl rfl e0 E_w_Quantity_ACTUAL (by rw [hml]; rfl) (lenOf pd_2 rfl) (Nat.le_of_eq rfl) (hb hby d2_1) 4 rfl rfl (by decide) (by decide) fun T2 X2 e2 => ?_
  refine own_ifN X2 hx (hb hby d2_4) ((if0 _ _).trans (teq (by decide : (0 : Int32) = (0 : Int32))).2) 7 rfl ?_
  refine own_aload_n X2 hx (hb hby d2_7) rfl rfl 8 rfl ?_
  refine own_getF X2 hx hZ hown (host := "") (Or.inl (own_w hw 26 rfl)) Via.refl e2 F_w_Role_SUPPLIER_period (hb hby d2_8) 11 rfl fun T3 X3 e3 => ?_
  refine own_getS X3 hx hZ hown (host := "") (Or.inl (own_w hw 30 rfl)) Via.refl e3 S_w_Role_Period_HOUR (hb hby d2_11) 14 rfl fun T4 X4 e4 => ?_
  refine own_acmp X4 hx false (hb hby d2_14) rfl rfl (decide_eq_false fun q => (Ne.symm ne_w_Role_Period_HOUR_w_Role_Period_INTERVAL) (Value.ref.inj q)) 21 (by decide) (by decide) ?_
  refine own_iconst X4 hx (hb hby d2_21) (0 : Int32) rfl 22 rfl ?_
  exact own_retZ X4 hx hk hret (hb hby d2_22) rfl ⟨rfl, e4, rfl⟩ (by decide) (by decide)
theorem rm_spansHour_24 (l : Launch) (Z : State) (a0 : Array Value) (hw : own_HW Z a0) (ws : List Jvm.Cond)  (h0 : Heap) (n0 : Nat) {w_Role_LOAD w_Quantity_MOVEMENT w_Role_Period_INTERVAL w_Role_Period_HOUR w_Role_VIRTUAL_LOAD w_Quantity_RT w_Quantity_BID w_Quantity_ACTUAL w_Role_VIRTUAL_SUPPLY w_Quantity_DA w_Role_SUPPLIER w_Role_HUB_POI w_Quantity_PERFORMANCE w_Role_REGULATION w_Role_EXPORT w_Role_IMPORT w_Role_HUB_POW : Addr} (H : own_C Z h0 w_Role_LOAD w_Quantity_MOVEMENT w_Role_Period_INTERVAL w_Role_Period_HOUR w_Role_VIRTUAL_LOAD w_Quantity_RT w_Quantity_BID w_Quantity_ACTUAL w_Role_VIRTUAL_SUPPLY w_Quantity_DA w_Role_SUPPLIER w_Role_HUB_POI w_Quantity_PERFORMANCE w_Role_REGULATION w_Role_EXPORT w_Role_IMPORT w_Role_HUB_POW) :
    own_Met l (⟨"com/example/gridledger/gridledger/positions/Role", "spansHour", "(Lcom/example/gridledger/gridledger/positions/Quantity;)Z"⟩ : MethodName) prog_41_method_10_code 2 (some .boolean) ws (own_rm 1 0 0 12) Z #[(.ref w_Role_SUPPLIER), (.ref w_Quantity_MOVEMENT)] h0 (own_R (some (.int (0 : Int32))) h0) := by
  refine own_met (plainFor_of_name pn_2) ?_
  intro p e s m below meth c T0 hx hby hml hown hret hk hnm hZ X0 e0
  have hown : s.vm.findClass "com/example/gridledger/gridledger/positions/Role" = some m.cls := hown
  obtain ⟨-, -, -, E_w_Quantity_MOVEMENT, -, -, S_w_Role_Period_HOUR, -, -, -, -, -, -, -, -, -, -, -, -, -, -, -, -, -, -, -, -, -, -, -, -, -, -, -, -, -, -, -, -, -, -, -, -, F_w_Role_SUPPLIER_period, -, -, -, -, -, -, -, ne_w_Role_Period_HOUR_w_Role_Period_INTERVAL⟩ := id H
  refine own_ent (ef_2 m w_Role_SUPPLIER w_Quantity_MOVEMENT) ?_
  refine own_aload_n X0 hx (hb hby d2_0) rfl rfl 1 rfl ?_
  refine own_pureV X0 hx hZ hown (own_w hw 19 rfl) (own_w hw 20 rfl) (notFace_of_selects (args := #[]) (mvT hZ (own_w hw 22 rfl))) (own_w hw 22 rfl) (own_w hw 21 rfl) (own_w hw 12 rfl) (own_w hw 23 rfl) (by decide) w_Quantity_MOVEMENT [] [] 0 (rm_hourly_12 l Z a0 hw []  h0 n0 H) (by decide) (by decide) rfl rfl e0 E_w_Quantity_MOVEMENT (by rw [hml]; rfl) (lenOf pd_2 rfl) (Nat.le_of_eq rfl) (hb hby d2_1) 4 rfl rfl (by decide) (by decide) fun T2 X2 e2 => ?_
  refine own_ifN X2 hx (hb hby d2_4) ((if0 _ _).trans (teq (by decide : (0 : Int32) = (0 : Int32))).2) 7 rfl ?_
  refine own_aload_n X2 hx (hb hby d2_7) rfl rfl 8 rfl ?_
  refine own_getF X2 hx hZ hown (host := "") (Or.inl (own_w hw 26 rfl)) Via.refl e2 F_w_Role_SUPPLIER_period (hb hby d2_8) 11 rfl fun T3 X3 e3 => ?_
  refine own_getS X3 hx hZ hown (host := "") (Or.inl (own_w hw 30 rfl)) Via.refl e3 S_w_Role_Period_HOUR (hb hby d2_11) 14 rfl fun T4 X4 e4 => ?_
  refine own_acmp X4 hx false (hb hby d2_14) rfl rfl (decide_eq_false fun q => (Ne.symm ne_w_Role_Period_HOUR_w_Role_Period_INTERVAL) (Value.ref.inj q)) 21 (by decide) (by decide) ?_
  refine own_iconst X4 hx (hb hby d2_21) (0 : Int32) rfl 22 rfl ?_
  exact own_retZ X4 hx hk hret (hb hby d2_22) rfl ⟨rfl, e4, rfl⟩ (by decide) (by decide)
theorem rm_spansHour_25 (l : Launch) (Z : State) (a0 : Array Value) (hw : own_HW Z a0) (ws : List Jvm.Cond)  (h0 : Heap) (n0 : Nat) {w_Role_LOAD w_Quantity_MOVEMENT w_Role_Period_INTERVAL w_Role_Period_HOUR w_Role_VIRTUAL_LOAD w_Quantity_RT w_Quantity_BID w_Quantity_ACTUAL w_Role_VIRTUAL_SUPPLY w_Quantity_DA w_Role_SUPPLIER w_Role_HUB_POI w_Quantity_PERFORMANCE w_Role_REGULATION w_Role_EXPORT w_Role_IMPORT w_Role_HUB_POW : Addr} (H : own_C Z h0 w_Role_LOAD w_Quantity_MOVEMENT w_Role_Period_INTERVAL w_Role_Period_HOUR w_Role_VIRTUAL_LOAD w_Quantity_RT w_Quantity_BID w_Quantity_ACTUAL w_Role_VIRTUAL_SUPPLY w_Quantity_DA w_Role_SUPPLIER w_Role_HUB_POI w_Quantity_PERFORMANCE w_Role_REGULATION w_Role_EXPORT w_Role_IMPORT w_Role_HUB_POW) :
    own_Met l (⟨"com/example/gridledger/gridledger/positions/Role", "spansHour", "(Lcom/example/gridledger/gridledger/positions/Quantity;)Z"⟩ : MethodName) prog_41_method_10_code 2 (some .boolean) ws (own_rm 1 0 0 12) Z #[(.ref w_Role_SUPPLIER), (.ref w_Quantity_PERFORMANCE)] h0 (own_R (some (.int (0 : Int32))) h0) := by
  refine own_met (plainFor_of_name pn_2) ?_
  intro p e s m below meth c T0 hx hby hml hown hret hk hnm hZ X0 e0
  have hown : s.vm.findClass "com/example/gridledger/gridledger/positions/Role" = some m.cls := hown
  obtain ⟨-, -, -, -, -, -, S_w_Role_Period_HOUR, -, -, -, -, -, -, -, -, -, -, -, -, -, -, -, -, -, -, E_w_Quantity_PERFORMANCE, -, -, -, -, -, -, -, -, -, -, -, -, -, -, -, -, -, F_w_Role_SUPPLIER_period, -, -, -, -, -, -, -, ne_w_Role_Period_HOUR_w_Role_Period_INTERVAL⟩ := id H
  refine own_ent (ef_2 m w_Role_SUPPLIER w_Quantity_PERFORMANCE) ?_
  refine own_aload_n X0 hx (hb hby d2_0) rfl rfl 1 rfl ?_
  refine own_pureV X0 hx hZ hown (own_w hw 19 rfl) (own_w hw 20 rfl) (notFace_of_selects (args := #[]) (mvT hZ (own_w hw 22 rfl))) (own_w hw 22 rfl) (own_w hw 21 rfl) (own_w hw 12 rfl) (own_w hw 23 rfl) (by decide) w_Quantity_PERFORMANCE [] [] 0 (rm_hourly_15 l Z a0 hw []  h0 n0 H) (by decide) (by decide) rfl rfl e0 E_w_Quantity_PERFORMANCE (by rw [hml]; rfl) (lenOf pd_2 rfl) (Nat.le_of_eq rfl) (hb hby d2_1) 4 rfl rfl (by decide) (by decide) fun T2 X2 e2 => ?_
  refine own_ifN X2 hx (hb hby d2_4) ((if0 _ _).trans (teq (by decide : (0 : Int32) = (0 : Int32))).2) 7 rfl ?_
  refine own_aload_n X2 hx (hb hby d2_7) rfl rfl 8 rfl ?_
  refine own_getF X2 hx hZ hown (host := "") (Or.inl (own_w hw 26 rfl)) Via.refl e2 F_w_Role_SUPPLIER_period (hb hby d2_8) 11 rfl fun T3 X3 e3 => ?_
  refine own_getS X3 hx hZ hown (host := "") (Or.inl (own_w hw 30 rfl)) Via.refl e3 S_w_Role_Period_HOUR (hb hby d2_11) 14 rfl fun T4 X4 e4 => ?_
  refine own_acmp X4 hx false (hb hby d2_14) rfl rfl (decide_eq_false fun q => (Ne.symm ne_w_Role_Period_HOUR_w_Role_Period_INTERVAL) (Value.ref.inj q)) 21 (by decide) (by decide) ?_
  refine own_iconst X4 hx (hb hby d2_21) (0 : Int32) rfl 22 rfl ?_
  exact own_retZ X4 hx hk hret (hb hby d2_22) rfl ⟨rfl, e4, rfl⟩ (by decide) (by decide)
theorem rm_spansHour_26 (l : Launch) (Z : State) (a0 : Array Value) (hw : own_HW Z a0) (ws : List Jvm.Cond)  (h0 : Heap) (n0 : Nat) {w_Role_LOAD w_Quantity_MOVEMENT w_Role_Period_INTERVAL w_Role_Period_HOUR w_Role_VIRTUAL_LOAD w_Quantity_RT w_Quantity_BID w_Quantity_ACTUAL w_Role_VIRTUAL_SUPPLY w_Quantity_DA w_Role_SUPPLIER w_Role_HUB_POI w_Quantity_PERFORMANCE w_Role_REGULATION w_Role_EXPORT w_Role_IMPORT w_Role_HUB_POW : Addr} (H : own_C Z h0 w_Role_LOAD w_Quantity_MOVEMENT w_Role_Period_INTERVAL w_Role_Period_HOUR w_Role_VIRTUAL_LOAD w_Quantity_RT w_Quantity_BID w_Quantity_ACTUAL w_Role_VIRTUAL_SUPPLY w_Quantity_DA w_Role_SUPPLIER w_Role_HUB_POI w_Quantity_PERFORMANCE w_Role_REGULATION w_Role_EXPORT w_Role_IMPORT w_Role_HUB_POW) :
    own_Met l (⟨"com/example/gridledger/gridledger/positions/Role", "spansHour", "(Lcom/example/gridledger/gridledger/positions/Quantity;)Z"⟩ : MethodName) prog_41_method_10_code 2 (some .boolean) ws (own_rm 1 0 0 12) Z #[(.ref w_Role_SUPPLIER), (.ref w_Quantity_BID)] h0 (own_R (some (.int (1 : Int32))) h0) := by
  refine own_met (plainFor_of_name pn_2) ?_
  intro p e s m below meth c T0 hx hby hml hown hret hk hnm hZ X0 e0
  have hown : s.vm.findClass "com/example/gridledger/gridledger/positions/Role" = some m.cls := hown
  obtain ⟨-, -, -, -, -, -, -, -, -, -, -, -, -, E_w_Quantity_BID, -, -, -, -, -, -, -, -, -, -, -, -, -, -, -, -, -, -, -, -, -, -, -, -, -, -, -, -, -, -, -, -, -, -, -, -, -, -⟩ := id H
  refine own_ent (ef_2 m w_Role_SUPPLIER w_Quantity_BID) ?_
  refine own_aload_n X0 hx (hb hby d2_0) rfl rfl 1 rfl ?_
  refine own_pureV X0 hx hZ hown (own_w hw 19 rfl) (own_w hw 20 rfl) (notFace_of_selects (args := #[]) (mvT hZ (own_w hw 22 rfl))) (own_w hw 22 rfl) (own_w hw 21 rfl) (own_w hw 12 rfl) (own_w hw 23 rfl) (by decide) w_Quantity_BID [] [] 0 (rm_hourly_18 l Z a0 hw []  h0 n0 H) (by decide) (by decide) rfl rfl e0 E_w_Quantity_BID (by rw [hml]; rfl) (lenOf pd_2 rfl) (Nat.le_of_eq rfl) (hb hby d2_1) 4 rfl rfl (by decide) (by decide) fun T2 X2 e2 => ?_
  refine own_ifY X2 hx (hb hby d2_4) ((if0 _ _).trans (feq (by decide : ¬ ((1 : Int32) = (0 : Int32)))).2) 17 (by decide) (by decide) ?_
  refine own_iconst X2 hx (hb hby d2_17) (1 : Int32) rfl 18 rfl ?_
  refine own_goto X2 hx (hb hby d2_18) 22 (by decide) (by decide) ?_
  exact own_retZ X2 hx hk hret (hb hby d2_22) rfl ⟨rfl, e2, rfl⟩ (by decide) (by decide)
theorem d0_17 : decode method_2_code 17 = .ok (.iload_n 0, 1) := by decide +kernel
theorem d0_18 : decode method_2_code 18 = .ok (.iconst 2, 1) := by decide +kernel
theorem d0_19 : decode method_2_code 19 = .ok (.if_icmp .ne 7, 3) := by decide +kernel
theorem d0_22 : decode method_2_code 22 = .ok (.getstatic 16, 3) := by decide +kernel
theorem d0_25 : decode method_2_code 25 = .ok (.areturn, 1) := by decide +kernel
theorem rm_role_27 (l : Launch) (Z : State) (a0 : Array Value) (hw : own_HW Z a0) (ws : List Jvm.Cond)  (h0 : Heap) (n0 : Nat) {w_Role_LOAD w_Quantity_MOVEMENT w_Role_Period_INTERVAL w_Role_Period_HOUR w_Role_VIRTUAL_LOAD w_Quantity_RT w_Quantity_BID w_Quantity_ACTUAL w_Role_VIRTUAL_SUPPLY w_Quantity_DA w_Role_SUPPLIER w_Role_HUB_POI w_Quantity_PERFORMANCE w_Role_REGULATION w_Role_EXPORT w_Role_IMPORT w_Role_HUB_POW : Addr} (H : own_C Z h0 w_Role_LOAD w_Quantity_MOVEMENT w_Role_Period_INTERVAL w_Role_Period_HOUR w_Role_VIRTUAL_LOAD w_Quantity_RT w_Quantity_BID w_Quantity_ACTUAL w_Role_VIRTUAL_SUPPLY w_Quantity_DA w_Role_SUPPLIER w_Role_HUB_POI w_Quantity_PERFORMANCE w_Role_REGULATION w_Role_EXPORT w_Role_IMPORT w_Role_HUB_POW) :
    own_Met l (⟨"com/example/gridledger/gridledger/positions/RoleSpansHourPinLaw", "role", "(I)Lcom/example/gridledger/gridledger/positions/Role;"⟩ : MethodName) method_2_code 1 (some (.object "com/example/gridledger/gridledger/positions/Role")) ws (own_rm 0 0 0 0) Z #[(.int (2 : Int32))] h0 (own_R (some (.ref w_Role_IMPORT)) h0) := by
  refine own_met (plainFor_of_name pn_0) ?_
  intro p e s m below meth c T0 hx hby hml hown hret hk hnm hZ X0 e0
  have hown : s.vm.findClass "com/example/gridledger/gridledger/positions/RoleSpansHourPinLaw" = some m.cls := hown
  obtain ⟨-, -, -, -, -, -, -, -, -, -, -, -, -, -, -, -, -, -, -, -, -, -, -, -, -, -, -, -, -, -, S_w_Role_IMPORT, -, -, -, -, -, -, -, -, -, -, -, -, -, -, -, -, -, -, -, -, -⟩ := id H
  refine own_ent (ef_0 m (2 : Int32)) ?_
  refine own_iload_n X0 hx (hb hby d0_0) rfl 1 rfl ?_
  refine own_ifY X0 hx (hb hby d0_1) ((if0 _ _).trans (feq (by decide : ¬ ((2 : Int32) = (0 : Int32)))).2) 8 (by decide) (by decide) ?_
  refine own_iload_n X0 hx (hb hby d0_8) rfl 9 rfl ?_
  refine own_iconst X0 hx (hb hby d0_9) (1 : Int32) rfl 10 rfl ?_
  refine own_icmpY X0 hx (hb hby d0_10) (feq (by decide : ¬ ((2 : Int32) = (1 : Int32)))).2 17 (by decide) (by decide) ?_
  refine own_iload_n X0 hx (hb hby d0_17) rfl 18 rfl ?_
  refine own_iconst X0 hx (hb hby d0_18) (2 : Int32) rfl 19 rfl ?_
  refine own_icmpN X0 hx (hb hby d0_19) (teq (by decide : (2 : Int32) = (2 : Int32))).2 22 rfl ?_
  refine own_getS X0 hx hZ hown (host := "") (Or.inl (own_w hw 54 rfl)) Via.refl e0 S_w_Role_IMPORT (hb hby d0_22) 25 rfl fun T1 X1 e1 => ?_
  exact own_retA X1 hx hk hret rfl rfl (hb hby d0_25) rfl ⟨rfl, e1, rfl⟩ (by decide) (by decide)
theorem rm_spansHour_28 (l : Launch) (Z : State) (a0 : Array Value) (hw : own_HW Z a0) (ws : List Jvm.Cond)  (h0 : Heap) (n0 : Nat) {w_Role_LOAD w_Quantity_MOVEMENT w_Role_Period_INTERVAL w_Role_Period_HOUR w_Role_VIRTUAL_LOAD w_Quantity_RT w_Quantity_BID w_Quantity_ACTUAL w_Role_VIRTUAL_SUPPLY w_Quantity_DA w_Role_SUPPLIER w_Role_HUB_POI w_Quantity_PERFORMANCE w_Role_REGULATION w_Role_EXPORT w_Role_IMPORT w_Role_HUB_POW : Addr} (H : own_C Z h0 w_Role_LOAD w_Quantity_MOVEMENT w_Role_Period_INTERVAL w_Role_Period_HOUR w_Role_VIRTUAL_LOAD w_Quantity_RT w_Quantity_BID w_Quantity_ACTUAL w_Role_VIRTUAL_SUPPLY w_Quantity_DA w_Role_SUPPLIER w_Role_HUB_POI w_Quantity_PERFORMANCE w_Role_REGULATION w_Role_EXPORT w_Role_IMPORT w_Role_HUB_POW) :
    own_Met l (⟨"com/example/gridledger/gridledger/positions/Role", "spansHour", "(Lcom/example/gridledger/gridledger/positions/Quantity;)Z"⟩ : MethodName) prog_41_method_10_code 2 (some .boolean) ws (own_rm 1 0 0 12) Z #[(.ref w_Role_IMPORT), (.ref w_Quantity_DA)] h0 (own_R (some (.int (1 : Int32))) h0) := by
  refine own_met (plainFor_of_name pn_2) ?_
  intro p e s m below meth c T0 hx hby hml hown hret hk hnm hZ X0 e0
  have hown : s.vm.findClass "com/example/gridledger/gridledger/positions/Role" = some m.cls := hown
  obtain ⟨-, -, -, -, -, -, -, -, -, -, -, -, -, -, -, -, -, -, -, E_w_Quantity_DA, -, -, -, -, -, -, -, -, -, -, -, -, -, -, -, -, -, -, -, -, -, -, -, -, -, -, -, -, -, -, -, -⟩ := id H
  refine own_ent (ef_2 m w_Role_IMPORT w_Quantity_DA) ?_
  refine own_aload_n X0 hx (hb hby d2_0) rfl rfl 1 rfl ?_
  refine own_pureV X0 hx hZ hown (own_w hw 19 rfl) (own_w hw 20 rfl) (notFace_of_selects (args := #[]) (mvT hZ (own_w hw 22 rfl))) (own_w hw 22 rfl) (own_w hw 21 rfl) (own_w hw 12 rfl) (own_w hw 23 rfl) (by decide) w_Quantity_DA [] [] 0 (rm_hourly_3 l Z a0 hw []  h0 n0 H) (by decide) (by decide) rfl rfl e0 E_w_Quantity_DA (by rw [hml]; rfl) (lenOf pd_2 rfl) (Nat.le_of_eq rfl) (hb hby d2_1) 4 rfl rfl (by decide) (by decide) fun T2 X2 e2 => ?_
  refine own_ifY X2 hx (hb hby d2_4) ((if0 _ _).trans (feq (by decide : ¬ ((1 : Int32) = (0 : Int32)))).2) 17 (by decide) (by decide) ?_
  refine own_iconst X2 hx (hb hby d2_17) (1 : Int32) rfl 18 rfl ?_
  refine own_goto X2 hx (hb hby d2_18) 22 (by decide) (by decide) ?_
  exact own_retZ X2 hx hk hret (hb hby d2_22) rfl ⟨rfl, e2, rfl⟩ (by decide) (by decide)
theorem rm_spansHour_29 (l : Launch) (Z : State) (a0 : Array Value) (hw : own_HW Z a0) (ws : List Jvm.Cond)  (h0 : Heap) (n0 : Nat) {w_Role_LOAD w_Quantity_MOVEMENT w_Role_Period_INTERVAL w_Role_Period_HOUR w_Role_VIRTUAL_LOAD w_Quantity_RT w_Quantity_BID w_Quantity_ACTUAL w_Role_VIRTUAL_SUPPLY w_Quantity_DA w_Role_SUPPLIER w_Role_HUB_POI w_Quantity_PERFORMANCE w_Role_REGULATION w_Role_EXPORT w_Role_IMPORT w_Role_HUB_POW : Addr} (H : own_C Z h0 w_Role_LOAD w_Quantity_MOVEMENT w_Role_Period_INTERVAL w_Role_Period_HOUR w_Role_VIRTUAL_LOAD w_Quantity_RT w_Quantity_BID w_Quantity_ACTUAL w_Role_VIRTUAL_SUPPLY w_Quantity_DA w_Role_SUPPLIER w_Role_HUB_POI w_Quantity_PERFORMANCE w_Role_REGULATION w_Role_EXPORT w_Role_IMPORT w_Role_HUB_POW) :
    own_Met l (⟨"com/example/gridledger/gridledger/positions/Role", "spansHour", "(Lcom/example/gridledger/gridledger/positions/Quantity;)Z"⟩ : MethodName) prog_41_method_10_code 2 (some .boolean) ws (own_rm 1 0 0 12) Z #[(.ref w_Role_IMPORT), (.ref w_Quantity_RT)] h0 (own_R (some (.int (0 : Int32))) h0) := by
  refine own_met (plainFor_of_name pn_2) ?_
  intro p e s m below meth c T0 hx hby hml hown hret hk hnm hZ X0 e0
  have hown : s.vm.findClass "com/example/gridledger/gridledger/positions/Role" = some m.cls := hown
  obtain ⟨-, -, -, -, -, -, S_w_Role_Period_HOUR, -, -, -, -, E_w_Quantity_RT, -, -, -, -, -, -, -, -, -, -, -, -, -, -, -, -, -, -, -, -, -, -, -, -, -, -, -, -, -, -, -, -, -, -, -, F_w_Role_IMPORT_period, -, -, -, ne_w_Role_Period_HOUR_w_Role_Period_INTERVAL⟩ := id H
  refine own_ent (ef_2 m w_Role_IMPORT w_Quantity_RT) ?_
  refine own_aload_n X0 hx (hb hby d2_0) rfl rfl 1 rfl ?_
  refine own_pureV X0 hx hZ hown (own_w hw 19 rfl) (own_w hw 20 rfl) (notFace_of_selects (args := #[]) (mvT hZ (own_w hw 22 rfl))) (own_w hw 22 rfl) (own_w hw 21 rfl) (own_w hw 12 rfl) (own_w hw 23 rfl) (by decide) w_Quantity_RT [] [] 0 (rm_hourly_6 l Z a0 hw []  h0 n0 H) (by decide) (by decide) rfl rfl e0 E_w_Quantity_RT (by rw [hml]; rfl) (lenOf pd_2 rfl) (Nat.le_of_eq rfl) (hb hby d2_1) 4 rfl rfl (by decide) (by decide) fun T2 X2 e2 => ?_
  refine own_ifN X2 hx (hb hby d2_4) ((if0 _ _).trans (teq (by decide : (0 : Int32) = (0 : Int32))).2) 7 rfl ?_
  refine own_aload_n X2 hx (hb hby d2_7) rfl rfl 8 rfl ?_
  refine own_getF X2 hx hZ hown (host := "") (Or.inl (own_w hw 26 rfl)) Via.refl e2 F_w_Role_IMPORT_period (hb hby d2_8) 11 rfl fun T3 X3 e3 => ?_
  refine own_getS X3 hx hZ hown (host := "") (Or.inl (own_w hw 30 rfl)) Via.refl e3 S_w_Role_Period_HOUR (hb hby d2_11) 14 rfl fun T4 X4 e4 => ?_
  refine own_acmp X4 hx false (hb hby d2_14) rfl rfl (decide_eq_false fun q => (Ne.symm ne_w_Role_Period_HOUR_w_Role_Period_INTERVAL) (Value.ref.inj q)) 21 (by decide) (by decide) ?_
  refine own_iconst X4 hx (hb hby d2_21) (0 : Int32) rfl 22 rfl ?_
  exact own_retZ X4 hx hk hret (hb hby d2_22) rfl ⟨rfl, e4, rfl⟩ (by decide) (by decide)
theorem rm_spansHour_30 (l : Launch) (Z : State) (a0 : Array Value) (hw : own_HW Z a0) (ws : List Jvm.Cond)  (h0 : Heap) (n0 : Nat) {w_Role_LOAD w_Quantity_MOVEMENT w_Role_Period_INTERVAL w_Role_Period_HOUR w_Role_VIRTUAL_LOAD w_Quantity_RT w_Quantity_BID w_Quantity_ACTUAL w_Role_VIRTUAL_SUPPLY w_Quantity_DA w_Role_SUPPLIER w_Role_HUB_POI w_Quantity_PERFORMANCE w_Role_REGULATION w_Role_EXPORT w_Role_IMPORT w_Role_HUB_POW : Addr} (H : own_C Z h0 w_Role_LOAD w_Quantity_MOVEMENT w_Role_Period_INTERVAL w_Role_Period_HOUR w_Role_VIRTUAL_LOAD w_Quantity_RT w_Quantity_BID w_Quantity_ACTUAL w_Role_VIRTUAL_SUPPLY w_Quantity_DA w_Role_SUPPLIER w_Role_HUB_POI w_Quantity_PERFORMANCE w_Role_REGULATION w_Role_EXPORT w_Role_IMPORT w_Role_HUB_POW) :
    own_Met l (⟨"com/example/gridledger/gridledger/positions/Role", "spansHour", "(Lcom/example/gridledger/gridledger/positions/Quantity;)Z"⟩ : MethodName) prog_41_method_10_code 2 (some .boolean) ws (own_rm 1 0 0 12) Z #[(.ref w_Role_IMPORT), (.ref w_Quantity_ACTUAL)] h0 (own_R (some (.int (0 : Int32))) h0) := by
  refine own_met (plainFor_of_name pn_2) ?_
  intro p e s m below meth c T0 hx hby hml hown hret hk hnm hZ X0 e0
  have hown : s.vm.findClass "com/example/gridledger/gridledger/positions/Role" = some m.cls := hown
  obtain ⟨-, -, -, -, -, -, S_w_Role_Period_HOUR, -, -, -, -, -, -, -, -, E_w_Quantity_ACTUAL, -, -, -, -, -, -, -, -, -, -, -, -, -, -, -, -, -, -, -, -, -, -, -, -, -, -, -, -, -, -, -, F_w_Role_IMPORT_period, -, -, -, ne_w_Role_Period_HOUR_w_Role_Period_INTERVAL⟩ := id H
  refine own_ent (ef_2 m w_Role_IMPORT w_Quantity_ACTUAL) ?_
  refine own_aload_n X0 hx (hb hby d2_0) rfl rfl 1 rfl ?_
  refine own_pureV X0 hx hZ hown (own_w hw 19 rfl) (own_w hw 20 rfl) (notFace_of_selects (args := #[]) (mvT hZ (own_w hw 22 rfl))) (own_w hw 22 rfl) (own_w hw 21 rfl) (own_w hw 12 rfl) (own_w hw 23 rfl) (by decide) w_Quantity_ACTUAL [] [] 0 (rm_hourly_9 l Z a0 hw []  h0 n0 H) (by decide) (by decide) rfl rfl e0 E_w_Quantity_ACTUAL (by rw [hml]; rfl) (lenOf pd_2 rfl) (Nat.le_of_eq rfl) (hb hby d2_1) 4 rfl rfl (by decide) (by decide) fun T2 X2 e2 => ?_
  refine own_ifN X2 hx (hb hby d2_4) ((if0 _ _).trans (teq (by decide : (0 : Int32) = (0 : Int32))).2) 7 rfl ?_
  refine own_aload_n X2 hx (hb hby d2_7) rfl rfl 8 rfl ?_
  refine own_getF X2 hx hZ hown (host := "") (Or.inl (own_w hw 26 rfl)) Via.refl e2 F_w_Role_IMPORT_period (hb hby d2_8) 11 rfl fun T3 X3 e3 => ?_
  refine own_getS X3 hx hZ hown (host := "") (Or.inl (own_w hw 30 rfl)) Via.refl e3 S_w_Role_Period_HOUR (hb hby d2_11) 14 rfl fun T4 X4 e4 => ?_
  refine own_acmp X4 hx false (hb hby d2_14) rfl rfl (decide_eq_false fun q => (Ne.symm ne_w_Role_Period_HOUR_w_Role_Period_INTERVAL) (Value.ref.inj q)) 21 (by decide) (by decide) ?_
  refine own_iconst X4 hx (hb hby d2_21) (0 : Int32) rfl 22 rfl ?_
  exact own_retZ X4 hx hk hret (hb hby d2_22) rfl ⟨rfl, e4, rfl⟩ (by decide) (by decide)
theorem rm_spansHour_31 (l : Launch) (Z : State) (a0 : Array Value) (hw : own_HW Z a0) (ws : List Jvm.Cond)  (h0 : Heap) (n0 : Nat) {w_Role_LOAD w_Quantity_MOVEMENT w_Role_Period_INTERVAL w_Role_Period_HOUR w_Role_VIRTUAL_LOAD w_Quantity_RT w_Quantity_BID w_Quantity_ACTUAL w_Role_VIRTUAL_SUPPLY w_Quantity_DA w_Role_SUPPLIER w_Role_HUB_POI w_Quantity_PERFORMANCE w_Role_REGULATION w_Role_EXPORT w_Role_IMPORT w_Role_HUB_POW : Addr} (H : own_C Z h0 w_Role_LOAD w_Quantity_MOVEMENT w_Role_Period_INTERVAL w_Role_Period_HOUR w_Role_VIRTUAL_LOAD w_Quantity_RT w_Quantity_BID w_Quantity_ACTUAL w_Role_VIRTUAL_SUPPLY w_Quantity_DA w_Role_SUPPLIER w_Role_HUB_POI w_Quantity_PERFORMANCE w_Role_REGULATION w_Role_EXPORT w_Role_IMPORT w_Role_HUB_POW) :
    own_Met l (⟨"com/example/gridledger/gridledger/positions/Role", "spansHour", "(Lcom/example/gridledger/gridledger/positions/Quantity;)Z"⟩ : MethodName) prog_41_method_10_code 2 (some .boolean) ws (own_rm 1 0 0 12) Z #[(.ref w_Role_IMPORT), (.ref w_Quantity_MOVEMENT)] h0 (own_R (some (.int (0 : Int32))) h0) := by
  refine own_met (plainFor_of_name pn_2) ?_
  intro p e s m below meth c T0 hx hby hml hown hret hk hnm hZ X0 e0
  have hown : s.vm.findClass "com/example/gridledger/gridledger/positions/Role" = some m.cls := hown
  obtain ⟨-, -, -, E_w_Quantity_MOVEMENT, -, -, S_w_Role_Period_HOUR, -, -, -, -, -, -, -, -, -, -, -, -, -, -, -, -, -, -, -, -, -, -, -, -, -, -, -, -, -, -, -, -, -, -, -, -, -, -, -, -, F_w_Role_IMPORT_period, -, -, -, ne_w_Role_Period_HOUR_w_Role_Period_INTERVAL⟩ := id H
  refine own_ent (ef_2 m w_Role_IMPORT w_Quantity_MOVEMENT) ?_
  refine own_aload_n X0 hx (hb hby d2_0) rfl rfl 1 rfl ?_
  refine own_pureV X0 hx hZ hown (own_w hw 19 rfl) (own_w hw 20 rfl) (notFace_of_selects (args := #[]) (mvT hZ (own_w hw 22 rfl))) (own_w hw 22 rfl) (own_w hw 21 rfl) (own_w hw 12 rfl) (own_w hw 23 rfl) (by decide) w_Quantity_MOVEMENT [] [] 0 (rm_hourly_12 l Z a0 hw []  h0 n0 H) (by decide) (by decide) rfl rfl e0 E_w_Quantity_MOVEMENT (by rw [hml]; rfl) (lenOf pd_2 rfl) (Nat.le_of_eq rfl) (hb hby d2_1) 4 rfl rfl (by decide) (by decide) fun T2 X2 e2 => ?_
  refine own_ifN X2 hx (hb hby d2_4) ((if0 _ _).trans (teq (by decide : (0 : Int32) = (0 : Int32))).2) 7 rfl ?_
  refine own_aload_n X2 hx (hb hby d2_7) rfl rfl 8 rfl ?_
  refine own_getF X2 hx hZ hown (host := "") (Or.inl (own_w hw 26 rfl)) Via.refl e2 F_w_Role_IMPORT_period (hb hby d2_8) 11 rfl fun T3 X3 e3 => ?_
  refine own_getS X3 hx hZ hown (host := "") (Or.inl (own_w hw 30 rfl)) Via.refl e3 S_w_Role_Period_HOUR (hb hby d2_11) 14 rfl fun T4 X4 e4 => ?_
  refine own_acmp X4 hx false (hb hby d2_14) rfl rfl (decide_eq_false fun q => (Ne.symm ne_w_Role_Period_HOUR_w_Role_Period_INTERVAL) (Value.ref.inj q)) 21 (by decide) (by decide) ?_
  refine own_iconst X4 hx (hb hby d2_21) (0 : Int32) rfl 22 rfl ?_
  exact own_retZ X4 hx hk hret (hb hby d2_22) rfl ⟨rfl, e4, rfl⟩ (by decide) (by decide)
theorem rm_spansHour_32 (l : Launch) (Z : State) (a0 : Array Value) (hw : own_HW Z a0) (ws : List Jvm.Cond)  (h0 : Heap) (n0 : Nat) {w_Role_LOAD w_Quantity_MOVEMENT w_Role_Period_INTERVAL w_Role_Period_HOUR w_Role_VIRTUAL_LOAD w_Quantity_RT w_Quantity_BID w_Quantity_ACTUAL w_Role_VIRTUAL_SUPPLY w_Quantity_DA w_Role_SUPPLIER w_Role_HUB_POI w_Quantity_PERFORMANCE w_Role_REGULATION w_Role_EXPORT w_Role_IMPORT w_Role_HUB_POW : Addr} (H : own_C Z h0 w_Role_LOAD w_Quantity_MOVEMENT w_Role_Period_INTERVAL w_Role_Period_HOUR w_Role_VIRTUAL_LOAD w_Quantity_RT w_Quantity_BID w_Quantity_ACTUAL w_Role_VIRTUAL_SUPPLY w_Quantity_DA w_Role_SUPPLIER w_Role_HUB_POI w_Quantity_PERFORMANCE w_Role_REGULATION w_Role_EXPORT w_Role_IMPORT w_Role_HUB_POW) :
    own_Met l (⟨"com/example/gridledger/gridledger/positions/Role", "spansHour", "(Lcom/example/gridledger/gridledger/positions/Quantity;)Z"⟩ : MethodName) prog_41_method_10_code 2 (some .boolean) ws (own_rm 1 0 0 12) Z #[(.ref w_Role_IMPORT), (.ref w_Quantity_PERFORMANCE)] h0 (own_R (some (.int (0 : Int32))) h0) := by
  refine own_met (plainFor_of_name pn_2) ?_
  intro p e s m below meth c T0 hx hby hml hown hret hk hnm hZ X0 e0
  have hown : s.vm.findClass "com/example/gridledger/gridledger/positions/Role" = some m.cls := hown
  obtain ⟨-, -, -, -, -, -, S_w_Role_Period_HOUR, -, -, -, -, -, -, -, -, -, -, -, -, -, -, -, -, -, -, E_w_Quantity_PERFORMANCE, -, -, -, -, -, -, -, -, -, -, -, -, -, -, -, -, -, -, -, -, -, F_w_Role_IMPORT_period, -, -, -, ne_w_Role_Period_HOUR_w_Role_Period_INTERVAL⟩ := id H
  refine own_ent (ef_2 m w_Role_IMPORT w_Quantity_PERFORMANCE) ?_
  refine own_aload_n X0 hx (hb hby d2_0) rfl rfl 1 rfl ?_
  refine own_pureV X0 hx hZ hown (own_w hw 19 rfl) (own_w hw 20 rfl) (notFace_of_selects (args := #[]) (mvT hZ (own_w hw 22 rfl))) (own_w hw 22 rfl) (own_w hw 21 rfl) (own_w hw 12 rfl) (own_w hw 23 rfl) (by decide) w_Quantity_PERFORMANCE [] [] 0 (rm_hourly_15 l Z a0 hw []  h0 n0 H) (by decide) (by decide) rfl rfl e0 E_w_Quantity_PERFORMANCE (by rw [hml]; rfl) (lenOf pd_2 rfl) (Nat.le_of_eq rfl) (hb hby d2_1) 4 rfl rfl (by decide) (by decide) fun T2 X2 e2 => ?_
  refine own_ifN X2 hx (hb hby d2_4) ((if0 _ _).trans (teq (by decide : (0 : Int32) = (0 : Int32))).2) 7 rfl ?_
  refine own_aload_n X2 hx (hb hby d2_7) rfl rfl 8 rfl ?_
  refine own_getF X2 hx hZ hown (host := "") (Or.inl (own_w hw 26 rfl)) Via.refl e2 F_w_Role_IMPORT_period (hb hby d2_8) 11 rfl fun T3 X3 e3 => ?_
  refine own_getS X3 hx hZ hown (host := "") (Or.inl (own_w hw 30 rfl)) Via.refl e3 S_w_Role_Period_HOUR (hb hby d2_11) 14 rfl fun T4 X4 e4 => ?_
  refine own_acmp X4 hx false (hb hby d2_14) rfl rfl (decide_eq_false fun q => (Ne.symm ne_w_Role_Period_HOUR_w_Role_Period_INTERVAL) (Value.ref.inj q)) 21 (by decide) (by decide) ?_
  refine own_iconst X4 hx (hb hby d2_21) (0 : Int32) rfl 22 rfl ?_
  exact own_retZ X4 hx hk hret (hb hby d2_22) rfl ⟨rfl, e4, rfl⟩ (by decide) (by decide)
theorem rm_spansHour_33 (l : Launch) (Z : State) (a0 : Array Value) (hw : own_HW Z a0) (ws : List Jvm.Cond)  (h0 : Heap) (n0 : Nat) {w_Role_LOAD w_Quantity_MOVEMENT w_Role_Period_INTERVAL w_Role_Period_HOUR w_Role_VIRTUAL_LOAD w_Quantity_RT w_Quantity_BID w_Quantity_ACTUAL w_Role_VIRTUAL_SUPPLY w_Quantity_DA w_Role_SUPPLIER w_Role_HUB_POI w_Quantity_PERFORMANCE w_Role_REGULATION w_Role_EXPORT w_Role_IMPORT w_Role_HUB_POW : Addr} (H : own_C Z h0 w_Role_LOAD w_Quantity_MOVEMENT w_Role_Period_INTERVAL w_Role_Period_HOUR w_Role_VIRTUAL_LOAD w_Quantity_RT w_Quantity_BID w_Quantity_ACTUAL w_Role_VIRTUAL_SUPPLY w_Quantity_DA w_Role_SUPPLIER w_Role_HUB_POI w_Quantity_PERFORMANCE w_Role_REGULATION w_Role_EXPORT w_Role_IMPORT w_Role_HUB_POW) :
    own_Met l (⟨"com/example/gridledger/gridledger/positions/Role", "spansHour", "(Lcom/example/gridledger/gridledger/positions/Quantity;)Z"⟩ : MethodName) prog_41_method_10_code 2 (some .boolean) ws (own_rm 1 0 0 12) Z #[(.ref w_Role_IMPORT), (.ref w_Quantity_BID)] h0 (own_R (some (.int (1 : Int32))) h0) := by
  refine own_met (plainFor_of_name pn_2) ?_
  intro p e s m below meth c T0 hx hby hml hown hret hk hnm hZ X0 e0
  have hown : s.vm.findClass "com/example/gridledger/gridledger/positions/Role" = some m.cls := hown
  obtain ⟨-, -, -, -, -, -, -, -, -, -, -, -, -, E_w_Quantity_BID, -, -, -, -, -, -, -, -, -, -, -, -, -, -, -, -, -, -, -, -, -, -, -, -, -, -, -, -, -, -, -, -, -, -, -, -, -, -⟩ := id H
  refine own_ent (ef_2 m w_Role_IMPORT w_Quantity_BID) ?_
  refine own_aload_n X0 hx (hb hby d2_0) rfl rfl 1 rfl ?_
  refine own_pureV X0 hx hZ hown (own_w hw 19 rfl) (own_w hw 20 rfl) (notFace_of_selects (args := #[]) (mvT hZ (own_w hw 22 rfl))) (own_w hw 22 rfl) (own_w hw 21 rfl) (own_w hw 12 rfl) (own_w hw 23 rfl) (by decide) w_Quantity_BID [] [] 0 (rm_hourly_18 l Z a0 hw []  h0 n0 H) (by decide) (by decide) rfl rfl e0 E_w_Quantity_BID (by rw [hml]; rfl) (lenOf pd_2 rfl) (Nat.le_of_eq rfl) (hb hby d2_1) 4 rfl rfl (by decide) (by decide) fun T2 X2 e2 => ?_
  refine own_ifY X2 hx (hb hby d2_4) ((if0 _ _).trans (feq (by decide : ¬ ((1 : Int32) = (0 : Int32)))).2) 17 (by decide) (by decide) ?_
  refine own_iconst X2 hx (hb hby d2_17) (1 : Int32) rfl 18 rfl ?_
  refine own_goto X2 hx (hb hby d2_18) 22 (by decide) (by decide) ?_
  exact own_retZ X2 hx hk hret (hb hby d2_22) rfl ⟨rfl, e2, rfl⟩ (by decide) (by decide)
theorem d0_26 : decode method_2_code 26 = .ok (.iload_n 0, 1) := by decide +kernel
theorem d0_27 : decode method_2_code 27 = .ok (.iconst 3, 1) := by decide +kernel
theorem d0_28 : decode method_2_code 28 = .ok (.if_icmp .ne 7, 3) := by decide +kernel
theorem d0_31 : decode method_2_code 31 = .ok (.getstatic 19, 3) := by decide +kernel
theorem d0_34 : decode method_2_code 34 = .ok (.areturn, 1) := by decide +kernel
theorem rm_role_34 (l : Launch) (Z : State) (a0 : Array Value) (hw : own_HW Z a0) (ws : List Jvm.Cond)  (h0 : Heap) (n0 : Nat) {w_Role_LOAD w_Quantity_MOVEMENT w_Role_Period_INTERVAL w_Role_Period_HOUR w_Role_VIRTUAL_LOAD w_Quantity_RT w_Quantity_BID w_Quantity_ACTUAL w_Role_VIRTUAL_SUPPLY w_Quantity_DA w_Role_SUPPLIER w_Role_HUB_POI w_Quantity_PERFORMANCE w_Role_REGULATION w_Role_EXPORT w_Role_IMPORT w_Role_HUB_POW : Addr} (H : own_C Z h0 w_Role_LOAD w_Quantity_MOVEMENT w_Role_Period_INTERVAL w_Role_Period_HOUR w_Role_VIRTUAL_LOAD w_Quantity_RT w_Quantity_BID w_Quantity_ACTUAL w_Role_VIRTUAL_SUPPLY w_Quantity_DA w_Role_SUPPLIER w_Role_HUB_POI w_Quantity_PERFORMANCE w_Role_REGULATION w_Role_EXPORT w_Role_IMPORT w_Role_HUB_POW) :
    own_Met l (⟨"com/example/gridledger/gridledger/positions/RoleSpansHourPinLaw", "role", "(I)Lcom/example/gridledger/gridledger/positions/Role;"⟩ : MethodName) method_2_code 1 (some (.object "com/example/gridledger/gridledger/positions/Role")) ws (own_rm 0 0 0 0) Z #[(.int (3 : Int32))] h0 (own_R (some (.ref w_Role_EXPORT)) h0) := by
  refine own_met (plainFor_of_name pn_0) ?_
  intro p e s m below meth c T0 hx hby hml hown hret hk hnm hZ X0 e0
  have hown : s.vm.findClass "com/example/gridledger/gridledger/positions/RoleSpansHourPinLaw" = some m.cls := hown
  obtain ⟨-, -, -, -, -, -, -, -, -, -, -, -, -, -, -, -, -, -, -, -, -, -, -, -, -, -, -, -, S_w_Role_EXPORT, -, -, -, -, -, -, -, -, -, -, -, -, -, -, -, -, -, -, -, -, -, -, -⟩ := id H
  refine own_ent (ef_0 m (3 : Int32)) ?_
  refine own_iload_n X0 hx (hb hby d0_0) rfl 1 rfl ?_
  refine own_ifY X0 hx (hb hby d0_1) ((if0 _ _).trans (feq (by decide : ¬ ((3 : Int32) = (0 : Int32)))).2) 8 (by decide) (by decide) ?_
  refine own_iload_n X0 hx (hb hby d0_8) rfl 9 rfl ?_
  refine own_iconst X0 hx (hb hby d0_9) (1 : Int32) rfl 10 rfl ?_
  refine own_icmpY X0 hx (hb hby d0_10) (feq (by decide : ¬ ((3 : Int32) = (1 : Int32)))).2 17 (by decide) (by decide) ?_
  refine own_iload_n X0 hx (hb hby d0_17) rfl 18 rfl ?_
  refine own_iconst X0 hx (hb hby d0_18) (2 : Int32) rfl 19 rfl ?_
  refine own_icmpY X0 hx (hb hby d0_19) (feq (by decide : ¬ ((3 : Int32) = (2 : Int32)))).2 26 (by decide) (by decide) ?_
  refine own_iload_n X0 hx (hb hby d0_26) rfl 27 rfl ?_
  refine own_iconst X0 hx (hb hby d0_27) (3 : Int32) rfl 28 rfl ?_
  refine own_icmpN X0 hx (hb hby d0_28) (teq (by decide : (3 : Int32) = (3 : Int32))).2 31 rfl ?_
  refine own_getS X0 hx hZ hown (host := "") (Or.inl (own_w hw 52 rfl)) Via.refl e0 S_w_Role_EXPORT (hb hby d0_31) 34 rfl fun T1 X1 e1 => ?_
  exact own_retA X1 hx hk hret rfl rfl (hb hby d0_34) rfl ⟨rfl, e1, rfl⟩ (by decide) (by decide)
theorem rm_spansHour_35 (l : Launch) (Z : State) (a0 : Array Value) (hw : own_HW Z a0) (ws : List Jvm.Cond)  (h0 : Heap) (n0 : Nat) {w_Role_LOAD w_Quantity_MOVEMENT w_Role_Period_INTERVAL w_Role_Period_HOUR w_Role_VIRTUAL_LOAD w_Quantity_RT w_Quantity_BID w_Quantity_ACTUAL w_Role_VIRTUAL_SUPPLY w_Quantity_DA w_Role_SUPPLIER w_Role_HUB_POI w_Quantity_PERFORMANCE w_Role_REGULATION w_Role_EXPORT w_Role_IMPORT w_Role_HUB_POW : Addr} (H : own_C Z h0 w_Role_LOAD w_Quantity_MOVEMENT w_Role_Period_INTERVAL w_Role_Period_HOUR w_Role_VIRTUAL_LOAD w_Quantity_RT w_Quantity_BID w_Quantity_ACTUAL w_Role_VIRTUAL_SUPPLY w_Quantity_DA w_Role_SUPPLIER w_Role_HUB_POI w_Quantity_PERFORMANCE w_Role_REGULATION w_Role_EXPORT w_Role_IMPORT w_Role_HUB_POW) :
    own_Met l (⟨"com/example/gridledger/gridledger/positions/Role", "spansHour", "(Lcom/example/gridledger/gridledger/positions/Quantity;)Z"⟩ : MethodName) prog_41_method_10_code 2 (some .boolean) ws (own_rm 1 0 0 12) Z #[(.ref w_Role_EXPORT), (.ref w_Quantity_DA)] h0 (own_R (some (.int (1 : Int32))) h0) := by
  refine own_met (plainFor_of_name pn_2) ?_
  intro p e s m below meth c T0 hx hby hml hown hret hk hnm hZ X0 e0
  have hown : s.vm.findClass "com/example/gridledger/gridledger/positions/Role" = some m.cls := hown
  obtain ⟨-, -, -, -, -, -, -, -, -, -, -, -, -, -, -, -, -, -, -, E_w_Quantity_DA, -, -, -, -, -, -, -, -, -, -, -, -, -, -, -, -, -, -, -, -, -, -, -, -, -, -, -, -, -, -, -, -⟩ := id H
  refine own_ent (ef_2 m w_Role_EXPORT w_Quantity_DA) ?_
  refine own_aload_n X0 hx (hb hby d2_0) rfl rfl 1 rfl ?_
  refine own_pureV X0 hx hZ hown (own_w hw 19 rfl) (own_w hw 20 rfl) (notFace_of_selects (args := #[]) (mvT hZ (own_w hw 22 rfl))) (own_w hw 22 rfl) (own_w hw 21 rfl) (own_w hw 12 rfl) (own_w hw 23 rfl) (by decide) w_Quantity_DA [] [] 0 (rm_hourly_3 l Z a0 hw []  h0 n0 H) (by decide) (by decide) rfl rfl e0 E_w_Quantity_DA (by rw [hml]; rfl) (lenOf pd_2 rfl) (Nat.le_of_eq rfl) (hb hby d2_1) 4 rfl rfl (by decide) (by decide) fun T2 X2 e2 => ?_
  refine own_ifY X2 hx (hb hby d2_4) ((if0 _ _).trans (feq (by decide : ¬ ((1 : Int32) = (0 : Int32)))).2) 17 (by decide) (by decide) ?_
  refine own_iconst X2 hx (hb hby d2_17) (1 : Int32) rfl 18 rfl ?_
  refine own_goto X2 hx (hb hby d2_18) 22 (by decide) (by decide) ?_
  exact own_retZ X2 hx hk hret (hb hby d2_22) rfl ⟨rfl, e2, rfl⟩ (by decide) (by decide)
theorem rm_spansHour_36 (l : Launch) (Z : State) (a0 : Array Value) (hw : own_HW Z a0) (ws : List Jvm.Cond)  (h0 : Heap) (n0 : Nat) {w_Role_LOAD w_Quantity_MOVEMENT w_Role_Period_INTERVAL w_Role_Period_HOUR w_Role_VIRTUAL_LOAD w_Quantity_RT w_Quantity_BID w_Quantity_ACTUAL w_Role_VIRTUAL_SUPPLY w_Quantity_DA w_Role_SUPPLIER w_Role_HUB_POI w_Quantity_PERFORMANCE w_Role_REGULATION w_Role_EXPORT w_Role_IMPORT w_Role_HUB_POW : Addr} (H : own_C Z h0 w_Role_LOAD w_Quantity_MOVEMENT w_Role_Period_INTERVAL w_Role_Period_HOUR w_Role_VIRTUAL_LOAD w_Quantity_RT w_Quantity_BID w_Quantity_ACTUAL w_Role_VIRTUAL_SUPPLY w_Quantity_DA w_Role_SUPPLIER w_Role_HUB_POI w_Quantity_PERFORMANCE w_Role_REGULATION w_Role_EXPORT w_Role_IMPORT w_Role_HUB_POW) :
    own_Met l (⟨"com/example/gridledger/gridledger/positions/Role", "spansHour", "(Lcom/example/gridledger/gridledger/positions/Quantity;)Z"⟩ : MethodName) prog_41_method_10_code 2 (some .boolean) ws (own_rm 1 0 0 12) Z #[(.ref w_Role_EXPORT), (.ref w_Quantity_RT)] h0 (own_R (some (.int (0 : Int32))) h0) := by
  refine own_met (plainFor_of_name pn_2) ?_
  intro p e s m below meth c T0 hx hby hml hown hret hk hnm hZ X0 e0
  have hown : s.vm.findClass "com/example/gridledger/gridledger/positions/Role" = some m.cls := hown
  obtain ⟨-, -, -, -, -, -, S_w_Role_Period_HOUR, -, -, -, -, E_w_Quantity_RT, -, -, -, -, -, -, -, -, -, -, -, -, -, -, -, -, -, -, -, -, -, -, -, -, -, -, -, -, -, -, -, -, -, -, -, -, F_w_Role_EXPORT_period, -, -, ne_w_Role_Period_HOUR_w_Role_Period_INTERVAL⟩ := id H
  refine own_ent (ef_2 m w_Role_EXPORT w_Quantity_RT) ?_
  refine own_aload_n X0 hx (hb hby d2_0) rfl rfl 1 rfl ?_
  refine own_pureV X0 hx hZ hown (own_w hw 19 rfl) (own_w hw 20 rfl) (notFace_of_selects (args := #[]) (mvT hZ (own_w hw 22 rfl))) (own_w hw 22 rfl) (own_w hw 21 rfl) (own_w hw 12 rfl) (own_w hw 23 rfl) (by decide) w_Quantity_RT [] [] 0 (rm_hourly_6 l Z a0 hw []  h0 n0 H) (by decide) (by decide) rfl rfl e0 E_w_Quantity_RT (by rw [hml]; rfl) (lenOf pd_2 rfl) (Nat.le_of_eq rfl) (hb hby d2_1) 4 rfl rfl (by decide) (by decide) fun T2 X2 e2 => ?_
  refine own_ifN X2 hx (hb hby d2_4) ((if0 _ _).trans (teq (by decide : (0 : Int32) = (0 : Int32))).2) 7 rfl ?_
  refine own_aload_n X2 hx (hb hby d2_7) rfl rfl 8 rfl ?_
  refine own_getF X2 hx hZ hown (host := "") (Or.inl (own_w hw 26 rfl)) Via.refl e2 F_w_Role_EXPORT_period (hb hby d2_8) 11 rfl fun T3 X3 e3 => ?_
  refine own_getS X3 hx hZ hown (host := "") (Or.inl (own_w hw 30 rfl)) Via.refl e3 S_w_Role_Period_HOUR (hb hby d2_11) 14 rfl fun T4 X4 e4 => ?_
  refine own_acmp X4 hx false (hb hby d2_14) rfl rfl (decide_eq_false fun q => (Ne.symm ne_w_Role_Period_HOUR_w_Role_Period_INTERVAL) (Value.ref.inj q)) 21 (by decide) (by decide) ?_
  refine own_iconst X4 hx (hb hby d2_21) (0 : Int32) rfl 22 rfl ?_
  exact own_retZ X4 hx hk hret (hb hby d2_22) rfl ⟨rfl, e4, rfl⟩ (by decide) (by decide)
theorem rm_spansHour_37 (l : Launch) (Z : State) (a0 : Array Value) (hw : own_HW Z a0) (ws : List Jvm.Cond)  (h0 : Heap) (n0 : Nat) {w_Role_LOAD w_Quantity_MOVEMENT w_Role_Period_INTERVAL w_Role_Period_HOUR w_Role_VIRTUAL_LOAD w_Quantity_RT w_Quantity_BID w_Quantity_ACTUAL w_Role_VIRTUAL_SUPPLY w_Quantity_DA w_Role_SUPPLIER w_Role_HUB_POI w_Quantity_PERFORMANCE w_Role_REGULATION w_Role_EXPORT w_Role_IMPORT w_Role_HUB_POW : Addr} (H : own_C Z h0 w_Role_LOAD w_Quantity_MOVEMENT w_Role_Period_INTERVAL w_Role_Period_HOUR w_Role_VIRTUAL_LOAD w_Quantity_RT w_Quantity_BID w_Quantity_ACTUAL w_Role_VIRTUAL_SUPPLY w_Quantity_DA w_Role_SUPPLIER w_Role_HUB_POI w_Quantity_PERFORMANCE w_Role_REGULATION w_Role_EXPORT w_Role_IMPORT w_Role_HUB_POW) :
    own_Met l (⟨"com/example/gridledger/gridledger/positions/Role", "spansHour", "(Lcom/example/gridledger/gridledger/positions/Quantity;)Z"⟩ : MethodName) prog_41_method_10_code 2 (some .boolean) ws (own_rm 1 0 0 12) Z #[(.ref w_Role_EXPORT), (.ref w_Quantity_ACTUAL)] h0 (own_R (some (.int (0 : Int32))) h0) := by
  refine own_met (plainFor_of_name pn_2) ?_
  intro p e s m below meth c T0 hx hby hml hown hret hk hnm hZ X0 e0
  have hown : s.vm.findClass "com/example/gridledger/gridledger/positions/Role" = some m.cls := hown
  obtain ⟨-, -, -, -, -, -, S_w_Role_Period_HOUR, -, -, -, -, -, -, -, -, E_w_Quantity_ACTUAL, -, -, -, -, -, -, -, -, -, -, -, -, -, -, -, -, -, -, -, -, -, -, -, -, -, -, -, -, -, -, -, -, F_w_Role_EXPORT_period, -, -, ne_w_Role_Period_HOUR_w_Role_Period_INTERVAL⟩ := id H
  refine own_ent (ef_2 m w_Role_EXPORT w_Quantity_ACTUAL) ?_
  refine own_aload_n X0 hx (hb hby d2_0) rfl rfl 1 rfl ?_
  refine own_pureV X0 hx hZ hown (own_w hw 19 rfl) (own_w hw 20 rfl) (notFace_of_selects (args := #[]) (mvT hZ (own_w hw 22 rfl))) (own_w hw 22 rfl) (own_w hw 21 rfl) (own_w hw 12 rfl) (own_w hw 23 rfl) (by decide) w_Quantity_ACTUAL [] [] 0 (rm_hourly_9 l Z a0 hw []  h0 n0 H) (by decide) (by decide) rfl rfl e0 E_w_Quantity_ACTUAL (by rw [hml]; rfl) (lenOf pd_2 rfl) (Nat.le_of_eq rfl) (hb hby d2_1) 4 rfl rfl (by decide) (by decide) fun T2 X2 e2 => ?_
  refine own_ifN X2 hx (hb hby d2_4) ((if0 _ _).trans (teq (by decide : (0 : Int32) = (0 : Int32))).2) 7 rfl ?_
  refine own_aload_n X2 hx (hb hby d2_7) rfl rfl 8 rfl ?_
  refine own_getF X2 hx hZ hown (host := "") (Or.inl (own_w hw 26 rfl)) Via.refl e2 F_w_Role_EXPORT_period (hb hby d2_8) 11 rfl fun T3 X3 e3 => ?_
  refine own_getS X3 hx hZ hown (host := "") (Or.inl (own_w hw 30 rfl)) Via.refl e3 S_w_Role_Period_HOUR (hb hby d2_11) 14 rfl fun T4 X4 e4 => ?_
  refine own_acmp X4 hx false (hb hby d2_14) rfl rfl (decide_eq_false fun q => (Ne.symm ne_w_Role_Period_HOUR_w_Role_Period_INTERVAL) (Value.ref.inj q)) 21 (by decide) (by decide) ?_
  refine own_iconst X4 hx (hb hby d2_21) (0 : Int32) rfl 22 rfl ?_
  exact own_retZ X4 hx hk hret (hb hby d2_22) rfl ⟨rfl, e4, rfl⟩ (by decide) (by decide)
theorem rm_spansHour_38 (l : Launch) (Z : State) (a0 : Array Value) (hw : own_HW Z a0) (ws : List Jvm.Cond)  (h0 : Heap) (n0 : Nat) {w_Role_LOAD w_Quantity_MOVEMENT w_Role_Period_INTERVAL w_Role_Period_HOUR w_Role_VIRTUAL_LOAD w_Quantity_RT w_Quantity_BID w_Quantity_ACTUAL w_Role_VIRTUAL_SUPPLY w_Quantity_DA w_Role_SUPPLIER w_Role_HUB_POI w_Quantity_PERFORMANCE w_Role_REGULATION w_Role_EXPORT w_Role_IMPORT w_Role_HUB_POW : Addr} (H : own_C Z h0 w_Role_LOAD w_Quantity_MOVEMENT w_Role_Period_INTERVAL w_Role_Period_HOUR w_Role_VIRTUAL_LOAD w_Quantity_RT w_Quantity_BID w_Quantity_ACTUAL w_Role_VIRTUAL_SUPPLY w_Quantity_DA w_Role_SUPPLIER w_Role_HUB_POI w_Quantity_PERFORMANCE w_Role_REGULATION w_Role_EXPORT w_Role_IMPORT w_Role_HUB_POW) :
    own_Met l (⟨"com/example/gridledger/gridledger/positions/Role", "spansHour", "(Lcom/example/gridledger/gridledger/positions/Quantity;)Z"⟩ : MethodName) prog_41_method_10_code 2 (some .boolean) ws (own_rm 1 0 0 12) Z #[(.ref w_Role_EXPORT), (.ref w_Quantity_MOVEMENT)] h0 (own_R (some (.int (0 : Int32))) h0) := by
  refine own_met (plainFor_of_name pn_2) ?_
  intro p e s m below meth c T0 hx hby hml hown hret hk hnm hZ X0 e0
  have hown : s.vm.findClass "com/example/gridledger/gridledger/positions/Role" = some m.cls := hown
  obtain ⟨-, -, -, E_w_Quantity_MOVEMENT, -, -, S_w_Role_Period_HOUR, -, -, -, -, -, -, -, -, -, -, -, -, -, -, -, -, -, -, -, -, -, -, -, -, -, -, -, -, -, -, -, -, -, -, -, -, -, -, -, -, -, F_w_Role_EXPORT_period, -, -, ne_w_Role_Period_HOUR_w_Role_Period_INTERVAL⟩ := id H
  refine own_ent (ef_2 m w_Role_EXPORT w_Quantity_MOVEMENT) ?_
  refine own_aload_n X0 hx (hb hby d2_0) rfl rfl 1 rfl ?_
  refine own_pureV X0 hx hZ hown (own_w hw 19 rfl) (own_w hw 20 rfl) (notFace_of_selects (args := #[]) (mvT hZ (own_w hw 22 rfl))) (own_w hw 22 rfl) (own_w hw 21 rfl) (own_w hw 12 rfl) (own_w hw 23 rfl) (by decide) w_Quantity_MOVEMENT [] [] 0 (rm_hourly_12 l Z a0 hw []  h0 n0 H) (by decide) (by decide) rfl rfl e0 E_w_Quantity_MOVEMENT (by rw [hml]; rfl) (lenOf pd_2 rfl) (Nat.le_of_eq rfl) (hb hby d2_1) 4 rfl rfl (by decide) (by decide) fun T2 X2 e2 => ?_
  refine own_ifN X2 hx (hb hby d2_4) ((if0 _ _).trans (teq (by decide : (0 : Int32) = (0 : Int32))).2) 7 rfl ?_
  refine own_aload_n X2 hx (hb hby d2_7) rfl rfl 8 rfl ?_
  refine own_getF X2 hx hZ hown (host := "") (Or.inl (own_w hw 26 rfl)) Via.refl e2 F_w_Role_EXPORT_period (hb hby d2_8) 11 rfl fun T3 X3 e3 => ?_
  refine own_getS X3 hx hZ hown (host := "") (Or.inl (own_w hw 30 rfl)) Via.refl e3 S_w_Role_Period_HOUR (hb hby d2_11) 14 rfl fun T4 X4 e4 => ?_
  refine own_acmp X4 hx false (hb hby d2_14) rfl rfl (decide_eq_false fun q => (Ne.symm ne_w_Role_Period_HOUR_w_Role_Period_INTERVAL) (Value.ref.inj q)) 21 (by decide) (by decide) ?_
  refine own_iconst X4 hx (hb hby d2_21) (0 : Int32) rfl 22 rfl ?_
  exact own_retZ X4 hx hk hret (hb hby d2_22) rfl ⟨rfl, e4, rfl⟩ (by decide) (by decide)
theorem rm_spansHour_39 (l : Launch) (Z : State) (a0 : Array Value) (hw : own_HW Z a0) (ws : List Jvm.Cond)  (h0 : Heap) (n0 : Nat) {w_Role_LOAD w_Quantity_MOVEMENT w_Role_Period_INTERVAL w_Role_Period_HOUR w_Role_VIRTUAL_LOAD w_Quantity_RT w_Quantity_BID w_Quantity_ACTUAL w_Role_VIRTUAL_SUPPLY w_Quantity_DA w_Role_SUPPLIER w_Role_HUB_POI w_Quantity_PERFORMANCE w_Role_REGULATION w_Role_EXPORT w_Role_IMPORT w_Role_HUB_POW : Addr} (H : own_C Z h0 w_Role_LOAD w_Quantity_MOVEMENT w_Role_Period_INTERVAL w_Role_Period_HOUR w_Role_VIRTUAL_LOAD w_Quantity_RT w_Quantity_BID w_Quantity_ACTUAL w_Role_VIRTUAL_SUPPLY w_Quantity_DA w_Role_SUPPLIER w_Role_HUB_POI w_Quantity_PERFORMANCE w_Role_REGULATION w_Role_EXPORT w_Role_IMPORT w_Role_HUB_POW) :
    own_Met l (⟨"com/example/gridledger/gridledger/positions/Role", "spansHour", "(Lcom/example/gridledger/gridledger/positions/Quantity;)Z"⟩ : MethodName) prog_41_method_10_code 2 (some .boolean) ws (own_rm 1 0 0 12) Z #[(.ref w_Role_EXPORT), (.ref w_Quantity_PERFORMANCE)] h0 (own_R (some (.int (0 : Int32))) h0) := by
  refine own_met (plainFor_of_name pn_2) ?_
  intro p e s m below meth c T0 hx hby hml hown hret hk hnm hZ X0 e0
  have hown : s.vm.findClass "com/example/gridledger/gridledger/positions/Role" = some m.cls := hown
  obtain ⟨-, -, -, -, -, -, S_w_Role_Period_HOUR, -, -, -, -, -, -, -, -, -, -, -, -, -, -, -, -, -, -, E_w_Quantity_PERFORMANCE, -, -, -, -, -, -, -, -, -, -, -, -, -, -, -, -, -, -, -, -, -, -, F_w_Role_EXPORT_period, -, -, ne_w_Role_Period_HOUR_w_Role_Period_INTERVAL⟩ := id H
  refine own_ent (ef_2 m w_Role_EXPORT w_Quantity_PERFORMANCE) ?_
  refine own_aload_n X0 hx (hb hby d2_0) rfl rfl 1 rfl ?_
  refine own_pureV X0 hx hZ hown (own_w hw 19 rfl) (own_w hw 20 rfl) (notFace_of_selects (args := #[]) (mvT hZ (own_w hw 22 rfl))) (own_w hw 22 rfl) (own_w hw 21 rfl) (own_w hw 12 rfl) (own_w hw 23 rfl) (by decide) w_Quantity_PERFORMANCE [] [] 0 (rm_hourly_15 l Z a0 hw []  h0 n0 H) (by decide) (by decide) rfl rfl e0 E_w_Quantity_PERFORMANCE (by rw [hml]; rfl) (lenOf pd_2 rfl) (Nat.le_of_eq rfl) (hb hby d2_1) 4 rfl rfl (by decide) (by decide) fun T2 X2 e2 => ?_
  refine own_ifN X2 hx (hb hby d2_4) ((if0 _ _).trans (teq (by decide : (0 : Int32) = (0 : Int32))).2) 7 rfl ?_
  refine own_aload_n X2 hx (hb hby d2_7) rfl rfl 8 rfl ?_
  refine own_getF X2 hx hZ hown (host := "") (Or.inl (own_w hw 26 rfl)) Via.refl e2 F_w_Role_EXPORT_period (hb hby d2_8) 11 rfl fun T3 X3 e3 => ?_
  refine own_getS X3 hx hZ hown (host := "") (Or.inl (own_w hw 30 rfl)) Via.refl e3 S_w_Role_Period_HOUR (hb hby d2_11) 14 rfl fun T4 X4 e4 => ?_
  refine own_acmp X4 hx false (hb hby d2_14) rfl rfl (decide_eq_false fun q => (Ne.symm ne_w_Role_Period_HOUR_w_Role_Period_INTERVAL) (Value.ref.inj q)) 21 (by decide) (by decide) ?_
  refine own_iconst X4 hx (hb hby d2_21) (0 : Int32) rfl 22 rfl ?_
  exact own_retZ X4 hx hk hret (hb hby d2_22) rfl ⟨rfl, e4, rfl⟩ (by decide) (by decide)
theorem rm_spansHour_40 (l : Launch) (Z : State) (a0 : Array Value) (hw : own_HW Z a0) (ws : List Jvm.Cond)  (h0 : Heap) (n0 : Nat) {w_Role_LOAD w_Quantity_MOVEMENT w_Role_Period_INTERVAL w_Role_Period_HOUR w_Role_VIRTUAL_LOAD w_Quantity_RT w_Quantity_BID w_Quantity_ACTUAL w_Role_VIRTUAL_SUPPLY w_Quantity_DA w_Role_SUPPLIER w_Role_HUB_POI w_Quantity_PERFORMANCE w_Role_REGULATION w_Role_EXPORT w_Role_IMPORT w_Role_HUB_POW : Addr} (H : own_C Z h0 w_Role_LOAD w_Quantity_MOVEMENT w_Role_Period_INTERVAL w_Role_Period_HOUR w_Role_VIRTUAL_LOAD w_Quantity_RT w_Quantity_BID w_Quantity_ACTUAL w_Role_VIRTUAL_SUPPLY w_Quantity_DA w_Role_SUPPLIER w_Role_HUB_POI w_Quantity_PERFORMANCE w_Role_REGULATION w_Role_EXPORT w_Role_IMPORT w_Role_HUB_POW) :
    own_Met l (⟨"com/example/gridledger/gridledger/positions/Role", "spansHour", "(Lcom/example/gridledger/gridledger/positions/Quantity;)Z"⟩ : MethodName) prog_41_method_10_code 2 (some .boolean) ws (own_rm 1 0 0 12) Z #[(.ref w_Role_EXPORT), (.ref w_Quantity_BID)] h0 (own_R (some (.int (1 : Int32))) h0) := by
  refine own_met (plainFor_of_name pn_2) ?_
  intro p e s m below meth c T0 hx hby hml hown hret hk hnm hZ X0 e0
  have hown : s.vm.findClass "com/example/gridledger/gridledger/positions/Role" = some m.cls := hown
  obtain ⟨-, -, -, -, -, -, -, -, -, -, -, -, -, E_w_Quantity_BID, -, -, -, -, -, -, -, -, -, -, -, -, -, -, -, -, -, -, -, -, -, -, -, -, -, -, -, -, -, -, -, -, -, -, -, -, -, -⟩ := id H
  refine own_ent (ef_2 m w_Role_EXPORT w_Quantity_BID) ?_
  refine own_aload_n X0 hx (hb hby d2_0) rfl rfl 1 rfl ?_
  refine own_pureV X0 hx hZ hown (own_w hw 19 rfl) (own_w hw 20 rfl) (notFace_of_selects (args := #[]) (mvT hZ (own_w hw 22 rfl))) (own_w hw 22 rfl) (own_w hw 21 rfl) (own_w hw 12 rfl) (own_w hw 23 rfl) (by decide) w_Quantity_BID [] [] 0 (rm_hourly_18 l Z a0 hw []  h0 n0 H) (by decide) (by decide) rfl rfl e0 E_w_Quantity_BID (by rw [hml]; rfl) (lenOf pd_2 rfl) (Nat.le_of_eq rfl) (hb hby d2_1) 4 rfl rfl (by decide) (by decide) fun T2 X2 e2 => ?_
  refine own_ifY X2 hx (hb hby d2_4) ((if0 _ _).trans (feq (by decide : ¬ ((1 : Int32) = (0 : Int32)))).2) 17 (by decide) (by decide) ?_
  refine own_iconst X2 hx (hb hby d2_17) (1 : Int32) rfl 18 rfl ?_
  refine own_goto X2 hx (hb hby d2_18) 22 (by decide) (by decide) ?_
  exact own_retZ X2 hx hk hret (hb hby d2_22) rfl ⟨rfl, e2, rfl⟩ (by decide) (by decide)
theorem d0_35 : decode method_2_code 35 = .ok (.iload_n 0, 1) := by decide +kernel
theorem d0_36 : decode method_2_code 36 = .ok (.iconst 4, 1) := by decide +kernel
theorem d0_37 : decode method_2_code 37 = .ok (.if_icmp .ne 7, 3) := by decide +kernel
theorem d0_40 : decode method_2_code 40 = .ok (.getstatic 22, 3) := by decide +kernel
theorem d0_43 : decode method_2_code 43 = .ok (.areturn, 1) := by decide +kernel
theorem rm_role_41 (l : Launch) (Z : State) (a0 : Array Value) (hw : own_HW Z a0) (ws : List Jvm.Cond)  (h0 : Heap) (n0 : Nat) {w_Role_LOAD w_Quantity_MOVEMENT w_Role_Period_INTERVAL w_Role_Period_HOUR w_Role_VIRTUAL_LOAD w_Quantity_RT w_Quantity_BID w_Quantity_ACTUAL w_Role_VIRTUAL_SUPPLY w_Quantity_DA w_Role_SUPPLIER w_Role_HUB_POI w_Quantity_PERFORMANCE w_Role_REGULATION w_Role_EXPORT w_Role_IMPORT w_Role_HUB_POW : Addr} (H : own_C Z h0 w_Role_LOAD w_Quantity_MOVEMENT w_Role_Period_INTERVAL w_Role_Period_HOUR w_Role_VIRTUAL_LOAD w_Quantity_RT w_Quantity_BID w_Quantity_ACTUAL w_Role_VIRTUAL_SUPPLY w_Quantity_DA w_Role_SUPPLIER w_Role_HUB_POI w_Quantity_PERFORMANCE w_Role_REGULATION w_Role_EXPORT w_Role_IMPORT w_Role_HUB_POW) :
    own_Met l (⟨"com/example/gridledger/gridledger/positions/RoleSpansHourPinLaw", "role", "(I)Lcom/example/gridledger/gridledger/positions/Role;"⟩ : MethodName) method_2_code 1 (some (.object "com/example/gridledger/gridledger/positions/Role")) ws (own_rm 0 0 0 0) Z #[(.int (4 : Int32))] h0 (own_R (some (.ref w_Role_VIRTUAL_SUPPLY)) h0) := by
  refine own_met (plainFor_of_name pn_0) ?_
  intro p e s m below meth c T0 hx hby hml hown hret hk hnm hZ X0 e0
  have hown : s.vm.findClass "com/example/gridledger/gridledger/positions/RoleSpansHourPinLaw" = some m.cls := hown
  obtain ⟨-, -, -, -, -, -, -, -, -, -, -, -, -, -, -, -, S_w_Role_VIRTUAL_SUPPLY, -, -, -, -, -, -, -, -, -, -, -, -, -, -, -, -, -, -, -, -, -, -, -, -, -, -, -, -, -, -, -, -, -, -, -⟩ := id H
  refine own_ent (ef_0 m (4 : Int32)) ?_
  refine own_iload_n X0 hx (hb hby d0_0) rfl 1 rfl ?_
  refine own_ifY X0 hx (hb hby d0_1) ((if0 _ _).trans (feq (by decide : ¬ ((4 : Int32) = (0 : Int32)))).2) 8 (by decide) (by decide) ?_
  refine own_iload_n X0 hx (hb hby d0_8) rfl 9 rfl ?_
  refine own_iconst X0 hx (hb hby d0_9) (1 : Int32) rfl 10 rfl ?_
  refine own_icmpY X0 hx (hb hby d0_10) (feq (by decide : ¬ ((4 : Int32) = (1 : Int32)))).2 17 (by decide) (by decide) ?_
  refine own_iload_n X0 hx (hb hby d0_17) rfl 18 rfl ?_
  refine own_iconst X0 hx (hb hby d0_18) (2 : Int32) rfl 19 rfl ?_
  refine own_icmpY X0 hx (hb hby d0_19) (feq (by decide : ¬ ((4 : Int32) = (2 : Int32)))).2 26 (by decide) (by decide) ?_
  refine own_iload_n X0 hx (hb hby d0_26) rfl 27 rfl ?_
  refine own_iconst X0 hx (hb hby d0_27) (3 : Int32) rfl 28 rfl ?_
  refine own_icmpY X0 hx (hb hby d0_28) (feq (by decide : ¬ ((4 : Int32) = (3 : Int32)))).2 35 (by decide) (by decide) ?_
  refine own_iload_n X0 hx (hb hby d0_35) rfl 36 rfl ?_
  refine own_iconst X0 hx (hb hby d0_36) (4 : Int32) rfl 37 rfl ?_
  refine own_icmpN X0 hx (hb hby d0_37) (teq (by decide : (4 : Int32) = (4 : Int32))).2 40 rfl ?_
  refine own_getS X0 hx hZ hown (host := "") (Or.inl (own_w hw 40 rfl)) Via.refl e0 S_w_Role_VIRTUAL_SUPPLY (hb hby d0_40) 43 rfl fun T1 X1 e1 => ?_
  exact own_retA X1 hx hk hret rfl rfl (hb hby d0_43) rfl ⟨rfl, e1, rfl⟩ (by decide) (by decide)
theorem rm_spansHour_42 (l : Launch) (Z : State) (a0 : Array Value) (hw : own_HW Z a0) (ws : List Jvm.Cond)  (h0 : Heap) (n0 : Nat) {w_Role_LOAD w_Quantity_MOVEMENT w_Role_Period_INTERVAL w_Role_Period_HOUR w_Role_VIRTUAL_LOAD w_Quantity_RT w_Quantity_BID w_Quantity_ACTUAL w_Role_VIRTUAL_SUPPLY w_Quantity_DA w_Role_SUPPLIER w_Role_HUB_POI w_Quantity_PERFORMANCE w_Role_REGULATION w_Role_EXPORT w_Role_IMPORT w_Role_HUB_POW : Addr} (H : own_C Z h0 w_Role_LOAD w_Quantity_MOVEMENT w_Role_Period_INTERVAL w_Role_Period_HOUR w_Role_VIRTUAL_LOAD w_Quantity_RT w_Quantity_BID w_Quantity_ACTUAL w_Role_VIRTUAL_SUPPLY w_Quantity_DA w_Role_SUPPLIER w_Role_HUB_POI w_Quantity_PERFORMANCE w_Role_REGULATION w_Role_EXPORT w_Role_IMPORT w_Role_HUB_POW) :
    own_Met l (⟨"com/example/gridledger/gridledger/positions/Role", "spansHour", "(Lcom/example/gridledger/gridledger/positions/Quantity;)Z"⟩ : MethodName) prog_41_method_10_code 2 (some .boolean) ws (own_rm 1 0 0 12) Z #[(.ref w_Role_VIRTUAL_SUPPLY), (.ref w_Quantity_DA)] h0 (own_R (some (.int (1 : Int32))) h0) := by
  refine own_met (plainFor_of_name pn_2) ?_
  intro p e s m below meth c T0 hx hby hml hown hret hk hnm hZ X0 e0
  have hown : s.vm.findClass "com/example/gridledger/gridledger/positions/Role" = some m.cls := hown
  obtain ⟨-, -, -, -, -, -, -, -, -, -, -, -, -, -, -, -, -, -, -, E_w_Quantity_DA, -, -, -, -, -, -, -, -, -, -, -, -, -, -, -, -, -, -, -, -, -, -, -, -, -, -, -, -, -, -, -, -⟩ := id H
  refine own_ent (ef_2 m w_Role_VIRTUAL_SUPPLY w_Quantity_DA) ?_
  refine own_aload_n X0 hx (hb hby d2_0) rfl rfl 1 rfl ?_
  refine own_pureV X0 hx hZ hown (own_w hw 19 rfl) (own_w hw 20 rfl) (notFace_of_selects (args := #[]) (mvT hZ (own_w hw 22 rfl))) (own_w hw 22 rfl) (own_w hw 21 rfl) (own_w hw 12 rfl) (own_w hw 23 rfl) (by decide) w_Quantity_DA [] [] 0 (rm_hourly_3 l Z a0 hw []  h0 n0 H) (by decide) (by decide) rfl rfl e0 E_w_Quantity_DA (by rw [hml]; rfl) (lenOf pd_2 rfl) (Nat.le_of_eq rfl) (hb hby d2_1) 4 rfl rfl (by decide) (by decide) fun T2 X2 e2 => ?_
  refine own_ifY X2 hx (hb hby d2_4) ((if0 _ _).trans (feq (by decide : ¬ ((1 : Int32) = (0 : Int32)))).2) 17 (by decide) (by decide) ?_
  refine own_iconst X2 hx (hb hby d2_17) (1 : Int32) rfl 18 rfl ?_
  refine own_goto X2 hx (hb hby d2_18) 22 (by decide) (by decide) ?_
  exact own_retZ X2 hx hk hret (hb hby d2_22) rfl ⟨rfl, e2, rfl⟩ (by decide) (by decide)
theorem rm_spansHour_43 (l : Launch) (Z : State) (a0 : Array Value) (hw : own_HW Z a0) (ws : List Jvm.Cond)  (h0 : Heap) (n0 : Nat) {w_Role_LOAD w_Quantity_MOVEMENT w_Role_Period_INTERVAL w_Role_Period_HOUR w_Role_VIRTUAL_LOAD w_Quantity_RT w_Quantity_BID w_Quantity_ACTUAL w_Role_VIRTUAL_SUPPLY w_Quantity_DA w_Role_SUPPLIER w_Role_HUB_POI w_Quantity_PERFORMANCE w_Role_REGULATION w_Role_EXPORT w_Role_IMPORT w_Role_HUB_POW : Addr} (H : own_C Z h0 w_Role_LOAD w_Quantity_MOVEMENT w_Role_Period_INTERVAL w_Role_Period_HOUR w_Role_VIRTUAL_LOAD w_Quantity_RT w_Quantity_BID w_Quantity_ACTUAL w_Role_VIRTUAL_SUPPLY w_Quantity_DA w_Role_SUPPLIER w_Role_HUB_POI w_Quantity_PERFORMANCE w_Role_REGULATION w_Role_EXPORT w_Role_IMPORT w_Role_HUB_POW) :
    own_Met l (⟨"com/example/gridledger/gridledger/positions/Role", "spansHour", "(Lcom/example/gridledger/gridledger/positions/Quantity;)Z"⟩ : MethodName) prog_41_method_10_code 2 (some .boolean) ws (own_rm 1 0 0 12) Z #[(.ref w_Role_VIRTUAL_SUPPLY), (.ref w_Quantity_RT)] h0 (own_R (some (.int (1 : Int32))) h0) := by
  refine own_met (plainFor_of_name pn_2) ?_
  intro p e s m below meth c T0 hx hby hml hown hret hk hnm hZ X0 e0
  have hown : s.vm.findClass "com/example/gridledger/gridledger/positions/Role" = some m.cls := hown
  obtain ⟨-, -, -, -, -, -, S_w_Role_Period_HOUR, -, -, -, -, E_w_Quantity_RT, -, -, -, -, -, -, -, -, -, -, -, -, -, -, -, -, -, -, -, -, -, -, -, -, -, -, -, -, -, -, -, -, -, -, -, -, -, F_w_Role_VIRTUAL_SUPPLY_period, -, -⟩ := id H
  refine own_ent (ef_2 m w_Role_VIRTUAL_SUPPLY w_Quantity_RT) ?_
  refine own_aload_n X0 hx (hb hby d2_0) rfl rfl 1 rfl ?_
  refine own_pureV X0 hx hZ hown (own_w hw 19 rfl) (own_w hw 20 rfl) (notFace_of_selects (args := #[]) (mvT hZ (own_w hw 22 rfl))) (own_w hw 22 rfl) (own_w hw 21 rfl) (own_w hw 12 rfl) (own_w hw 23 rfl) (by decide) w_Quantity_RT [] [] 0 (rm_hourly_6 l Z a0 hw []  h0 n0 H) (by decide) (by decide) rfl rfl e0 E_w_Quantity_RT (by rw [hml]; rfl) (lenOf pd_2 rfl) (Nat.le_of_eq rfl) (hb hby d2_1) 4 rfl rfl (by decide) (by decide) fun T2 X2 e2 => ?_
  refine own_ifN X2 hx (hb hby d2_4) ((if0 _ _).trans (teq (by decide : (0 : Int32) = (0 : Int32))).2) 7 rfl ?_
  refine own_aload_n X2 hx (hb hby d2_7) rfl rfl 8 rfl ?_
  refine own_getF X2 hx hZ hown (host := "") (Or.inl (own_w hw 26 rfl)) Via.refl e2 F_w_Role_VIRTUAL_SUPPLY_period (hb hby d2_8) 11 rfl fun T3 X3 e3 => ?_
  refine own_getS X3 hx hZ hown (host := "") (Or.inl (own_w hw 30 rfl)) Via.refl e3 S_w_Role_Period_HOUR (hb hby d2_11) 14 rfl fun T4 X4 e4 => ?_
  refine own_acmp X4 hx true (hb hby d2_14) rfl rfl (decide_eq_true rfl) 17 (by decide) (by decide) ?_
  refine own_iconst X4 hx (hb hby d2_17) (1 : Int32) rfl 18 rfl ?_
  refine own_goto X4 hx (hb hby d2_18) 22 (by decide) (by decide) ?_
  exact own_retZ X4 hx hk hret (hb hby d2_22) rfl ⟨rfl, e4, rfl⟩ (by decide) (by decide)
theorem rm_spansHour_44 (l : Launch) (Z : State) (a0 : Array Value) (hw : own_HW Z a0) (ws : List Jvm.Cond)  (h0 : Heap) (n0 : Nat) {w_Role_LOAD w_Quantity_MOVEMENT w_Role_Period_INTERVAL w_Role_Period_HOUR w_Role_VIRTUAL_LOAD w_Quantity_RT w_Quantity_BID w_Quantity_ACTUAL w_Role_VIRTUAL_SUPPLY w_Quantity_DA w_Role_SUPPLIER w_Role_HUB_POI w_Quantity_PERFORMANCE w_Role_REGULATION w_Role_EXPORT w_Role_IMPORT w_Role_HUB_POW : Addr} (H : own_C Z h0 w_Role_LOAD w_Quantity_MOVEMENT w_Role_Period_INTERVAL w_Role_Period_HOUR w_Role_VIRTUAL_LOAD w_Quantity_RT w_Quantity_BID w_Quantity_ACTUAL w_Role_VIRTUAL_SUPPLY w_Quantity_DA w_Role_SUPPLIER w_Role_HUB_POI w_Quantity_PERFORMANCE w_Role_REGULATION w_Role_EXPORT w_Role_IMPORT w_Role_HUB_POW) :
    own_Met l (⟨"com/example/gridledger/gridledger/positions/Role", "spansHour", "(Lcom/example/gridledger/gridledger/positions/Quantity;)Z"⟩ : MethodName) prog_41_method_10_code 2 (some .boolean) ws (own_rm 1 0 0 12) Z #[(.ref w_Role_VIRTUAL_SUPPLY), (.ref w_Quantity_ACTUAL)] h0 (own_R (some (.int (1 : Int32))) h0) := by
  refine own_met (plainFor_of_name pn_2) ?_
  intro p e s m below meth c T0 hx hby hml hown hret hk hnm hZ X0 e0
  have hown : s.vm.findClass "com/example/gridledger/gridledger/positions/Role" = some m.cls := hown
  obtain ⟨-, -, -, -, -, -, S_w_Role_Period_HOUR, -, -, -, -, -, -, -, -, E_w_Quantity_ACTUAL, -, -, -, -, -, -, -, -, -, -, -, -, -, -, -, -, -, -, -, -, -, -, -, -, -, -, -, -, -, -, -, -, -, F_w_Role_VIRTUAL_SUPPLY_period, -, -⟩ := id H
  refine own_ent (ef_2 m w_Role_VIRTUAL_SUPPLY w_Quantity_ACTUAL) ?_
  refine own_aload_n X0 hx (hb hby d2_0) rfl rfl 1 rfl ?_
  refine own_pureV X0 hx hZ hown (own_w hw 19 rfl) (own_w hw 20 rfl) (notFace_of_selects (args := #[]) (mvT hZ (own_w hw 22 rfl))) (own_w hw 22 rfl) (own_w hw 21 rfl) (own_w hw 12 rfl) (own_w hw 23 rfl) (by decide) w_Quantity_ACTUAL [] [] 0 (rm_hourly_9 l Z a0 hw []  h0 n0 H) (by decide) (by decide) rfl rfl e0 E_w_Quantity_ACTUAL (by rw [hml]; rfl) (lenOf pd_2 rfl) (Nat.le_of_eq rfl) (hb hby d2_1) 4 rfl rfl (by decide) (by decide) fun T2 X2 e2 => ?_
  refine own_ifN X2 hx (hb hby d2_4) ((if0 _ _).trans (teq (by decide : (0 : Int32) = (0 : Int32))).2) 7 rfl ?_
  refine own_aload_n X2 hx (hb hby d2_7) rfl rfl 8 rfl ?_
  refine own_getF X2 hx hZ hown (host := "") (Or.inl (own_w hw 26 rfl)) Via.refl e2 F_w_Role_VIRTUAL_SUPPLY_period (hb hby d2_8) 11 rfl fun T3 X3 e3 => ?_
  refine own_getS X3 hx hZ hown (host := "") (Or.inl (own_w hw 30 rfl)) Via.refl e3 S_w_Role_Period_HOUR (hb hby d2_11) 14 rfl fun T4 X4 e4 => ?_
  refine own_acmp X4 hx true (hb hby d2_14) rfl rfl (decide_eq_true rfl) 17 (by decide) (by decide) ?_
  refine own_iconst X4 hx (hb hby d2_17) (1 : Int32) rfl 18 rfl ?_
  refine own_goto X4 hx (hb hby d2_18) 22 (by decide) (by decide) ?_
  exact own_retZ X4 hx hk hret (hb hby d2_22) rfl ⟨rfl, e4, rfl⟩ (by decide) (by decide)
theorem rm_spansHour_45 (l : Launch) (Z : State) (a0 : Array Value) (hw : own_HW Z a0) (ws : List Jvm.Cond)  (h0 : Heap) (n0 : Nat) {w_Role_LOAD w_Quantity_MOVEMENT w_Role_Period_INTERVAL w_Role_Period_HOUR w_Role_VIRTUAL_LOAD w_Quantity_RT w_Quantity_BID w_Quantity_ACTUAL w_Role_VIRTUAL_SUPPLY w_Quantity_DA w_Role_SUPPLIER w_Role_HUB_POI w_Quantity_PERFORMANCE w_Role_REGULATION w_Role_EXPORT w_Role_IMPORT w_Role_HUB_POW : Addr} (H : own_C Z h0 w_Role_LOAD w_Quantity_MOVEMENT w_Role_Period_INTERVAL w_Role_Period_HOUR w_Role_VIRTUAL_LOAD w_Quantity_RT w_Quantity_BID w_Quantity_ACTUAL w_Role_VIRTUAL_SUPPLY w_Quantity_DA w_Role_SUPPLIER w_Role_HUB_POI w_Quantity_PERFORMANCE w_Role_REGULATION w_Role_EXPORT w_Role_IMPORT w_Role_HUB_POW) :
    own_Met l (⟨"com/example/gridledger/gridledger/positions/Role", "spansHour", "(Lcom/example/gridledger/gridledger/positions/Quantity;)Z"⟩ : MethodName) prog_41_method_10_code 2 (some .boolean) ws (own_rm 1 0 0 12) Z #[(.ref w_Role_VIRTUAL_SUPPLY), (.ref w_Quantity_MOVEMENT)] h0 (own_R (some (.int (1 : Int32))) h0) := by
  refine own_met (plainFor_of_name pn_2) ?_
  intro p e s m below meth c T0 hx hby hml hown hret hk hnm hZ X0 e0
  have hown : s.vm.findClass "com/example/gridledger/gridledger/positions/Role" = some m.cls := hown
  obtain ⟨-, -, -, E_w_Quantity_MOVEMENT, -, -, S_w_Role_Period_HOUR, -, -, -, -, -, -, -, -, -, -, -, -, -, -, -, -, -, -, -, -, -, -, -, -, -, -, -, -, -, -, -, -, -, -, -, -, -, -, -, -, -, -, F_w_Role_VIRTUAL_SUPPLY_period, -, -⟩ := id H
  refine own_ent (ef_2 m w_Role_VIRTUAL_SUPPLY w_Quantity_MOVEMENT) ?_
  refine own_aload_n X0 hx (hb hby d2_0) rfl rfl 1 rfl ?_
  refine own_pureV X0 hx hZ hown (own_w hw 19 rfl) (own_w hw 20 rfl) (notFace_of_selects (args := #[]) (mvT hZ (own_w hw 22 rfl))) (own_w hw 22 rfl) (own_w hw 21 rfl) (own_w hw 12 rfl) (own_w hw 23 rfl) (by decide) w_Quantity_MOVEMENT [] [] 0 (rm_hourly_12 l Z a0 hw []  h0 n0 H) (by decide) (by decide) rfl rfl e0 E_w_Quantity_MOVEMENT (by rw [hml]; rfl) (lenOf pd_2 rfl) (Nat.le_of_eq rfl) (hb hby d2_1) 4 rfl rfl (by decide) (by decide) fun T2 X2 e2 => ?_
  refine own_ifN X2 hx (hb hby d2_4) ((if0 _ _).trans (teq (by decide : (0 : Int32) = (0 : Int32))).2) 7 rfl ?_
  refine own_aload_n X2 hx (hb hby d2_7) rfl rfl 8 rfl ?_
  refine own_getF X2 hx hZ hown (host := "") (Or.inl (own_w hw 26 rfl)) Via.refl e2 F_w_Role_VIRTUAL_SUPPLY_period (hb hby d2_8) 11 rfl fun T3 X3 e3 => ?_
  refine own_getS X3 hx hZ hown (host := "") (Or.inl (own_w hw 30 rfl)) Via.refl e3 S_w_Role_Period_HOUR (hb hby d2_11) 14 rfl fun T4 X4 e4 => ?_
  refine own_acmp X4 hx true (hb hby d2_14) rfl rfl (decide_eq_true rfl) 17 (by decide) (by decide) ?_
  refine own_iconst X4 hx (hb hby d2_17) (1 : Int32) rfl 18 rfl ?_
  refine own_goto X4 hx (hb hby d2_18) 22 (by decide) (by decide) ?_
  exact own_retZ X4 hx hk hret (hb hby d2_22) rfl ⟨rfl, e4, rfl⟩ (by decide) (by decide)
theorem rm_spansHour_46 (l : Launch) (Z : State) (a0 : Array Value) (hw : own_HW Z a0) (ws : List Jvm.Cond)  (h0 : Heap) (n0 : Nat) {w_Role_LOAD w_Quantity_MOVEMENT w_Role_Period_INTERVAL w_Role_Period_HOUR w_Role_VIRTUAL_LOAD w_Quantity_RT w_Quantity_BID w_Quantity_ACTUAL w_Role_VIRTUAL_SUPPLY w_Quantity_DA w_Role_SUPPLIER w_Role_HUB_POI w_Quantity_PERFORMANCE w_Role_REGULATION w_Role_EXPORT w_Role_IMPORT w_Role_HUB_POW : Addr} (H : own_C Z h0 w_Role_LOAD w_Quantity_MOVEMENT w_Role_Period_INTERVAL w_Role_Period_HOUR w_Role_VIRTUAL_LOAD w_Quantity_RT w_Quantity_BID w_Quantity_ACTUAL w_Role_VIRTUAL_SUPPLY w_Quantity_DA w_Role_SUPPLIER w_Role_HUB_POI w_Quantity_PERFORMANCE w_Role_REGULATION w_Role_EXPORT w_Role_IMPORT w_Role_HUB_POW) :
    own_Met l (⟨"com/example/gridledger/gridledger/positions/Role", "spansHour", "(Lcom/example/gridledger/gridledger/positions/Quantity;)Z"⟩ : MethodName) prog_41_method_10_code 2 (some .boolean) ws (own_rm 1 0 0 12) Z #[(.ref w_Role_VIRTUAL_SUPPLY), (.ref w_Quantity_PERFORMANCE)] h0 (own_R (some (.int (1 : Int32))) h0) := by
  refine own_met (plainFor_of_name pn_2) ?_
  intro p e s m below meth c T0 hx hby hml hown hret hk hnm hZ X0 e0
  have hown : s.vm.findClass "com/example/gridledger/gridledger/positions/Role" = some m.cls := hown
  obtain ⟨-, -, -, -, -, -, S_w_Role_Period_HOUR, -, -, -, -, -, -, -, -, -, -, -, -, -, -, -, -, -, -, E_w_Quantity_PERFORMANCE, -, -, -, -, -, -, -, -, -, -, -, -, -, -, -, -, -, -, -, -, -, -, -, F_w_Role_VIRTUAL_SUPPLY_period, -, -⟩ := id H
  refine own_ent (ef_2 m w_Role_VIRTUAL_SUPPLY w_Quantity_PERFORMANCE) ?_
  refine own_aload_n X0 hx (hb hby d2_0) rfl rfl 1 rfl ?_
  refine own_pureV X0 hx hZ hown (own_w hw 19 rfl) (own_w hw 20 rfl) (notFace_of_selects (args := #[]) (mvT hZ (own_w hw 22 rfl))) (own_w hw 22 rfl) (own_w hw 21 rfl) (own_w hw 12 rfl) (own_w hw 23 rfl) (by decide) w_Quantity_PERFORMANCE [] [] 0 (rm_hourly_15 l Z a0 hw []  h0 n0 H) (by decide) (by decide) rfl rfl e0 E_w_Quantity_PERFORMANCE (by rw [hml]; rfl) (lenOf pd_2 rfl) (Nat.le_of_eq rfl) (hb hby d2_1) 4 rfl rfl (by decide) (by decide) fun T2 X2 e2 => ?_
  refine own_ifN X2 hx (hb hby d2_4) ((if0 _ _).trans (teq (by decide : (0 : Int32) = (0 : Int32))).2) 7 rfl ?_
  refine own_aload_n X2 hx (hb hby d2_7) rfl rfl 8 rfl ?_
  refine own_getF X2 hx hZ hown (host := "") (Or.inl (own_w hw 26 rfl)) Via.refl e2 F_w_Role_VIRTUAL_SUPPLY_period (hb hby d2_8) 11 rfl fun T3 X3 e3 => ?_
  refine own_getS X3 hx hZ hown (host := "") (Or.inl (own_w hw 30 rfl)) Via.refl e3 S_w_Role_Period_HOUR (hb hby d2_11) 14 rfl fun T4 X4 e4 => ?_
  refine own_acmp X4 hx true (hb hby d2_14) rfl rfl (decide_eq_true rfl) 17 (by decide) (by decide) ?_
  refine own_iconst X4 hx (hb hby d2_17) (1 : Int32) rfl 18 rfl ?_
  refine own_goto X4 hx (hb hby d2_18) 22 (by decide) (by decide) ?_
  exact own_retZ X4 hx hk hret (hb hby d2_22) rfl ⟨rfl, e4, rfl⟩ (by decide) (by decide)
theorem rm_spansHour_47 (l : Launch) (Z : State) (a0 : Array Value) (hw : own_HW Z a0) (ws : List Jvm.Cond)  (h0 : Heap) (n0 : Nat) {w_Role_LOAD w_Quantity_MOVEMENT w_Role_Period_INTERVAL w_Role_Period_HOUR w_Role_VIRTUAL_LOAD w_Quantity_RT w_Quantity_BID w_Quantity_ACTUAL w_Role_VIRTUAL_SUPPLY w_Quantity_DA w_Role_SUPPLIER w_Role_HUB_POI w_Quantity_PERFORMANCE w_Role_REGULATION w_Role_EXPORT w_Role_IMPORT w_Role_HUB_POW : Addr} (H : own_C Z h0 w_Role_LOAD w_Quantity_MOVEMENT w_Role_Period_INTERVAL w_Role_Period_HOUR w_Role_VIRTUAL_LOAD w_Quantity_RT w_Quantity_BID w_Quantity_ACTUAL w_Role_VIRTUAL_SUPPLY w_Quantity_DA w_Role_SUPPLIER w_Role_HUB_POI w_Quantity_PERFORMANCE w_Role_REGULATION w_Role_EXPORT w_Role_IMPORT w_Role_HUB_POW) :
    own_Met l (⟨"com/example/gridledger/gridledger/positions/Role", "spansHour", "(Lcom/example/gridledger/gridledger/positions/Quantity;)Z"⟩ : MethodName) prog_41_method_10_code 2 (some .boolean) ws (own_rm 1 0 0 12) Z #[(.ref w_Role_VIRTUAL_SUPPLY), (.ref w_Quantity_BID)] h0 (own_R (some (.int (1 : Int32))) h0) := by
  refine own_met (plainFor_of_name pn_2) ?_
  intro p e s m below meth c T0 hx hby hml hown hret hk hnm hZ X0 e0
  have hown : s.vm.findClass "com/example/gridledger/gridledger/positions/Role" = some m.cls := hown
  obtain ⟨-, -, -, -, -, -, -, -, -, -, -, -, -, E_w_Quantity_BID, -, -, -, -, -, -, -, -, -, -, -, -, -, -, -, -, -, -, -, -, -, -, -, -, -, -, -, -, -, -, -, -, -, -, -, -, -, -⟩ := id H
  refine own_ent (ef_2 m w_Role_VIRTUAL_SUPPLY w_Quantity_BID) ?_
  refine own_aload_n X0 hx (hb hby d2_0) rfl rfl 1 rfl ?_
  refine own_pureV X0 hx hZ hown (own_w hw 19 rfl) (own_w hw 20 rfl) (notFace_of_selects (args := #[]) (mvT hZ (own_w hw 22 rfl))) (own_w hw 22 rfl) (own_w hw 21 rfl) (own_w hw 12 rfl) (own_w hw 23 rfl) (by decide) w_Quantity_BID [] [] 0 (rm_hourly_18 l Z a0 hw []  h0 n0 H) (by decide) (by decide) rfl rfl e0 E_w_Quantity_BID (by rw [hml]; rfl) (lenOf pd_2 rfl) (Nat.le_of_eq rfl) (hb hby d2_1) 4 rfl rfl (by decide) (by decide) fun T2 X2 e2 => ?_
  refine own_ifY X2 hx (hb hby d2_4) ((if0 _ _).trans (feq (by decide : ¬ ((1 : Int32) = (0 : Int32)))).2) 17 (by decide) (by decide) ?_
  refine own_iconst X2 hx (hb hby d2_17) (1 : Int32) rfl 18 rfl ?_
  refine own_goto X2 hx (hb hby d2_18) 22 (by decide) (by decide) ?_
  exact own_retZ X2 hx hk hret (hb hby d2_22) rfl ⟨rfl, e2, rfl⟩ (by decide) (by decide)
theorem d0_44 : decode method_2_code 44 = .ok (.iload_n 0, 1) := by decide +kernel
theorem d0_45 : decode method_2_code 45 = .ok (.iconst 5, 1) := by decide +kernel
theorem d0_46 : decode method_2_code 46 = .ok (.if_icmp .ne 7, 3) := by decide +kernel
theorem d0_49 : decode method_2_code 49 = .ok (.getstatic 25, 3) := by decide +kernel
theorem d0_52 : decode method_2_code 52 = .ok (.areturn, 1) := by decide +kernel
theorem rm_role_48 (l : Launch) (Z : State) (a0 : Array Value) (hw : own_HW Z a0) (ws : List Jvm.Cond)  (h0 : Heap) (n0 : Nat) {w_Role_LOAD w_Quantity_MOVEMENT w_Role_Period_INTERVAL w_Role_Period_HOUR w_Role_VIRTUAL_LOAD w_Quantity_RT w_Quantity_BID w_Quantity_ACTUAL w_Role_VIRTUAL_SUPPLY w_Quantity_DA w_Role_SUPPLIER w_Role_HUB_POI w_Quantity_PERFORMANCE w_Role_REGULATION w_Role_EXPORT w_Role_IMPORT w_Role_HUB_POW : Addr} (H : own_C Z h0 w_Role_LOAD w_Quantity_MOVEMENT w_Role_Period_INTERVAL w_Role_Period_HOUR w_Role_VIRTUAL_LOAD w_Quantity_RT w_Quantity_BID w_Quantity_ACTUAL w_Role_VIRTUAL_SUPPLY w_Quantity_DA w_Role_SUPPLIER w_Role_HUB_POI w_Quantity_PERFORMANCE w_Role_REGULATION w_Role_EXPORT w_Role_IMPORT w_Role_HUB_POW) :
    own_Met l (⟨"com/example/gridledger/gridledger/positions/RoleSpansHourPinLaw", "role", "(I)Lcom/example/gridledger/gridledger/positions/Role;"⟩ : MethodName) method_2_code 1 (some (.object "com/example/gridledger/gridledger/positions/Role")) ws (own_rm 0 0 0 0) Z #[(.int (5 : Int32))] h0 (own_R (some (.ref w_Role_VIRTUAL_LOAD)) h0) := by
  refine own_met (plainFor_of_name pn_0) ?_
  intro p e s m below meth c T0 hx hby hml hown hret hk hnm hZ X0 e0
  have hown : s.vm.findClass "com/example/gridledger/gridledger/positions/RoleSpansHourPinLaw" = some m.cls := hown
  obtain ⟨-, -, -, -, -, -, -, -, S_w_Role_VIRTUAL_LOAD, -, -, -, -, -, -, -, -, -, -, -, -, -, -, -, -, -, -, -, -, -, -, -, -, -, -, -, -, -, -, -, -, -, -, -, -, -, -, -, -, -, -, -⟩ := id H
  refine own_ent (ef_0 m (5 : Int32)) ?_
  refine own_iload_n X0 hx (hb hby d0_0) rfl 1 rfl ?_
  refine own_ifY X0 hx (hb hby d0_1) ((if0 _ _).trans (feq (by decide : ¬ ((5 : Int32) = (0 : Int32)))).2) 8 (by decide) (by decide) ?_
  refine own_iload_n X0 hx (hb hby d0_8) rfl 9 rfl ?_
  refine own_iconst X0 hx (hb hby d0_9) (1 : Int32) rfl 10 rfl ?_
  refine own_icmpY X0 hx (hb hby d0_10) (feq (by decide : ¬ ((5 : Int32) = (1 : Int32)))).2 17 (by decide) (by decide) ?_
  refine own_iload_n X0 hx (hb hby d0_17) rfl 18 rfl ?_
  refine own_iconst X0 hx (hb hby d0_18) (2 : Int32) rfl 19 rfl ?_
  refine own_icmpY X0 hx (hb hby d0_19) (feq (by decide : ¬ ((5 : Int32) = (2 : Int32)))).2 26 (by decide) (by decide) ?_
  refine own_iload_n X0 hx (hb hby d0_26) rfl 27 rfl ?_
  refine own_iconst X0 hx (hb hby d0_27) (3 : Int32) rfl 28 rfl ?_
  refine own_icmpY X0 hx (hb hby d0_28) (feq (by decide : ¬ ((5 : Int32) = (3 : Int32)))).2 35 (by decide) (by decide) ?_
  refine own_iload_n X0 hx (hb hby d0_35) rfl 36 rfl ?_
  refine own_iconst X0 hx (hb hby d0_36) (4 : Int32) rfl 37 rfl ?_
  refine own_icmpY X0 hx (hb hby d0_37) (feq (by decide : ¬ ((5 : Int32) = (4 : Int32)))).2 44 (by decide) (by decide) ?_
  refine own_iload_n X0 hx (hb hby d0_44) rfl 45 rfl ?_
  refine own_iconst X0 hx (hb hby d0_45) (5 : Int32) rfl 46 rfl ?_
  refine own_icmpN X0 hx (hb hby d0_46) (teq (by decide : (5 : Int32) = (5 : Int32))).2 49 rfl ?_
  refine own_getS X0 hx hZ hown (host := "") (Or.inl (own_w hw 32 rfl)) Via.refl e0 S_w_Role_VIRTUAL_LOAD (hb hby d0_49) 52 rfl fun T1 X1 e1 => ?_
  exact own_retA X1 hx hk hret rfl rfl (hb hby d0_52) rfl ⟨rfl, e1, rfl⟩ (by decide) (by decide)
theorem rm_spansHour_49 (l : Launch) (Z : State) (a0 : Array Value) (hw : own_HW Z a0) (ws : List Jvm.Cond)  (h0 : Heap) (n0 : Nat) {w_Role_LOAD w_Quantity_MOVEMENT w_Role_Period_INTERVAL w_Role_Period_HOUR w_Role_VIRTUAL_LOAD w_Quantity_RT w_Quantity_BID w_Quantity_ACTUAL w_Role_VIRTUAL_SUPPLY w_Quantity_DA w_Role_SUPPLIER w_Role_HUB_POI w_Quantity_PERFORMANCE w_Role_REGULATION w_Role_EXPORT w_Role_IMPORT w_Role_HUB_POW : Addr} (H : own_C Z h0 w_Role_LOAD w_Quantity_MOVEMENT w_Role_Period_INTERVAL w_Role_Period_HOUR w_Role_VIRTUAL_LOAD w_Quantity_RT w_Quantity_BID w_Quantity_ACTUAL w_Role_VIRTUAL_SUPPLY w_Quantity_DA w_Role_SUPPLIER w_Role_HUB_POI w_Quantity_PERFORMANCE w_Role_REGULATION w_Role_EXPORT w_Role_IMPORT w_Role_HUB_POW) :
    own_Met l (⟨"com/example/gridledger/gridledger/positions/Role", "spansHour", "(Lcom/example/gridledger/gridledger/positions/Quantity;)Z"⟩ : MethodName) prog_41_method_10_code 2 (some .boolean) ws (own_rm 1 0 0 12) Z #[(.ref w_Role_VIRTUAL_LOAD), (.ref w_Quantity_DA)] h0 (own_R (some (.int (1 : Int32))) h0) := by
  refine own_met (plainFor_of_name pn_2) ?_
  intro p e s m below meth c T0 hx hby hml hown hret hk hnm hZ X0 e0
  have hown : s.vm.findClass "com/example/gridledger/gridledger/positions/Role" = some m.cls := hown
  obtain ⟨-, -, -, -, -, -, -, -, -, -, -, -, -, -, -, -, -, -, -, E_w_Quantity_DA, -, -, -, -, -, -, -, -, -, -, -, -, -, -, -, -, -, -, -, -, -, -, -, -, -, -, -, -, -, -, -, -⟩ := id H
  refine own_ent (ef_2 m w_Role_VIRTUAL_LOAD w_Quantity_DA) ?_
  refine own_aload_n X0 hx (hb hby d2_0) rfl rfl 1 rfl ?_
  refine own_pureV X0 hx hZ hown (own_w hw 19 rfl) (own_w hw 20 rfl) (notFace_of_selects (args := #[]) (mvT hZ (own_w hw 22 rfl))) (own_w hw 22 rfl) (own_w hw 21 rfl) (own_w hw 12 rfl) (own_w hw 23 rfl) (by decide) w_Quantity_DA [] [] 0 (rm_hourly_3 l Z a0 hw []  h0 n0 H) (by decide) (by decide) rfl rfl e0 E_w_Quantity_DA (by rw [hml]; rfl) (lenOf pd_2 rfl) (Nat.le_of_eq rfl) (hb hby d2_1) 4 rfl rfl (by decide) (by decide) fun T2 X2 e2 => ?_
  refine own_ifY X2 hx (hb hby d2_4) ((if0 _ _).trans (feq (by decide : ¬ ((1 : Int32) = (0 : Int32)))).2) 17 (by decide) (by decide) ?_
  refine own_iconst X2 hx (hb hby d2_17) (1 : Int32) rfl 18 rfl ?_
  refine own_goto X2 hx (hb hby d2_18) 22 (by decide) (by decide) ?_
  exact own_retZ X2 hx hk hret (hb hby d2_22) rfl ⟨rfl, e2, rfl⟩ (by decide) (by decide)
theorem rm_spansHour_50 (l : Launch) (Z : State) (a0 : Array Value) (hw : own_HW Z a0) (ws : List Jvm.Cond)  (h0 : Heap) (n0 : Nat) {w_Role_LOAD w_Quantity_MOVEMENT w_Role_Period_INTERVAL w_Role_Period_HOUR w_Role_VIRTUAL_LOAD w_Quantity_RT w_Quantity_BID w_Quantity_ACTUAL w_Role_VIRTUAL_SUPPLY w_Quantity_DA w_Role_SUPPLIER w_Role_HUB_POI w_Quantity_PERFORMANCE w_Role_REGULATION w_Role_EXPORT w_Role_IMPORT w_Role_HUB_POW : Addr} (H : own_C Z h0 w_Role_LOAD w_Quantity_MOVEMENT w_Role_Period_INTERVAL w_Role_Period_HOUR w_Role_VIRTUAL_LOAD w_Quantity_RT w_Quantity_BID w_Quantity_ACTUAL w_Role_VIRTUAL_SUPPLY w_Quantity_DA w_Role_SUPPLIER w_Role_HUB_POI w_Quantity_PERFORMANCE w_Role_REGULATION w_Role_EXPORT w_Role_IMPORT w_Role_HUB_POW) :
    own_Met l (⟨"com/example/gridledger/gridledger/positions/Role", "spansHour", "(Lcom/example/gridledger/gridledger/positions/Quantity;)Z"⟩ : MethodName) prog_41_method_10_code 2 (some .boolean) ws (own_rm 1 0 0 12) Z #[(.ref w_Role_VIRTUAL_LOAD), (.ref w_Quantity_RT)] h0 (own_R (some (.int (1 : Int32))) h0) := by
  refine own_met (plainFor_of_name pn_2) ?_
  intro p e s m below meth c T0 hx hby hml hown hret hk hnm hZ X0 e0
  have hown : s.vm.findClass "com/example/gridledger/gridledger/positions/Role" = some m.cls := hown
  obtain ⟨-, -, -, -, -, -, S_w_Role_Period_HOUR, -, -, -, -, E_w_Quantity_RT, -, -, -, -, -, -, -, -, -, -, -, -, -, -, -, -, -, -, -, -, -, -, -, -, -, -, -, F_w_Role_VIRTUAL_LOAD_period, -, -, -, -, -, -, -, -, -, -, -, -⟩ := id H
  refine own_ent (ef_2 m w_Role_VIRTUAL_LOAD w_Quantity_RT) ?_
  refine own_aload_n X0 hx (hb hby d2_0) rfl rfl 1 rfl ?_
  refine own_pureV X0 hx hZ hown (own_w hw 19 rfl) (own_w hw 20 rfl) (notFace_of_selects (args := #[]) (mvT hZ (own_w hw 22 rfl))) (own_w hw 22 rfl) (own_w hw 21 rfl) (own_w hw 12 rfl) (own_w hw 23 rfl) (by decide) w_Quantity_RT [] [] 0 (rm_hourly_6 l Z a0 hw []  h0 n0 H) (by decide) (by decide) rfl rfl e0 E_w_Quantity_RT (by rw [hml]; rfl) (lenOf pd_2 rfl) (Nat.le_of_eq rfl) (hb hby d2_1) 4 rfl rfl (by decide) (by decide) fun T2 X2 e2 => ?_
  refine own_ifN X2 hx (hb hby d2_4) ((if0 _ _).trans (teq (by decide : (0 : Int32) = (0 : Int32))).2) 7 rfl ?_
  refine own_aload_n X2 hx (hb hby d2_7) rfl rfl 8 rfl ?_
  refine own_getF X2 hx hZ hown (host := "") (Or.inl (own_w hw 26 rfl)) Via.refl e2 F_w_Role_VIRTUAL_LOAD_period (hb hby d2_8) 11 rfl fun T3 X3 e3 => ?_
  refine own_getS X3 hx hZ hown (host := "") (Or.inl (own_w hw 30 rfl)) Via.refl e3 S_w_Role_Period_HOUR (hb hby d2_11) 14 rfl fun T4 X4 e4 => ?_
  refine own_acmp X4 hx true (hb hby d2_14) rfl rfl (decide_eq_true rfl) 17 (by decide) (by decide) ?_
  refine own_iconst X4 hx (hb hby d2_17) (1 : Int32) rfl 18 rfl ?_
  refine own_goto X4 hx (hb hby d2_18) 22 (by decide) (by decide) ?_
  exact own_retZ X4 hx hk hret (hb hby d2_22) rfl ⟨rfl, e4, rfl⟩ (by decide) (by decide)
theorem rm_spansHour_51 (l : Launch) (Z : State) (a0 : Array Value) (hw : own_HW Z a0) (ws : List Jvm.Cond)  (h0 : Heap) (n0 : Nat) {w_Role_LOAD w_Quantity_MOVEMENT w_Role_Period_INTERVAL w_Role_Period_HOUR w_Role_VIRTUAL_LOAD w_Quantity_RT w_Quantity_BID w_Quantity_ACTUAL w_Role_VIRTUAL_SUPPLY w_Quantity_DA w_Role_SUPPLIER w_Role_HUB_POI w_Quantity_PERFORMANCE w_Role_REGULATION w_Role_EXPORT w_Role_IMPORT w_Role_HUB_POW : Addr} (H : own_C Z h0 w_Role_LOAD w_Quantity_MOVEMENT w_Role_Period_INTERVAL w_Role_Period_HOUR w_Role_VIRTUAL_LOAD w_Quantity_RT w_Quantity_BID w_Quantity_ACTUAL w_Role_VIRTUAL_SUPPLY w_Quantity_DA w_Role_SUPPLIER w_Role_HUB_POI w_Quantity_PERFORMANCE w_Role_REGULATION w_Role_EXPORT w_Role_IMPORT w_Role_HUB_POW) :
    own_Met l (⟨"com/example/gridledger/gridledger/positions/Role", "spansHour", "(Lcom/example/gridledger/gridledger/positions/Quantity;)Z"⟩ : MethodName) prog_41_method_10_code 2 (some .boolean) ws (own_rm 1 0 0 12) Z #[(.ref w_Role_VIRTUAL_LOAD), (.ref w_Quantity_ACTUAL)] h0 (own_R (some (.int (1 : Int32))) h0) := by
  refine own_met (plainFor_of_name pn_2) ?_
  intro p e s m below meth c T0 hx hby hml hown hret hk hnm hZ X0 e0
  have hown : s.vm.findClass "com/example/gridledger/gridledger/positions/Role" = some m.cls := hown
  obtain ⟨-, -, -, -, -, -, S_w_Role_Period_HOUR, -, -, -, -, -, -, -, -, E_w_Quantity_ACTUAL, -, -, -, -, -, -, -, -, -, -, -, -, -, -, -, -, -, -, -, -, -, -, -, F_w_Role_VIRTUAL_LOAD_period, -, -, -, -, -, -, -, -, -, -, -, -⟩ := id H
  refine own_ent (ef_2 m w_Role_VIRTUAL_LOAD w_Quantity_ACTUAL) ?_
  refine own_aload_n X0 hx (hb hby d2_0) rfl rfl 1 rfl ?_
  refine own_pureV X0 hx hZ hown (own_w hw 19 rfl) (own_w hw 20 rfl) (notFace_of_selects (args := #[]) (mvT hZ (own_w hw 22 rfl))) (own_w hw 22 rfl) (own_w hw 21 rfl) (own_w hw 12 rfl) (own_w hw 23 rfl) (by decide) w_Quantity_ACTUAL [] [] 0 (rm_hourly_9 l Z a0 hw []  h0 n0 H) (by decide) (by decide) rfl rfl e0 E_w_Quantity_ACTUAL (by rw [hml]; rfl) (lenOf pd_2 rfl) (Nat.le_of_eq rfl) (hb hby d2_1) 4 rfl rfl (by decide) (by decide) fun T2 X2 e2 => ?_
  refine own_ifN X2 hx (hb hby d2_4) ((if0 _ _).trans (teq (by decide : (0 : Int32) = (0 : Int32))).2) 7 rfl ?_
  refine own_aload_n X2 hx (hb hby d2_7) rfl rfl 8 rfl ?_
  refine own_getF X2 hx hZ hown (host := "") (Or.inl (own_w hw 26 rfl)) Via.refl e2 F_w_Role_VIRTUAL_LOAD_period (hb hby d2_8) 11 rfl fun T3 X3 e3 => ?_
  refine own_getS X3 hx hZ hown (host := "") (Or.inl (own_w hw 30 rfl)) Via.refl e3 S_w_Role_Period_HOUR (hb hby d2_11) 14 rfl fun T4 X4 e4 => ?_
  refine own_acmp X4 hx true (hb hby d2_14) rfl rfl (decide_eq_true rfl) 17 (by decide) (by decide) ?_
  refine own_iconst X4 hx (hb hby d2_17) (1 : Int32) rfl 18 rfl ?_
  refine own_goto X4 hx (hb hby d2_18) 22 (by decide) (by decide) ?_
  exact own_retZ X4 hx hk hret (hb hby d2_22) rfl ⟨rfl, e4, rfl⟩ (by decide) (by decide)
theorem rm_spansHour_52 (l : Launch) (Z : State) (a0 : Array Value) (hw : own_HW Z a0) (ws : List Jvm.Cond)  (h0 : Heap) (n0 : Nat) {w_Role_LOAD w_Quantity_MOVEMENT w_Role_Period_INTERVAL w_Role_Period_HOUR w_Role_VIRTUAL_LOAD w_Quantity_RT w_Quantity_BID w_Quantity_ACTUAL w_Role_VIRTUAL_SUPPLY w_Quantity_DA w_Role_SUPPLIER w_Role_HUB_POI w_Quantity_PERFORMANCE w_Role_REGULATION w_Role_EXPORT w_Role_IMPORT w_Role_HUB_POW : Addr} (H : own_C Z h0 w_Role_LOAD w_Quantity_MOVEMENT w_Role_Period_INTERVAL w_Role_Period_HOUR w_Role_VIRTUAL_LOAD w_Quantity_RT w_Quantity_BID w_Quantity_ACTUAL w_Role_VIRTUAL_SUPPLY w_Quantity_DA w_Role_SUPPLIER w_Role_HUB_POI w_Quantity_PERFORMANCE w_Role_REGULATION w_Role_EXPORT w_Role_IMPORT w_Role_HUB_POW) :
    own_Met l (⟨"com/example/gridledger/gridledger/positions/Role", "spansHour", "(Lcom/example/gridledger/gridledger/positions/Quantity;)Z"⟩ : MethodName) prog_41_method_10_code 2 (some .boolean) ws (own_rm 1 0 0 12) Z #[(.ref w_Role_VIRTUAL_LOAD), (.ref w_Quantity_MOVEMENT)] h0 (own_R (some (.int (1 : Int32))) h0) := by
  refine own_met (plainFor_of_name pn_2) ?_
  intro p e s m below meth c T0 hx hby hml hown hret hk hnm hZ X0 e0
  have hown : s.vm.findClass "com/example/gridledger/gridledger/positions/Role" = some m.cls := hown
  obtain ⟨-, -, -, E_w_Quantity_MOVEMENT, -, -, S_w_Role_Period_HOUR, -, -, -, -, -, -, -, -, -, -, -, -, -, -, -, -, -, -, -, -, -, -, -, -, -, -, -, -, -, -, -, -, F_w_Role_VIRTUAL_LOAD_period, -, -, -, -, -, -, -, -, -, -, -, -⟩ := id H
  refine own_ent (ef_2 m w_Role_VIRTUAL_LOAD w_Quantity_MOVEMENT) ?_
  refine own_aload_n X0 hx (hb hby d2_0) rfl rfl 1 rfl ?_
  refine own_pureV X0 hx hZ hown (own_w hw 19 rfl) (own_w hw 20 rfl) (notFace_of_selects (args := #[]) (mvT hZ (own_w hw 22 rfl))) (own_w hw 22 rfl) (own_w hw 21 rfl) (own_w hw 12 rfl) (own_w hw 23 rfl) (by decide) w_Quantity_MOVEMENT [] [] 0 (rm_hourly_12 l Z a0 hw []  h0 n0 H) (by decide) (by decide) rfl rfl e0 E_w_Quantity_MOVEMENT (by rw [hml]; rfl) (lenOf pd_2 rfl) (Nat.le_of_eq rfl) (hb hby d2_1) 4 rfl rfl (by decide) (by decide) fun T2 X2 e2 => ?_
  refine own_ifN X2 hx (hb hby d2_4) ((if0 _ _).trans (teq (by decide : (0 : Int32) = (0 : Int32))).2) 7 rfl ?_
  refine own_aload_n X2 hx (hb hby d2_7) rfl rfl 8 rfl ?_
  refine own_getF X2 hx hZ hown (host := "") (Or.inl (own_w hw 26 rfl)) Via.refl e2 F_w_Role_VIRTUAL_LOAD_period (hb hby d2_8) 11 rfl fun T3 X3 e3 => ?_
  refine own_getS X3 hx hZ hown (host := "") (Or.inl (own_w hw 30 rfl)) Via.refl e3 S_w_Role_Period_HOUR (hb hby d2_11) 14 rfl fun T4 X4 e4 => ?_
  refine own_acmp X4 hx true (hb hby d2_14) rfl rfl (decide_eq_true rfl) 17 (by decide) (by decide) ?_
  refine own_iconst X4 hx (hb hby d2_17) (1 : Int32) rfl 18 rfl ?_
  refine own_goto X4 hx (hb hby d2_18) 22 (by decide) (by decide) ?_
  exact own_retZ X4 hx hk hret (hb hby d2_22) rfl ⟨rfl, e4, rfl⟩ (by decide) (by decide)
theorem rm_spansHour_53 (l : Launch) (Z : State) (a0 : Array Value) (hw : own_HW Z a0) (ws : List Jvm.Cond)  (h0 : Heap) (n0 : Nat) {w_Role_LOAD w_Quantity_MOVEMENT w_Role_Period_INTERVAL w_Role_Period_HOUR w_Role_VIRTUAL_LOAD w_Quantity_RT w_Quantity_BID w_Quantity_ACTUAL w_Role_VIRTUAL_SUPPLY w_Quantity_DA w_Role_SUPPLIER w_Role_HUB_POI w_Quantity_PERFORMANCE w_Role_REGULATION w_Role_EXPORT w_Role_IMPORT w_Role_HUB_POW : Addr} (H : own_C Z h0 w_Role_LOAD w_Quantity_MOVEMENT w_Role_Period_INTERVAL w_Role_Period_HOUR w_Role_VIRTUAL_LOAD w_Quantity_RT w_Quantity_BID w_Quantity_ACTUAL w_Role_VIRTUAL_SUPPLY w_Quantity_DA w_Role_SUPPLIER w_Role_HUB_POI w_Quantity_PERFORMANCE w_Role_REGULATION w_Role_EXPORT w_Role_IMPORT w_Role_HUB_POW) :
    own_Met l (⟨"com/example/gridledger/gridledger/positions/Role", "spansHour", "(Lcom/example/gridledger/gridledger/positions/Quantity;)Z"⟩ : MethodName) prog_41_method_10_code 2 (some .boolean) ws (own_rm 1 0 0 12) Z #[(.ref w_Role_VIRTUAL_LOAD), (.ref w_Quantity_PERFORMANCE)] h0 (own_R (some (.int (1 : Int32))) h0) := by
  refine own_met (plainFor_of_name pn_2) ?_
  intro p e s m below meth c T0 hx hby hml hown hret hk hnm hZ X0 e0
  have hown : s.vm.findClass "com/example/gridledger/gridledger/positions/Role" = some m.cls := hown
  obtain ⟨-, -, -, -, -, -, S_w_Role_Period_HOUR, -, -, -, -, -, -, -, -, -, -, -, -, -, -, -, -, -, -, E_w_Quantity_PERFORMANCE, -, -, -, -, -, -, -, -, -, -, -, -, -, F_w_Role_VIRTUAL_LOAD_period, -, -, -, -, -, -, -, -, -, -, -, -⟩ := id H
  refine own_ent (ef_2 m w_Role_VIRTUAL_LOAD w_Quantity_PERFORMANCE) ?_
  refine own_aload_n X0 hx (hb hby d2_0) rfl rfl 1 rfl ?_
  refine own_pureV X0 hx hZ hown (own_w hw 19 rfl) (own_w hw 20 rfl) (notFace_of_selects (args := #[]) (mvT hZ (own_w hw 22 rfl))) (own_w hw 22 rfl) (own_w hw 21 rfl) (own_w hw 12 rfl) (own_w hw 23 rfl) (by decide) w_Quantity_PERFORMANCE [] [] 0 (rm_hourly_15 l Z a0 hw []  h0 n0 H) (by decide) (by decide) rfl rfl e0 E_w_Quantity_PERFORMANCE (by rw [hml]; rfl) (lenOf pd_2 rfl) (Nat.le_of_eq rfl) (hb hby d2_1) 4 rfl rfl (by decide) (by decide) fun T2 X2 e2 => ?_
  refine own_ifN X2 hx (hb hby d2_4) ((if0 _ _).trans (teq (by decide : (0 : Int32) = (0 : Int32))).2) 7 rfl ?_
  refine own_aload_n X2 hx (hb hby d2_7) rfl rfl 8 rfl ?_
  refine own_getF X2 hx hZ hown (host := "") (Or.inl (own_w hw 26 rfl)) Via.refl e2 F_w_Role_VIRTUAL_LOAD_period (hb hby d2_8) 11 rfl fun T3 X3 e3 => ?_
  refine own_getS X3 hx hZ hown (host := "") (Or.inl (own_w hw 30 rfl)) Via.refl e3 S_w_Role_Period_HOUR (hb hby d2_11) 14 rfl fun T4 X4 e4 => ?_
  refine own_acmp X4 hx true (hb hby d2_14) rfl rfl (decide_eq_true rfl) 17 (by decide) (by decide) ?_
  refine own_iconst X4 hx (hb hby d2_17) (1 : Int32) rfl 18 rfl ?_
  refine own_goto X4 hx (hb hby d2_18) 22 (by decide) (by decide) ?_
  exact own_retZ X4 hx hk hret (hb hby d2_22) rfl ⟨rfl, e4, rfl⟩ (by decide) (by decide)
theorem rm_spansHour_54 (l : Launch) (Z : State) (a0 : Array Value) (hw : own_HW Z a0) (ws : List Jvm.Cond)  (h0 : Heap) (n0 : Nat) {w_Role_LOAD w_Quantity_MOVEMENT w_Role_Period_INTERVAL w_Role_Period_HOUR w_Role_VIRTUAL_LOAD w_Quantity_RT w_Quantity_BID w_Quantity_ACTUAL w_Role_VIRTUAL_SUPPLY w_Quantity_DA w_Role_SUPPLIER w_Role_HUB_POI w_Quantity_PERFORMANCE w_Role_REGULATION w_Role_EXPORT w_Role_IMPORT w_Role_HUB_POW : Addr} (H : own_C Z h0 w_Role_LOAD w_Quantity_MOVEMENT w_Role_Period_INTERVAL w_Role_Period_HOUR w_Role_VIRTUAL_LOAD w_Quantity_RT w_Quantity_BID w_Quantity_ACTUAL w_Role_VIRTUAL_SUPPLY w_Quantity_DA w_Role_SUPPLIER w_Role_HUB_POI w_Quantity_PERFORMANCE w_Role_REGULATION w_Role_EXPORT w_Role_IMPORT w_Role_HUB_POW) :
    own_Met l (⟨"com/example/gridledger/gridledger/positions/Role", "spansHour", "(Lcom/example/gridledger/gridledger/positions/Quantity;)Z"⟩ : MethodName) prog_41_method_10_code 2 (some .boolean) ws (own_rm 1 0 0 12) Z #[(.ref w_Role_VIRTUAL_LOAD), (.ref w_Quantity_BID)] h0 (own_R (some (.int (1 : Int32))) h0) := by
  refine own_met (plainFor_of_name pn_2) ?_
  intro p e s m below meth c T0 hx hby hml hown hret hk hnm hZ X0 e0
  have hown : s.vm.findClass "com/example/gridledger/gridledger/positions/Role" = some m.cls := hown
  obtain ⟨-, -, -, -, -, -, -, -, -, -, -, -, -, E_w_Quantity_BID, -, -, -, -, -, -, -, -, -, -, -, -, -, -, -, -, -, -, -, -, -, -, -, -, -, -, -, -, -, -, -, -, -, -, -, -, -, -⟩ := id H
  refine own_ent (ef_2 m w_Role_VIRTUAL_LOAD w_Quantity_BID) ?_
  refine own_aload_n X0 hx (hb hby d2_0) rfl rfl 1 rfl ?_
  refine own_pureV X0 hx hZ hown (own_w hw 19 rfl) (own_w hw 20 rfl) (notFace_of_selects (args := #[]) (mvT hZ (own_w hw 22 rfl))) (own_w hw 22 rfl) (own_w hw 21 rfl) (own_w hw 12 rfl) (own_w hw 23 rfl) (by decide) w_Quantity_BID [] [] 0 (rm_hourly_18 l Z a0 hw []  h0 n0 H) (by decide) (by decide) rfl rfl e0 E_w_Quantity_BID (by rw [hml]; rfl) (lenOf pd_2 rfl) (Nat.le_of_eq rfl) (hb hby d2_1) 4 rfl rfl (by decide) (by decide) fun T2 X2 e2 => ?_
  refine own_ifY X2 hx (hb hby d2_4) ((if0 _ _).trans (feq (by decide : ¬ ((1 : Int32) = (0 : Int32)))).2) 17 (by decide) (by decide) ?_
  refine own_iconst X2 hx (hb hby d2_17) (1 : Int32) rfl 18 rfl ?_
  refine own_goto X2 hx (hb hby d2_18) 22 (by decide) (by decide) ?_
  exact own_retZ X2 hx hk hret (hb hby d2_22) rfl ⟨rfl, e2, rfl⟩ (by decide) (by decide)
theorem d0_53 : decode method_2_code 53 = .ok (.iload_n 0, 1) := by decide +kernel
theorem d0_54 : decode method_2_code 54 = .ok (.bipush 6, 2) := by decide +kernel
theorem d0_56 : decode method_2_code 56 = .ok (.if_icmp .ne 7, 3) := by decide +kernel
theorem d0_59 : decode method_2_code 59 = .ok (.getstatic 28, 3) := by decide +kernel
theorem d0_62 : decode method_2_code 62 = .ok (.areturn, 1) := by decide +kernel
theorem rm_role_55 (l : Launch) (Z : State) (a0 : Array Value) (hw : own_HW Z a0) (ws : List Jvm.Cond)  (h0 : Heap) (n0 : Nat) {w_Role_LOAD w_Quantity_MOVEMENT w_Role_Period_INTERVAL w_Role_Period_HOUR w_Role_VIRTUAL_LOAD w_Quantity_RT w_Quantity_BID w_Quantity_ACTUAL w_Role_VIRTUAL_SUPPLY w_Quantity_DA w_Role_SUPPLIER w_Role_HUB_POI w_Quantity_PERFORMANCE w_Role_REGULATION w_Role_EXPORT w_Role_IMPORT w_Role_HUB_POW : Addr} (H : own_C Z h0 w_Role_LOAD w_Quantity_MOVEMENT w_Role_Period_INTERVAL w_Role_Period_HOUR w_Role_VIRTUAL_LOAD w_Quantity_RT w_Quantity_BID w_Quantity_ACTUAL w_Role_VIRTUAL_SUPPLY w_Quantity_DA w_Role_SUPPLIER w_Role_HUB_POI w_Quantity_PERFORMANCE w_Role_REGULATION w_Role_EXPORT w_Role_IMPORT w_Role_HUB_POW) :
    own_Met l (⟨"com/example/gridledger/gridledger/positions/RoleSpansHourPinLaw", "role", "(I)Lcom/example/gridledger/gridledger/positions/Role;"⟩ : MethodName) method_2_code 1 (some (.object "com/example/gridledger/gridledger/positions/Role")) ws (own_rm 0 0 0 0) Z #[(.int (6 : Int32))] h0 (own_R (some (.ref w_Role_HUB_POI)) h0) := by
  refine own_met (plainFor_of_name pn_0) ?_
  intro p e s m below meth c T0 hx hby hml hown hret hk hnm hZ X0 e0
  have hown : s.vm.findClass "com/example/gridledger/gridledger/positions/RoleSpansHourPinLaw" = some m.cls := hown
  obtain ⟨-, -, -, -, -, -, -, -, -, -, -, -, -, -, -, -, -, -, -, -, -, -, S_w_Role_HUB_POI, -, -, -, -, -, -, -, -, -, -, -, -, -, -, -, -, -, -, -, -, -, -, -, -, -, -, -, -, -⟩ := id H
  refine own_ent (ef_0 m (6 : Int32)) ?_
  refine own_iload_n X0 hx (hb hby d0_0) rfl 1 rfl ?_
  refine own_ifY X0 hx (hb hby d0_1) ((if0 _ _).trans (feq (by decide : ¬ ((6 : Int32) = (0 : Int32)))).2) 8 (by decide) (by decide) ?_
  refine own_iload_n X0 hx (hb hby d0_8) rfl 9 rfl ?_
  refine own_iconst X0 hx (hb hby d0_9) (1 : Int32) rfl 10 rfl ?_
  refine own_icmpY X0 hx (hb hby d0_10) (feq (by decide : ¬ ((6 : Int32) = (1 : Int32)))).2 17 (by decide) (by decide) ?_
  refine own_iload_n X0 hx (hb hby d0_17) rfl 18 rfl ?_
  refine own_iconst X0 hx (hb hby d0_18) (2 : Int32) rfl 19 rfl ?_
  refine own_icmpY X0 hx (hb hby d0_19) (feq (by decide : ¬ ((6 : Int32) = (2 : Int32)))).2 26 (by decide) (by decide) ?_
  refine own_iload_n X0 hx (hb hby d0_26) rfl 27 rfl ?_
  refine own_iconst X0 hx (hb hby d0_27) (3 : Int32) rfl 28 rfl ?_
  refine own_icmpY X0 hx (hb hby d0_28) (feq (by decide : ¬ ((6 : Int32) = (3 : Int32)))).2 35 (by decide) (by decide) ?_
  refine own_iload_n X0 hx (hb hby d0_35) rfl 36 rfl ?_
  refine own_iconst X0 hx (hb hby d0_36) (4 : Int32) rfl 37 rfl ?_
  refine own_icmpY X0 hx (hb hby d0_37) (feq (by decide : ¬ ((6 : Int32) = (4 : Int32)))).2 44 (by decide) (by decide) ?_
  refine own_iload_n X0 hx (hb hby d0_44) rfl 45 rfl ?_
  refine own_iconst X0 hx (hb hby d0_45) (5 : Int32) rfl 46 rfl ?_
  refine own_icmpY X0 hx (hb hby d0_46) (feq (by decide : ¬ ((6 : Int32) = (5 : Int32)))).2 53 (by decide) (by decide) ?_
  refine own_iload_n X0 hx (hb hby d0_53) rfl 54 rfl ?_
  refine own_bipush X0 hx (hb hby d0_54) (6 : Int32) rfl 56 rfl ?_
  refine own_icmpN X0 hx (hb hby d0_56) (teq (by decide : (6 : Int32) = (6 : Int32))).2 59 rfl ?_
  refine own_getS X0 hx hZ hown (host := "") (Or.inl (own_w hw 46 rfl)) Via.refl e0 S_w_Role_HUB_POI (hb hby d0_59) 62 rfl fun T1 X1 e1 => ?_
  exact own_retA X1 hx hk hret rfl rfl (hb hby d0_62) rfl ⟨rfl, e1, rfl⟩ (by decide) (by decide)
theorem rm_spansHour_56 (l : Launch) (Z : State) (a0 : Array Value) (hw : own_HW Z a0) (ws : List Jvm.Cond)  (h0 : Heap) (n0 : Nat) {w_Role_LOAD w_Quantity_MOVEMENT w_Role_Period_INTERVAL w_Role_Period_HOUR w_Role_VIRTUAL_LOAD w_Quantity_RT w_Quantity_BID w_Quantity_ACTUAL w_Role_VIRTUAL_SUPPLY w_Quantity_DA w_Role_SUPPLIER w_Role_HUB_POI w_Quantity_PERFORMANCE w_Role_REGULATION w_Role_EXPORT w_Role_IMPORT w_Role_HUB_POW : Addr} (H : own_C Z h0 w_Role_LOAD w_Quantity_MOVEMENT w_Role_Period_INTERVAL w_Role_Period_HOUR w_Role_VIRTUAL_LOAD w_Quantity_RT w_Quantity_BID w_Quantity_ACTUAL w_Role_VIRTUAL_SUPPLY w_Quantity_DA w_Role_SUPPLIER w_Role_HUB_POI w_Quantity_PERFORMANCE w_Role_REGULATION w_Role_EXPORT w_Role_IMPORT w_Role_HUB_POW) :
    own_Met l (⟨"com/example/gridledger/gridledger/positions/Role", "spansHour", "(Lcom/example/gridledger/gridledger/positions/Quantity;)Z"⟩ : MethodName) prog_41_method_10_code 2 (some .boolean) ws (own_rm 1 0 0 12) Z #[(.ref w_Role_HUB_POI), (.ref w_Quantity_DA)] h0 (own_R (some (.int (1 : Int32))) h0) := by
  refine own_met (plainFor_of_name pn_2) ?_
  intro p e s m below meth c T0 hx hby hml hown hret hk hnm hZ X0 e0
  have hown : s.vm.findClass "com/example/gridledger/gridledger/positions/Role" = some m.cls := hown
  obtain ⟨-, -, -, -, -, -, -, -, -, -, -, -, -, -, -, -, -, -, -, E_w_Quantity_DA, -, -, -, -, -, -, -, -, -, -, -, -, -, -, -, -, -, -, -, -, -, -, -, -, -, -, -, -, -, -, -, -⟩ := id H
  refine own_ent (ef_2 m w_Role_HUB_POI w_Quantity_DA) ?_
  refine own_aload_n X0 hx (hb hby d2_0) rfl rfl 1 rfl ?_
  refine own_pureV X0 hx hZ hown (own_w hw 19 rfl) (own_w hw 20 rfl) (notFace_of_selects (args := #[]) (mvT hZ (own_w hw 22 rfl))) (own_w hw 22 rfl) (own_w hw 21 rfl) (own_w hw 12 rfl) (own_w hw 23 rfl) (by decide) w_Quantity_DA [] [] 0 (rm_hourly_3 l Z a0 hw []  h0 n0 H) (by decide) (by decide) rfl rfl e0 E_w_Quantity_DA (by rw [hml]; rfl) (lenOf pd_2 rfl) (Nat.le_of_eq rfl) (hb hby d2_1) 4 rfl rfl (by decide) (by decide) fun T2 X2 e2 => ?_
  refine own_ifY X2 hx (hb hby d2_4) ((if0 _ _).trans (feq (by decide : ¬ ((1 : Int32) = (0 : Int32)))).2) 17 (by decide) (by decide) ?_
  refine own_iconst X2 hx (hb hby d2_17) (1 : Int32) rfl 18 rfl ?_
  refine own_goto X2 hx (hb hby d2_18) 22 (by decide) (by decide) ?_
  exact own_retZ X2 hx hk hret (hb hby d2_22) rfl ⟨rfl, e2, rfl⟩ (by decide) (by decide)
theorem rm_spansHour_57 (l : Launch) (Z : State) (a0 : Array Value) (hw : own_HW Z a0) (ws : List Jvm.Cond)  (h0 : Heap) (n0 : Nat) {w_Role_LOAD w_Quantity_MOVEMENT w_Role_Period_INTERVAL w_Role_Period_HOUR w_Role_VIRTUAL_LOAD w_Quantity_RT w_Quantity_BID w_Quantity_ACTUAL w_Role_VIRTUAL_SUPPLY w_Quantity_DA w_Role_SUPPLIER w_Role_HUB_POI w_Quantity_PERFORMANCE w_Role_REGULATION w_Role_EXPORT w_Role_IMPORT w_Role_HUB_POW : Addr} (H : own_C Z h0 w_Role_LOAD w_Quantity_MOVEMENT w_Role_Period_INTERVAL w_Role_Period_HOUR w_Role_VIRTUAL_LOAD w_Quantity_RT w_Quantity_BID w_Quantity_ACTUAL w_Role_VIRTUAL_SUPPLY w_Quantity_DA w_Role_SUPPLIER w_Role_HUB_POI w_Quantity_PERFORMANCE w_Role_REGULATION w_Role_EXPORT w_Role_IMPORT w_Role_HUB_POW) :
    own_Met l (⟨"com/example/gridledger/gridledger/positions/Role", "spansHour", "(Lcom/example/gridledger/gridledger/positions/Quantity;)Z"⟩ : MethodName) prog_41_method_10_code 2 (some .boolean) ws (own_rm 1 0 0 12) Z #[(.ref w_Role_HUB_POI), (.ref w_Quantity_RT)] h0 (own_R (some (.int (1 : Int32))) h0) := by
  refine own_met (plainFor_of_name pn_2) ?_
  intro p e s m below meth c T0 hx hby hml hown hret hk hnm hZ X0 e0
  have hown : s.vm.findClass "com/example/gridledger/gridledger/positions/Role" = some m.cls := hown
  obtain ⟨-, -, -, -, -, -, S_w_Role_Period_HOUR, -, -, -, -, E_w_Quantity_RT, -, -, -, -, -, -, -, -, -, -, -, -, -, -, -, -, -, -, -, -, -, -, -, -, -, -, -, -, -, -, -, -, -, F_w_Role_HUB_POI_period, -, -, -, -, -, -⟩ := id H
  refine own_ent (ef_2 m w_Role_HUB_POI w_Quantity_RT) ?_
  refine own_aload_n X0 hx (hb hby d2_0) rfl rfl 1 rfl ?_
  refine own_pureV X0 hx hZ hown (own_w hw 19 rfl) (own_w hw 20 rfl) (notFace_of_selects (args := #[]) (mvT hZ (own_w hw 22 rfl))) (own_w hw 22 rfl) (own_w hw 21 rfl) (own_w hw 12 rfl) (own_w hw 23 rfl) (by decide) w_Quantity_RT [] [] 0 (rm_hourly_6 l Z a0 hw []  h0 n0 H) (by decide) (by decide) rfl rfl e0 E_w_Quantity_RT (by rw [hml]; rfl) (lenOf pd_2 rfl) (Nat.le_of_eq rfl) (hb hby d2_1) 4 rfl rfl (by decide) (by decide) fun T2 X2 e2 => ?_
  refine own_ifN X2 hx (hb hby d2_4) ((if0 _ _).trans (teq (by decide : (0 : Int32) = (0 : Int32))).2) 7 rfl ?_
  refine own_aload_n X2 hx (hb hby d2_7) rfl rfl 8 rfl ?_
  refine own_getF X2 hx hZ hown (host := "") (Or.inl (own_w hw 26 rfl)) Via.refl e2 F_w_Role_HUB_POI_period (hb hby d2_8) 11 rfl fun T3 X3 e3 => ?_
  refine own_getS X3 hx hZ hown (host := "") (Or.inl (own_w hw 30 rfl)) Via.refl e3 S_w_Role_Period_HOUR (hb hby d2_11) 14 rfl fun T4 X4 e4 => ?_
  refine own_acmp X4 hx true (hb hby d2_14) rfl rfl (decide_eq_true rfl) 17 (by decide) (by decide) ?_
  refine own_iconst X4 hx (hb hby d2_17) (1 : Int32) rfl 18 rfl ?_
  refine own_goto X4 hx (hb hby d2_18) 22 (by decide) (by decide) ?_
  exact own_retZ X4 hx hk hret (hb hby d2_22) rfl ⟨rfl, e4, rfl⟩ (by decide) (by decide)
theorem rm_spansHour_58 (l : Launch) (Z : State) (a0 : Array Value) (hw : own_HW Z a0) (ws : List Jvm.Cond)  (h0 : Heap) (n0 : Nat) {w_Role_LOAD w_Quantity_MOVEMENT w_Role_Period_INTERVAL w_Role_Period_HOUR w_Role_VIRTUAL_LOAD w_Quantity_RT w_Quantity_BID w_Quantity_ACTUAL w_Role_VIRTUAL_SUPPLY w_Quantity_DA w_Role_SUPPLIER w_Role_HUB_POI w_Quantity_PERFORMANCE w_Role_REGULATION w_Role_EXPORT w_Role_IMPORT w_Role_HUB_POW : Addr} (H : own_C Z h0 w_Role_LOAD w_Quantity_MOVEMENT w_Role_Period_INTERVAL w_Role_Period_HOUR w_Role_VIRTUAL_LOAD w_Quantity_RT w_Quantity_BID w_Quantity_ACTUAL w_Role_VIRTUAL_SUPPLY w_Quantity_DA w_Role_SUPPLIER w_Role_HUB_POI w_Quantity_PERFORMANCE w_Role_REGULATION w_Role_EXPORT w_Role_IMPORT w_Role_HUB_POW) :
    own_Met l (⟨"com/example/gridledger/gridledger/positions/Role", "spansHour", "(Lcom/example/gridledger/gridledger/positions/Quantity;)Z"⟩ : MethodName) prog_41_method_10_code 2 (some .boolean) ws (own_rm 1 0 0 12) Z #[(.ref w_Role_HUB_POI), (.ref w_Quantity_ACTUAL)] h0 (own_R (some (.int (1 : Int32))) h0) := by
  refine own_met (plainFor_of_name pn_2) ?_
  intro p e s m below meth c T0 hx hby hml hown hret hk hnm hZ X0 e0
  have hown : s.vm.findClass "com/example/gridledger/gridledger/positions/Role" = some m.cls := hown
  obtain ⟨-, -, -, -, -, -, S_w_Role_Period_HOUR, -, -, -, -, -, -, -, -, E_w_Quantity_ACTUAL, -, -, -, -, -, -, -, -, -, -, -, -, -, -, -, -, -, -, -, -, -, -, -, -, -, -, -, -, -, F_w_Role_HUB_POI_period, -, -, -, -, -, -⟩ := id H
  refine own_ent (ef_2 m w_Role_HUB_POI w_Quantity_ACTUAL) ?_
  refine own_aload_n X0 hx (hb hby d2_0) rfl rfl 1 rfl ?_
  refine own_pureV X0 hx hZ hown (own_w hw 19 rfl) (own_w hw 20 rfl) (notFace_of_selects (args := #[]) (mvT hZ (own_w hw 22 rfl))) (own_w hw 22 rfl) (own_w hw 21 rfl) (own_w hw 12 rfl) (own_w hw 23 rfl) (by decide) w_Quantity_ACTUAL [] [] 0 (rm_hourly_9 l Z a0 hw []  h0 n0 H) (by decide) (by decide) rfl rfl e0 E_w_Quantity_ACTUAL (by rw [hml]; rfl) (lenOf pd_2 rfl) (Nat.le_of_eq rfl) (hb hby d2_1) 4 rfl rfl (by decide) (by decide) fun T2 X2 e2 => ?_
  refine own_ifN X2 hx (hb hby d2_4) ((if0 _ _).trans (teq (by decide : (0 : Int32) = (0 : Int32))).2) 7 rfl ?_
  refine own_aload_n X2 hx (hb hby d2_7) rfl rfl 8 rfl ?_
  refine own_getF X2 hx hZ hown (host := "") (Or.inl (own_w hw 26 rfl)) Via.refl e2 F_w_Role_HUB_POI_period (hb hby d2_8) 11 rfl fun T3 X3 e3 => ?_
  refine own_getS X3 hx hZ hown (host := "") (Or.inl (own_w hw 30 rfl)) Via.refl e3 S_w_Role_Period_HOUR (hb hby d2_11) 14 rfl fun T4 X4 e4 => ?_
  refine own_acmp X4 hx true (hb hby d2_14) rfl rfl (decide_eq_true rfl) 17 (by decide) (by decide) ?_
  refine own_iconst X4 hx (hb hby d2_17) (1 : Int32) rfl 18 rfl ?_
  refine own_goto X4 hx (hb hby d2_18) 22 (by decide) (by decide) ?_
  exact own_retZ X4 hx hk hret (hb hby d2_22) rfl ⟨rfl, e4, rfl⟩ (by decide) (by decide)
theorem rm_spansHour_59 (l : Launch) (Z : State) (a0 : Array Value) (hw : own_HW Z a0) (ws : List Jvm.Cond)  (h0 : Heap) (n0 : Nat) {w_Role_LOAD w_Quantity_MOVEMENT w_Role_Period_INTERVAL w_Role_Period_HOUR w_Role_VIRTUAL_LOAD w_Quantity_RT w_Quantity_BID w_Quantity_ACTUAL w_Role_VIRTUAL_SUPPLY w_Quantity_DA w_Role_SUPPLIER w_Role_HUB_POI w_Quantity_PERFORMANCE w_Role_REGULATION w_Role_EXPORT w_Role_IMPORT w_Role_HUB_POW : Addr} (H : own_C Z h0 w_Role_LOAD w_Quantity_MOVEMENT w_Role_Period_INTERVAL w_Role_Period_HOUR w_Role_VIRTUAL_LOAD w_Quantity_RT w_Quantity_BID w_Quantity_ACTUAL w_Role_VIRTUAL_SUPPLY w_Quantity_DA w_Role_SUPPLIER w_Role_HUB_POI w_Quantity_PERFORMANCE w_Role_REGULATION w_Role_EXPORT w_Role_IMPORT w_Role_HUB_POW) :
    own_Met l (⟨"com/example/gridledger/gridledger/positions/Role", "spansHour", "(Lcom/example/gridledger/gridledger/positions/Quantity;)Z"⟩ : MethodName) prog_41_method_10_code 2 (some .boolean) ws (own_rm 1 0 0 12) Z #[(.ref w_Role_HUB_POI), (.ref w_Quantity_MOVEMENT)] h0 (own_R (some (.int (1 : Int32))) h0) := by
  refine own_met (plainFor_of_name pn_2) ?_
  intro p e s m below meth c T0 hx hby hml hown hret hk hnm hZ X0 e0
  have hown : s.vm.findClass "com/example/gridledger/gridledger/positions/Role" = some m.cls := hown
  obtain ⟨-, -, -, E_w_Quantity_MOVEMENT, -, -, S_w_Role_Period_HOUR, -, -, -, -, -, -, -, -, -, -, -, -, -, -, -, -, -, -, -, -, -, -, -, -, -, -, -, -, -, -, -, -, -, -, -, -, -, -, F_w_Role_HUB_POI_period, -, -, -, -, -, -⟩ := id H
  refine own_ent (ef_2 m w_Role_HUB_POI w_Quantity_MOVEMENT) ?_
  refine own_aload_n X0 hx (hb hby d2_0) rfl rfl 1 rfl ?_
  refine own_pureV X0 hx hZ hown (own_w hw 19 rfl) (own_w hw 20 rfl) (notFace_of_selects (args := #[]) (mvT hZ (own_w hw 22 rfl))) (own_w hw 22 rfl) (own_w hw 21 rfl) (own_w hw 12 rfl) (own_w hw 23 rfl) (by decide) w_Quantity_MOVEMENT [] [] 0 (rm_hourly_12 l Z a0 hw []  h0 n0 H) (by decide) (by decide) rfl rfl e0 E_w_Quantity_MOVEMENT (by rw [hml]; rfl) (lenOf pd_2 rfl) (Nat.le_of_eq rfl) (hb hby d2_1) 4 rfl rfl (by decide) (by decide) fun T2 X2 e2 => ?_
  refine own_ifN X2 hx (hb hby d2_4) ((if0 _ _).trans (teq (by decide : (0 : Int32) = (0 : Int32))).2) 7 rfl ?_
  refine own_aload_n X2 hx (hb hby d2_7) rfl rfl 8 rfl ?_
  refine own_getF X2 hx hZ hown (host := "") (Or.inl (own_w hw 26 rfl)) Via.refl e2 F_w_Role_HUB_POI_period (hb hby d2_8) 11 rfl fun T3 X3 e3 => ?_
  refine own_getS X3 hx hZ hown (host := "") (Or.inl (own_w hw 30 rfl)) Via.refl e3 S_w_Role_Period_HOUR (hb hby d2_11) 14 rfl fun T4 X4 e4 => ?_
  refine own_acmp X4 hx true (hb hby d2_14) rfl rfl (decide_eq_true rfl) 17 (by decide) (by decide) ?_
  refine own_iconst X4 hx (hb hby d2_17) (1 : Int32) rfl 18 rfl ?_
  refine own_goto X4 hx (hb hby d2_18) 22 (by decide) (by decide) ?_
  exact own_retZ X4 hx hk hret (hb hby d2_22) rfl ⟨rfl, e4, rfl⟩ (by decide) (by decide)
theorem rm_spansHour_60 (l : Launch) (Z : State) (a0 : Array Value) (hw : own_HW Z a0) (ws : List Jvm.Cond)  (h0 : Heap) (n0 : Nat) {w_Role_LOAD w_Quantity_MOVEMENT w_Role_Period_INTERVAL w_Role_Period_HOUR w_Role_VIRTUAL_LOAD w_Quantity_RT w_Quantity_BID w_Quantity_ACTUAL w_Role_VIRTUAL_SUPPLY w_Quantity_DA w_Role_SUPPLIER w_Role_HUB_POI w_Quantity_PERFORMANCE w_Role_REGULATION w_Role_EXPORT w_Role_IMPORT w_Role_HUB_POW : Addr} (H : own_C Z h0 w_Role_LOAD w_Quantity_MOVEMENT w_Role_Period_INTERVAL w_Role_Period_HOUR w_Role_VIRTUAL_LOAD w_Quantity_RT w_Quantity_BID w_Quantity_ACTUAL w_Role_VIRTUAL_SUPPLY w_Quantity_DA w_Role_SUPPLIER w_Role_HUB_POI w_Quantity_PERFORMANCE w_Role_REGULATION w_Role_EXPORT w_Role_IMPORT w_Role_HUB_POW) :
    own_Met l (⟨"com/example/gridledger/gridledger/positions/Role", "spansHour", "(Lcom/example/gridledger/gridledger/positions/Quantity;)Z"⟩ : MethodName) prog_41_method_10_code 2 (some .boolean) ws (own_rm 1 0 0 12) Z #[(.ref w_Role_HUB_POI), (.ref w_Quantity_PERFORMANCE)] h0 (own_R (some (.int (1 : Int32))) h0) := by
  refine own_met (plainFor_of_name pn_2) ?_
  intro p e s m below meth c T0 hx hby hml hown hret hk hnm hZ X0 e0
  have hown : s.vm.findClass "com/example/gridledger/gridledger/positions/Role" = some m.cls := hown
  obtain ⟨-, -, -, -, -, -, S_w_Role_Period_HOUR, -, -, -, -, -, -, -, -, -, -, -, -, -, -, -, -, -, -, E_w_Quantity_PERFORMANCE, -, -, -, -, -, -, -, -, -, -, -, -, -, -, -, -, -, -, -, F_w_Role_HUB_POI_period, -, -, -, -, -, -⟩ := id H
  refine own_ent (ef_2 m w_Role_HUB_POI w_Quantity_PERFORMANCE) ?_
  refine own_aload_n X0 hx (hb hby d2_0) rfl rfl 1 rfl ?_
  refine own_pureV X0 hx hZ hown (own_w hw 19 rfl) (own_w hw 20 rfl) (notFace_of_selects (args := #[]) (mvT hZ (own_w hw 22 rfl))) (own_w hw 22 rfl) (own_w hw 21 rfl) (own_w hw 12 rfl) (own_w hw 23 rfl) (by decide) w_Quantity_PERFORMANCE [] [] 0 (rm_hourly_15 l Z a0 hw []  h0 n0 H) (by decide) (by decide) rfl rfl e0 E_w_Quantity_PERFORMANCE (by rw [hml]; rfl) (lenOf pd_2 rfl) (Nat.le_of_eq rfl) (hb hby d2_1) 4 rfl rfl (by decide) (by decide) fun T2 X2 e2 => ?_
  refine own_ifN X2 hx (hb hby d2_4) ((if0 _ _).trans (teq (by decide : (0 : Int32) = (0 : Int32))).2) 7 rfl ?_
  refine own_aload_n X2 hx (hb hby d2_7) rfl rfl 8 rfl ?_
  refine own_getF X2 hx hZ hown (host := "") (Or.inl (own_w hw 26 rfl)) Via.refl e2 F_w_Role_HUB_POI_period (hb hby d2_8) 11 rfl fun T3 X3 e3 => ?_
  refine own_getS X3 hx hZ hown (host := "") (Or.inl (own_w hw 30 rfl)) Via.refl e3 S_w_Role_Period_HOUR (hb hby d2_11) 14 rfl fun T4 X4 e4 => ?_
  refine own_acmp X4 hx true (hb hby d2_14) rfl rfl (decide_eq_true rfl) 17 (by decide) (by decide) ?_
  refine own_iconst X4 hx (hb hby d2_17) (1 : Int32) rfl 18 rfl ?_
  refine own_goto X4 hx (hb hby d2_18) 22 (by decide) (by decide) ?_
  exact own_retZ X4 hx hk hret (hb hby d2_22) rfl ⟨rfl, e4, rfl⟩ (by decide) (by decide)
theorem rm_spansHour_61 (l : Launch) (Z : State) (a0 : Array Value) (hw : own_HW Z a0) (ws : List Jvm.Cond)  (h0 : Heap) (n0 : Nat) {w_Role_LOAD w_Quantity_MOVEMENT w_Role_Period_INTERVAL w_Role_Period_HOUR w_Role_VIRTUAL_LOAD w_Quantity_RT w_Quantity_BID w_Quantity_ACTUAL w_Role_VIRTUAL_SUPPLY w_Quantity_DA w_Role_SUPPLIER w_Role_HUB_POI w_Quantity_PERFORMANCE w_Role_REGULATION w_Role_EXPORT w_Role_IMPORT w_Role_HUB_POW : Addr} (H : own_C Z h0 w_Role_LOAD w_Quantity_MOVEMENT w_Role_Period_INTERVAL w_Role_Period_HOUR w_Role_VIRTUAL_LOAD w_Quantity_RT w_Quantity_BID w_Quantity_ACTUAL w_Role_VIRTUAL_SUPPLY w_Quantity_DA w_Role_SUPPLIER w_Role_HUB_POI w_Quantity_PERFORMANCE w_Role_REGULATION w_Role_EXPORT w_Role_IMPORT w_Role_HUB_POW) :
    own_Met l (⟨"com/example/gridledger/gridledger/positions/Role", "spansHour", "(Lcom/example/gridledger/gridledger/positions/Quantity;)Z"⟩ : MethodName) prog_41_method_10_code 2 (some .boolean) ws (own_rm 1 0 0 12) Z #[(.ref w_Role_HUB_POI), (.ref w_Quantity_BID)] h0 (own_R (some (.int (1 : Int32))) h0) := by
  refine own_met (plainFor_of_name pn_2) ?_
  intro p e s m below meth c T0 hx hby hml hown hret hk hnm hZ X0 e0
  have hown : s.vm.findClass "com/example/gridledger/gridledger/positions/Role" = some m.cls := hown
  obtain ⟨-, -, -, -, -, -, -, -, -, -, -, -, -, E_w_Quantity_BID, -, -, -, -, -, -, -, -, -, -, -, -, -, -, -, -, -, -, -, -, -, -, -, -, -, -, -, -, -, -, -, -, -, -, -, -, -, -⟩ := id H
  refine own_ent (ef_2 m w_Role_HUB_POI w_Quantity_BID) ?_
  refine own_aload_n X0 hx (hb hby d2_0) rfl rfl 1 rfl ?_
  refine own_pureV X0 hx hZ hown (own_w hw 19 rfl) (own_w hw 20 rfl) (notFace_of_selects (args := #[]) (mvT hZ (own_w hw 22 rfl))) (own_w hw 22 rfl) (own_w hw 21 rfl) (own_w hw 12 rfl) (own_w hw 23 rfl) (by decide) w_Quantity_BID [] [] 0 (rm_hourly_18 l Z a0 hw []  h0 n0 H) (by decide) (by decide) rfl rfl e0 E_w_Quantity_BID (by rw [hml]; rfl) (lenOf pd_2 rfl) (Nat.le_of_eq rfl) (hb hby d2_1) 4 rfl rfl (by decide) (by decide) fun T2 X2 e2 => ?_
  refine own_ifY X2 hx (hb hby d2_4) ((if0 _ _).trans (feq (by decide : ¬ ((1 : Int32) = (0 : Int32)))).2) 17 (by decide) (by decide) ?_
  refine own_iconst X2 hx (hb hby d2_17) (1 : Int32) rfl 18 rfl ?_
  refine own_goto X2 hx (hb hby d2_18) 22 (by decide) (by decide) ?_
  exact own_retZ X2 hx hk hret (hb hby d2_22) rfl ⟨rfl, e2, rfl⟩ (by decide) (by decide)
theorem d0_63 : decode method_2_code 63 = .ok (.iload_n 0, 1) := by decide +kernel
theorem d0_64 : decode method_2_code 64 = .ok (.bipush 7, 2) := by decide +kernel
theorem d0_66 : decode method_2_code 66 = .ok (.if_icmp .ne 7, 3) := by decide +kernel
theorem d0_69 : decode method_2_code 69 = .ok (.getstatic 31, 3) := by decide +kernel
theorem d0_72 : decode method_2_code 72 = .ok (.areturn, 1) := by decide +kernel
theorem rm_role_62 (l : Launch) (Z : State) (a0 : Array Value) (hw : own_HW Z a0) (ws : List Jvm.Cond)  (h0 : Heap) (n0 : Nat) {w_Role_LOAD w_Quantity_MOVEMENT w_Role_Period_INTERVAL w_Role_Period_HOUR w_Role_VIRTUAL_LOAD w_Quantity_RT w_Quantity_BID w_Quantity_ACTUAL w_Role_VIRTUAL_SUPPLY w_Quantity_DA w_Role_SUPPLIER w_Role_HUB_POI w_Quantity_PERFORMANCE w_Role_REGULATION w_Role_EXPORT w_Role_IMPORT w_Role_HUB_POW : Addr} (H : own_C Z h0 w_Role_LOAD w_Quantity_MOVEMENT w_Role_Period_INTERVAL w_Role_Period_HOUR w_Role_VIRTUAL_LOAD w_Quantity_RT w_Quantity_BID w_Quantity_ACTUAL w_Role_VIRTUAL_SUPPLY w_Quantity_DA w_Role_SUPPLIER w_Role_HUB_POI w_Quantity_PERFORMANCE w_Role_REGULATION w_Role_EXPORT w_Role_IMPORT w_Role_HUB_POW) :
    own_Met l (⟨"com/example/gridledger/gridledger/positions/RoleSpansHourPinLaw", "role", "(I)Lcom/example/gridledger/gridledger/positions/Role;"⟩ : MethodName) method_2_code 1 (some (.object "com/example/gridledger/gridledger/positions/Role")) ws (own_rm 0 0 0 0) Z #[(.int (7 : Int32))] h0 (own_R (some (.ref w_Role_HUB_POW)) h0) := by
  refine own_met (plainFor_of_name pn_0) ?_
  intro p e s m below meth c T0 hx hby hml hown hret hk hnm hZ X0 e0
  have hown : s.vm.findClass "com/example/gridledger/gridledger/positions/RoleSpansHourPinLaw" = some m.cls := hown
  obtain ⟨-, -, -, -, -, -, -, -, -, -, -, -, -, -, -, -, -, -, -, -, -, -, -, -, -, -, -, -, -, -, -, -, S_w_Role_HUB_POW, -, -, -, -, -, -, -, -, -, -, -, -, -, -, -, -, -, -, -⟩ := id H
  refine own_ent (ef_0 m (7 : Int32)) ?_
  refine own_iload_n X0 hx (hb hby d0_0) rfl 1 rfl ?_
  refine own_ifY X0 hx (hb hby d0_1) ((if0 _ _).trans (feq (by decide : ¬ ((7 : Int32) = (0 : Int32)))).2) 8 (by decide) (by decide) ?_
  refine own_iload_n X0 hx (hb hby d0_8) rfl 9 rfl ?_
  refine own_iconst X0 hx (hb hby d0_9) (1 : Int32) rfl 10 rfl ?_
  refine own_icmpY X0 hx (hb hby d0_10) (feq (by decide : ¬ ((7 : Int32) = (1 : Int32)))).2 17 (by decide) (by decide) ?_
  refine own_iload_n X0 hx (hb hby d0_17) rfl 18 rfl ?_
  refine own_iconst X0 hx (hb hby d0_18) (2 : Int32) rfl 19 rfl ?_
  refine own_icmpY X0 hx (hb hby d0_19) (feq (by decide : ¬ ((7 : Int32) = (2 : Int32)))).2 26 (by decide) (by decide) ?_
  refine own_iload_n X0 hx (hb hby d0_26) rfl 27 rfl ?_
  refine own_iconst X0 hx (hb hby d0_27) (3 : Int32) rfl 28 rfl ?_
  refine own_icmpY X0 hx (hb hby d0_28) (feq (by decide : ¬ ((7 : Int32) = (3 : Int32)))).2 35 (by decide) (by decide) ?_
  refine own_iload_n X0 hx (hb hby d0_35) rfl 36 rfl ?_
  refine own_iconst X0 hx (hb hby d0_36) (4 : Int32) rfl 37 rfl ?_
  refine own_icmpY X0 hx (hb hby d0_37) (feq (by decide : ¬ ((7 : Int32) = (4 : Int32)))).2 44 (by decide) (by decide) ?_
  refine own_iload_n X0 hx (hb hby d0_44) rfl 45 rfl ?_
  refine own_iconst X0 hx (hb hby d0_45) (5 : Int32) rfl 46 rfl ?_
  refine own_icmpY X0 hx (hb hby d0_46) (feq (by decide : ¬ ((7 : Int32) = (5 : Int32)))).2 53 (by decide) (by decide) ?_
  refine own_iload_n X0 hx (hb hby d0_53) rfl 54 rfl ?_
  refine own_bipush X0 hx (hb hby d0_54) (6 : Int32) rfl 56 rfl ?_
  refine own_icmpY X0 hx (hb hby d0_56) (feq (by decide : ¬ ((7 : Int32) = (6 : Int32)))).2 63 (by decide) (by decide) ?_
  refine own_iload_n X0 hx (hb hby d0_63) rfl 64 rfl ?_
  refine own_bipush X0 hx (hb hby d0_64) (7 : Int32) rfl 66 rfl ?_
  refine own_icmpN X0 hx (hb hby d0_66) (teq (by decide : (7 : Int32) = (7 : Int32))).2 69 rfl ?_
  refine own_getS X0 hx hZ hown (host := "") (Or.inl (own_w hw 56 rfl)) Via.refl e0 S_w_Role_HUB_POW (hb hby d0_69) 72 rfl fun T1 X1 e1 => ?_
  exact own_retA X1 hx hk hret rfl rfl (hb hby d0_72) rfl ⟨rfl, e1, rfl⟩ (by decide) (by decide)
theorem rm_spansHour_63 (l : Launch) (Z : State) (a0 : Array Value) (hw : own_HW Z a0) (ws : List Jvm.Cond)  (h0 : Heap) (n0 : Nat) {w_Role_LOAD w_Quantity_MOVEMENT w_Role_Period_INTERVAL w_Role_Period_HOUR w_Role_VIRTUAL_LOAD w_Quantity_RT w_Quantity_BID w_Quantity_ACTUAL w_Role_VIRTUAL_SUPPLY w_Quantity_DA w_Role_SUPPLIER w_Role_HUB_POI w_Quantity_PERFORMANCE w_Role_REGULATION w_Role_EXPORT w_Role_IMPORT w_Role_HUB_POW : Addr} (H : own_C Z h0 w_Role_LOAD w_Quantity_MOVEMENT w_Role_Period_INTERVAL w_Role_Period_HOUR w_Role_VIRTUAL_LOAD w_Quantity_RT w_Quantity_BID w_Quantity_ACTUAL w_Role_VIRTUAL_SUPPLY w_Quantity_DA w_Role_SUPPLIER w_Role_HUB_POI w_Quantity_PERFORMANCE w_Role_REGULATION w_Role_EXPORT w_Role_IMPORT w_Role_HUB_POW) :
    own_Met l (⟨"com/example/gridledger/gridledger/positions/Role", "spansHour", "(Lcom/example/gridledger/gridledger/positions/Quantity;)Z"⟩ : MethodName) prog_41_method_10_code 2 (some .boolean) ws (own_rm 1 0 0 12) Z #[(.ref w_Role_HUB_POW), (.ref w_Quantity_DA)] h0 (own_R (some (.int (1 : Int32))) h0) := by
  refine own_met (plainFor_of_name pn_2) ?_
  intro p e s m below meth c T0 hx hby hml hown hret hk hnm hZ X0 e0
  have hown : s.vm.findClass "com/example/gridledger/gridledger/positions/Role" = some m.cls := hown
  obtain ⟨-, -, -, -, -, -, -, -, -, -, -, -, -, -, -, -, -, -, -, E_w_Quantity_DA, -, -, -, -, -, -, -, -, -, -, -, -, -, -, -, -, -, -, -, -, -, -, -, -, -, -, -, -, -, -, -, -⟩ := id H
  refine own_ent (ef_2 m w_Role_HUB_POW w_Quantity_DA) ?_
  refine own_aload_n X0 hx (hb hby d2_0) rfl rfl 1 rfl ?_
  refine own_pureV X0 hx hZ hown (own_w hw 19 rfl) (own_w hw 20 rfl) (notFace_of_selects (args := #[]) (mvT hZ (own_w hw 22 rfl))) (own_w hw 22 rfl) (own_w hw 21 rfl) (own_w hw 12 rfl) (own_w hw 23 rfl) (by decide) w_Quantity_DA [] [] 0 (rm_hourly_3 l Z a0 hw []  h0 n0 H) (by decide) (by decide) rfl rfl e0 E_w_Quantity_DA (by rw [hml]; rfl) (lenOf pd_2 rfl) (Nat.le_of_eq rfl) (hb hby d2_1) 4 rfl rfl (by decide) (by decide) fun T2 X2 e2 => ?_
  refine own_ifY X2 hx (hb hby d2_4) ((if0 _ _).trans (feq (by decide : ¬ ((1 : Int32) = (0 : Int32)))).2) 17 (by decide) (by decide) ?_
  refine own_iconst X2 hx (hb hby d2_17) (1 : Int32) rfl 18 rfl ?_
  refine own_goto X2 hx (hb hby d2_18) 22 (by decide) (by decide) ?_
  exact own_retZ X2 hx hk hret (hb hby d2_22) rfl ⟨rfl, e2, rfl⟩ (by decide) (by decide)
theorem rm_spansHour_64 (l : Launch) (Z : State) (a0 : Array Value) (hw : own_HW Z a0) (ws : List Jvm.Cond)  (h0 : Heap) (n0 : Nat) {w_Role_LOAD w_Quantity_MOVEMENT w_Role_Period_INTERVAL w_Role_Period_HOUR w_Role_VIRTUAL_LOAD w_Quantity_RT w_Quantity_BID w_Quantity_ACTUAL w_Role_VIRTUAL_SUPPLY w_Quantity_DA w_Role_SUPPLIER w_Role_HUB_POI w_Quantity_PERFORMANCE w_Role_REGULATION w_Role_EXPORT w_Role_IMPORT w_Role_HUB_POW : Addr} (H : own_C Z h0 w_Role_LOAD w_Quantity_MOVEMENT w_Role_Period_INTERVAL w_Role_Period_HOUR w_Role_VIRTUAL_LOAD w_Quantity_RT w_Quantity_BID w_Quantity_ACTUAL w_Role_VIRTUAL_SUPPLY w_Quantity_DA w_Role_SUPPLIER w_Role_HUB_POI w_Quantity_PERFORMANCE w_Role_REGULATION w_Role_EXPORT w_Role_IMPORT w_Role_HUB_POW) :
    own_Met l (⟨"com/example/gridledger/gridledger/positions/Role", "spansHour", "(Lcom/example/gridledger/gridledger/positions/Quantity;)Z"⟩ : MethodName) prog_41_method_10_code 2 (some .boolean) ws (own_rm 1 0 0 12) Z #[(.ref w_Role_HUB_POW), (.ref w_Quantity_RT)] h0 (own_R (some (.int (1 : Int32))) h0) := by
  refine own_met (plainFor_of_name pn_2) ?_
  intro p e s m below meth c T0 hx hby hml hown hret hk hnm hZ X0 e0
  have hown : s.vm.findClass "com/example/gridledger/gridledger/positions/Role" = some m.cls := hown
  obtain ⟨-, -, -, -, -, -, S_w_Role_Period_HOUR, -, -, -, -, E_w_Quantity_RT, -, -, -, -, -, -, -, -, -, -, -, -, -, -, -, -, -, -, -, -, -, -, -, -, -, -, -, -, -, -, -, -, -, -, -, -, -, -, F_w_Role_HUB_POW_period, -⟩ := id H
  refine own_ent (ef_2 m w_Role_HUB_POW w_Quantity_RT) ?_
  refine own_aload_n X0 hx (hb hby d2_0) rfl rfl 1 rfl ?_
  refine own_pureV X0 hx hZ hown (own_w hw 19 rfl) (own_w hw 20 rfl) (notFace_of_selects (args := #[]) (mvT hZ (own_w hw 22 rfl))) (own_w hw 22 rfl) (own_w hw 21 rfl) (own_w hw 12 rfl) (own_w hw 23 rfl) (by decide) w_Quantity_RT [] [] 0 (rm_hourly_6 l Z a0 hw []  h0 n0 H) (by decide) (by decide) rfl rfl e0 E_w_Quantity_RT (by rw [hml]; rfl) (lenOf pd_2 rfl) (Nat.le_of_eq rfl) (hb hby d2_1) 4 rfl rfl (by decide) (by decide) fun T2 X2 e2 => ?_
  refine own_ifN X2 hx (hb hby d2_4) ((if0 _ _).trans (teq (by decide : (0 : Int32) = (0 : Int32))).2) 7 rfl ?_
  refine own_aload_n X2 hx (hb hby d2_7) rfl rfl 8 rfl ?_
  refine own_getF X2 hx hZ hown (host := "") (Or.inl (own_w hw 26 rfl)) Via.refl e2 F_w_Role_HUB_POW_period (hb hby d2_8) 11 rfl fun T3 X3 e3 => ?_
  refine own_getS X3 hx hZ hown (host := "") (Or.inl (own_w hw 30 rfl)) Via.refl e3 S_w_Role_Period_HOUR (hb hby d2_11) 14 rfl fun T4 X4 e4 => ?_
  refine own_acmp X4 hx true (hb hby d2_14) rfl rfl (decide_eq_true rfl) 17 (by decide) (by decide) ?_
  refine own_iconst X4 hx (hb hby d2_17) (1 : Int32) rfl 18 rfl ?_
  refine own_goto X4 hx (hb hby d2_18) 22 (by decide) (by decide) ?_
  exact own_retZ X4 hx hk hret (hb hby d2_22) rfl ⟨rfl, e4, rfl⟩ (by decide) (by decide)
theorem rm_spansHour_65 (l : Launch) (Z : State) (a0 : Array Value) (hw : own_HW Z a0) (ws : List Jvm.Cond)  (h0 : Heap) (n0 : Nat) {w_Role_LOAD w_Quantity_MOVEMENT w_Role_Period_INTERVAL w_Role_Period_HOUR w_Role_VIRTUAL_LOAD w_Quantity_RT w_Quantity_BID w_Quantity_ACTUAL w_Role_VIRTUAL_SUPPLY w_Quantity_DA w_Role_SUPPLIER w_Role_HUB_POI w_Quantity_PERFORMANCE w_Role_REGULATION w_Role_EXPORT w_Role_IMPORT w_Role_HUB_POW : Addr} (H : own_C Z h0 w_Role_LOAD w_Quantity_MOVEMENT w_Role_Period_INTERVAL w_Role_Period_HOUR w_Role_VIRTUAL_LOAD w_Quantity_RT w_Quantity_BID w_Quantity_ACTUAL w_Role_VIRTUAL_SUPPLY w_Quantity_DA w_Role_SUPPLIER w_Role_HUB_POI w_Quantity_PERFORMANCE w_Role_REGULATION w_Role_EXPORT w_Role_IMPORT w_Role_HUB_POW) :
    own_Met l (⟨"com/example/gridledger/gridledger/positions/Role", "spansHour", "(Lcom/example/gridledger/gridledger/positions/Quantity;)Z"⟩ : MethodName) prog_41_method_10_code 2 (some .boolean) ws (own_rm 1 0 0 12) Z #[(.ref w_Role_HUB_POW), (.ref w_Quantity_ACTUAL)] h0 (own_R (some (.int (1 : Int32))) h0) := by
  refine own_met (plainFor_of_name pn_2) ?_
  intro p e s m below meth c T0 hx hby hml hown hret hk hnm hZ X0 e0
  have hown : s.vm.findClass "com/example/gridledger/gridledger/positions/Role" = some m.cls := hown
  obtain ⟨-, -, -, -, -, -, S_w_Role_Period_HOUR, -, -, -, -, -, -, -, -, E_w_Quantity_ACTUAL, -, -, -, -, -, -, -, -, -, -, -, -, -, -, -, -, -, -, -, -, -, -, -, -, -, -, -, -, -, -, -, -, -, -, F_w_Role_HUB_POW_period, -⟩ := id H
  refine own_ent (ef_2 m w_Role_HUB_POW w_Quantity_ACTUAL) ?_
  refine own_aload_n X0 hx (hb hby d2_0) rfl rfl 1 rfl ?_
  refine own_pureV X0 hx hZ hown (own_w hw 19 rfl) (own_w hw 20 rfl) (notFace_of_selects (args := #[]) (mvT hZ (own_w hw 22 rfl))) (own_w hw 22 rfl) (own_w hw 21 rfl) (own_w hw 12 rfl) (own_w hw 23 rfl) (by decide) w_Quantity_ACTUAL [] [] 0 (rm_hourly_9 l Z a0 hw []  h0 n0 H) (by decide) (by decide) rfl rfl e0 E_w_Quantity_ACTUAL (by rw [hml]; rfl) (lenOf pd_2 rfl) (Nat.le_of_eq rfl) (hb hby d2_1) 4 rfl rfl (by decide) (by decide) fun T2 X2 e2 => ?_
  refine own_ifN X2 hx (hb hby d2_4) ((if0 _ _).trans (teq (by decide : (0 : Int32) = (0 : Int32))).2) 7 rfl ?_
  refine own_aload_n X2 hx (hb hby d2_7) rfl rfl 8 rfl ?_
  refine own_getF X2 hx hZ hown (host := "") (Or.inl (own_w hw 26 rfl)) Via.refl e2 F_w_Role_HUB_POW_period (hb hby d2_8) 11 rfl fun T3 X3 e3 => ?_
  refine own_getS X3 hx hZ hown (host := "") (Or.inl (own_w hw 30 rfl)) Via.refl e3 S_w_Role_Period_HOUR (hb hby d2_11) 14 rfl fun T4 X4 e4 => ?_
  refine own_acmp X4 hx true (hb hby d2_14) rfl rfl (decide_eq_true rfl) 17 (by decide) (by decide) ?_
  refine own_iconst X4 hx (hb hby d2_17) (1 : Int32) rfl 18 rfl ?_
  refine own_goto X4 hx (hb hby d2_18) 22 (by decide) (by decide) ?_
  exact own_retZ X4 hx hk hret (hb hby d2_22) rfl ⟨rfl, e4, rfl⟩ (by decide) (by decide)
theorem rm_spansHour_66 (l : Launch) (Z : State) (a0 : Array Value) (hw : own_HW Z a0) (ws : List Jvm.Cond)  (h0 : Heap) (n0 : Nat) {w_Role_LOAD w_Quantity_MOVEMENT w_Role_Period_INTERVAL w_Role_Period_HOUR w_Role_VIRTUAL_LOAD w_Quantity_RT w_Quantity_BID w_Quantity_ACTUAL w_Role_VIRTUAL_SUPPLY w_Quantity_DA w_Role_SUPPLIER w_Role_HUB_POI w_Quantity_PERFORMANCE w_Role_REGULATION w_Role_EXPORT w_Role_IMPORT w_Role_HUB_POW : Addr} (H : own_C Z h0 w_Role_LOAD w_Quantity_MOVEMENT w_Role_Period_INTERVAL w_Role_Period_HOUR w_Role_VIRTUAL_LOAD w_Quantity_RT w_Quantity_BID w_Quantity_ACTUAL w_Role_VIRTUAL_SUPPLY w_Quantity_DA w_Role_SUPPLIER w_Role_HUB_POI w_Quantity_PERFORMANCE w_Role_REGULATION w_Role_EXPORT w_Role_IMPORT w_Role_HUB_POW) :
    own_Met l (⟨"com/example/gridledger/gridledger/positions/Role", "spansHour", "(Lcom/example/gridledger/gridledger/positions/Quantity;)Z"⟩ : MethodName) prog_41_method_10_code 2 (some .boolean) ws (own_rm 1 0 0 12) Z #[(.ref w_Role_HUB_POW), (.ref w_Quantity_MOVEMENT)] h0 (own_R (some (.int (1 : Int32))) h0) := by
  refine own_met (plainFor_of_name pn_2) ?_
  intro p e s m below meth c T0 hx hby hml hown hret hk hnm hZ X0 e0
  have hown : s.vm.findClass "com/example/gridledger/gridledger/positions/Role" = some m.cls := hown
  obtain ⟨-, -, -, E_w_Quantity_MOVEMENT, -, -, S_w_Role_Period_HOUR, -, -, -, -, -, -, -, -, -, -, -, -, -, -, -, -, -, -, -, -, -, -, -, -, -, -, -, -, -, -, -, -, -, -, -, -, -, -, -, -, -, -, -, F_w_Role_HUB_POW_period, -⟩ := id H
  refine own_ent (ef_2 m w_Role_HUB_POW w_Quantity_MOVEMENT) ?_
  refine own_aload_n X0 hx (hb hby d2_0) rfl rfl 1 rfl ?_
  refine own_pureV X0 hx hZ hown (own_w hw 19 rfl) (own_w hw 20 rfl) (notFace_of_selects (args := #[]) (mvT hZ (own_w hw 22 rfl))) (own_w hw 22 rfl) (own_w hw 21 rfl) (own_w hw 12 rfl) (own_w hw 23 rfl) (by decide) w_Quantity_MOVEMENT [] [] 0 (rm_hourly_12 l Z a0 hw []  h0 n0 H) (by decide) (by decide) rfl rfl e0 E_w_Quantity_MOVEMENT (by rw [hml]; rfl) (lenOf pd_2 rfl) (Nat.le_of_eq rfl) (hb hby d2_1) 4 rfl rfl (by decide) (by decide) fun T2 X2 e2 => ?_
  refine own_ifN X2 hx (hb hby d2_4) ((if0 _ _).trans (teq (by decide : (0 : Int32) = (0 : Int32))).2) 7 rfl ?_
  refine own_aload_n X2 hx (hb hby d2_7) rfl rfl 8 rfl ?_
  refine own_getF X2 hx hZ hown (host := "") (Or.inl (own_w hw 26 rfl)) Via.refl e2 F_w_Role_HUB_POW_period (hb hby d2_8) 11 rfl fun T3 X3 e3 => ?_
  refine own_getS X3 hx hZ hown (host := "") (Or.inl (own_w hw 30 rfl)) Via.refl e3 S_w_Role_Period_HOUR (hb hby d2_11) 14 rfl fun T4 X4 e4 => ?_
  refine own_acmp X4 hx true (hb hby d2_14) rfl rfl (decide_eq_true rfl) 17 (by decide) (by decide) ?_
  refine own_iconst X4 hx (hb hby d2_17) (1 : Int32) rfl 18 rfl ?_
  refine own_goto X4 hx (hb hby d2_18) 22 (by decide) (by decide) ?_
  exact own_retZ X4 hx hk hret (hb hby d2_22) rfl ⟨rfl, e4, rfl⟩ (by decide) (by decide)
theorem rm_spansHour_67 (l : Launch) (Z : State) (a0 : Array Value) (hw : own_HW Z a0) (ws : List Jvm.Cond)  (h0 : Heap) (n0 : Nat) {w_Role_LOAD w_Quantity_MOVEMENT w_Role_Period_INTERVAL w_Role_Period_HOUR w_Role_VIRTUAL_LOAD w_Quantity_RT w_Quantity_BID w_Quantity_ACTUAL w_Role_VIRTUAL_SUPPLY w_Quantity_DA w_Role_SUPPLIER w_Role_HUB_POI w_Quantity_PERFORMANCE w_Role_REGULATION w_Role_EXPORT w_Role_IMPORT w_Role_HUB_POW : Addr} (H : own_C Z h0 w_Role_LOAD w_Quantity_MOVEMENT w_Role_Period_INTERVAL w_Role_Period_HOUR w_Role_VIRTUAL_LOAD w_Quantity_RT w_Quantity_BID w_Quantity_ACTUAL w_Role_VIRTUAL_SUPPLY w_Quantity_DA w_Role_SUPPLIER w_Role_HUB_POI w_Quantity_PERFORMANCE w_Role_REGULATION w_Role_EXPORT w_Role_IMPORT w_Role_HUB_POW) :
    own_Met l (⟨"com/example/gridledger/gridledger/positions/Role", "spansHour", "(Lcom/example/gridledger/gridledger/positions/Quantity;)Z"⟩ : MethodName) prog_41_method_10_code 2 (some .boolean) ws (own_rm 1 0 0 12) Z #[(.ref w_Role_HUB_POW), (.ref w_Quantity_PERFORMANCE)] h0 (own_R (some (.int (1 : Int32))) h0) := by
  refine own_met (plainFor_of_name pn_2) ?_
  intro p e s m below meth c T0 hx hby hml hown hret hk hnm hZ X0 e0
  have hown : s.vm.findClass "com/example/gridledger/gridledger/positions/Role" = some m.cls := hown
  obtain ⟨-, -, -, -, -, -, S_w_Role_Period_HOUR, -, -, -, -, -, -, -, -, -, -, -, -, -, -, -, -, -, -, E_w_Quantity_PERFORMANCE, -, -, -, -, -, -, -, -, -, -, -, -, -, -, -, -, -, -, -, -, -, -, -, -, F_w_Role_HUB_POW_period, -⟩ := id H
  refine own_ent (ef_2 m w_Role_HUB_POW w_Quantity_PERFORMANCE) ?_
  refine own_aload_n X0 hx (hb hby d2_0) rfl rfl 1 rfl ?_
  refine own_pureV X0 hx hZ hown (own_w hw 19 rfl) (own_w hw 20 rfl) (notFace_of_selects (args := #[]) (mvT hZ (own_w hw 22 rfl))) (own_w hw 22 rfl) (own_w hw 21 rfl) (own_w hw 12 rfl) (own_w hw 23 rfl) (by decide) w_Quantity_PERFORMANCE [] [] 0 (rm_hourly_15 l Z a0 hw []  h0 n0 H) (by decide) (by decide) rfl rfl e0 E_w_Quantity_PERFORMANCE (by rw [hml]; rfl) (lenOf pd_2 rfl) (Nat.le_of_eq rfl) (hb hby d2_1) 4 rfl rfl (by decide) (by decide) fun T2 X2 e2 => ?_
  refine own_ifN X2 hx (hb hby d2_4) ((if0 _ _).trans (teq (by decide : (0 : Int32) = (0 : Int32))).2) 7 rfl ?_
  refine own_aload_n X2 hx (hb hby d2_7) rfl rfl 8 rfl ?_
  refine own_getF X2 hx hZ hown (host := "") (Or.inl (own_w hw 26 rfl)) Via.refl e2 F_w_Role_HUB_POW_period (hb hby d2_8) 11 rfl fun T3 X3 e3 => ?_
  refine own_getS X3 hx hZ hown (host := "") (Or.inl (own_w hw 30 rfl)) Via.refl e3 S_w_Role_Period_HOUR (hb hby d2_11) 14 rfl fun T4 X4 e4 => ?_
  refine own_acmp X4 hx true (hb hby d2_14) rfl rfl (decide_eq_true rfl) 17 (by decide) (by decide) ?_
  refine own_iconst X4 hx (hb hby d2_17) (1 : Int32) rfl 18 rfl ?_
  refine own_goto X4 hx (hb hby d2_18) 22 (by decide) (by decide) ?_
  exact own_retZ X4 hx hk hret (hb hby d2_22) rfl ⟨rfl, e4, rfl⟩ (by decide) (by decide)
theorem rm_spansHour_68 (l : Launch) (Z : State) (a0 : Array Value) (hw : own_HW Z a0) (ws : List Jvm.Cond)  (h0 : Heap) (n0 : Nat) {w_Role_LOAD w_Quantity_MOVEMENT w_Role_Period_INTERVAL w_Role_Period_HOUR w_Role_VIRTUAL_LOAD w_Quantity_RT w_Quantity_BID w_Quantity_ACTUAL w_Role_VIRTUAL_SUPPLY w_Quantity_DA w_Role_SUPPLIER w_Role_HUB_POI w_Quantity_PERFORMANCE w_Role_REGULATION w_Role_EXPORT w_Role_IMPORT w_Role_HUB_POW : Addr} (H : own_C Z h0 w_Role_LOAD w_Quantity_MOVEMENT w_Role_Period_INTERVAL w_Role_Period_HOUR w_Role_VIRTUAL_LOAD w_Quantity_RT w_Quantity_BID w_Quantity_ACTUAL w_Role_VIRTUAL_SUPPLY w_Quantity_DA w_Role_SUPPLIER w_Role_HUB_POI w_Quantity_PERFORMANCE w_Role_REGULATION w_Role_EXPORT w_Role_IMPORT w_Role_HUB_POW) :
    own_Met l (⟨"com/example/gridledger/gridledger/positions/Role", "spansHour", "(Lcom/example/gridledger/gridledger/positions/Quantity;)Z"⟩ : MethodName) prog_41_method_10_code 2 (some .boolean) ws (own_rm 1 0 0 12) Z #[(.ref w_Role_HUB_POW), (.ref w_Quantity_BID)] h0 (own_R (some (.int (1 : Int32))) h0) := by
  refine own_met (plainFor_of_name pn_2) ?_
  intro p e s m below meth c T0 hx hby hml hown hret hk hnm hZ X0 e0
  have hown : s.vm.findClass "com/example/gridledger/gridledger/positions/Role" = some m.cls := hown
  obtain ⟨-, -, -, -, -, -, -, -, -, -, -, -, -, E_w_Quantity_BID, -, -, -, -, -, -, -, -, -, -, -, -, -, -, -, -, -, -, -, -, -, -, -, -, -, -, -, -, -, -, -, -, -, -, -, -, -, -⟩ := id H
  refine own_ent (ef_2 m w_Role_HUB_POW w_Quantity_BID) ?_
  refine own_aload_n X0 hx (hb hby d2_0) rfl rfl 1 rfl ?_
  refine own_pureV X0 hx hZ hown (own_w hw 19 rfl) (own_w hw 20 rfl) (notFace_of_selects (args := #[]) (mvT hZ (own_w hw 22 rfl))) (own_w hw 22 rfl) (own_w hw 21 rfl) (own_w hw 12 rfl) (own_w hw 23 rfl) (by decide) w_Quantity_BID [] [] 0 (rm_hourly_18 l Z a0 hw []  h0 n0 H) (by decide) (by decide) rfl rfl e0 E_w_Quantity_BID (by rw [hml]; rfl) (lenOf pd_2 rfl) (Nat.le_of_eq rfl) (hb hby d2_1) 4 rfl rfl (by decide) (by decide) fun T2 X2 e2 => ?_
  refine own_ifY X2 hx (hb hby d2_4) ((if0 _ _).trans (feq (by decide : ¬ ((1 : Int32) = (0 : Int32)))).2) 17 (by decide) (by decide) ?_
  refine own_iconst X2 hx (hb hby d2_17) (1 : Int32) rfl 18 rfl ?_
  refine own_goto X2 hx (hb hby d2_18) 22 (by decide) (by decide) ?_
  exact own_retZ X2 hx hk hret (hb hby d2_22) rfl ⟨rfl, e2, rfl⟩ (by decide) (by decide)
theorem d0_73 : decode method_2_code 73 = .ok (.getstatic 34, 3) := by decide +kernel
theorem d0_76 : decode method_2_code 76 = .ok (.areturn, 1) := by decide +kernel
theorem rm_role_69 (l : Launch) (Z : State) (a0 : Array Value) (hw : own_HW Z a0) (ws : List Jvm.Cond)  (h0 : Heap) (n0 : Nat) {w_Role_LOAD w_Quantity_MOVEMENT w_Role_Period_INTERVAL w_Role_Period_HOUR w_Role_VIRTUAL_LOAD w_Quantity_RT w_Quantity_BID w_Quantity_ACTUAL w_Role_VIRTUAL_SUPPLY w_Quantity_DA w_Role_SUPPLIER w_Role_HUB_POI w_Quantity_PERFORMANCE w_Role_REGULATION w_Role_EXPORT w_Role_IMPORT w_Role_HUB_POW : Addr} (H : own_C Z h0 w_Role_LOAD w_Quantity_MOVEMENT w_Role_Period_INTERVAL w_Role_Period_HOUR w_Role_VIRTUAL_LOAD w_Quantity_RT w_Quantity_BID w_Quantity_ACTUAL w_Role_VIRTUAL_SUPPLY w_Quantity_DA w_Role_SUPPLIER w_Role_HUB_POI w_Quantity_PERFORMANCE w_Role_REGULATION w_Role_EXPORT w_Role_IMPORT w_Role_HUB_POW) :
    own_Met l (⟨"com/example/gridledger/gridledger/positions/RoleSpansHourPinLaw", "role", "(I)Lcom/example/gridledger/gridledger/positions/Role;"⟩ : MethodName) method_2_code 1 (some (.object "com/example/gridledger/gridledger/positions/Role")) ws (own_rm 0 0 0 0) Z #[(.int (8 : Int32))] h0 (own_R (some (.ref w_Role_REGULATION)) h0) := by
  refine own_met (plainFor_of_name pn_0) ?_
  intro p e s m below meth c T0 hx hby hml hown hret hk hnm hZ X0 e0
  have hown : s.vm.findClass "com/example/gridledger/gridledger/positions/RoleSpansHourPinLaw" = some m.cls := hown
  obtain ⟨-, -, -, -, -, -, -, -, -, -, -, -, -, -, -, -, -, -, -, -, -, -, -, -, -, -, S_w_Role_REGULATION, -, -, -, -, -, -, -, -, -, -, -, -, -, -, -, -, -, -, -, -, -, -, -, -, -⟩ := id H
  refine own_ent (ef_0 m (8 : Int32)) ?_
  refine own_iload_n X0 hx (hb hby d0_0) rfl 1 rfl ?_
  refine own_ifY X0 hx (hb hby d0_1) ((if0 _ _).trans (feq (by decide : ¬ ((8 : Int32) = (0 : Int32)))).2) 8 (by decide) (by decide) ?_
  refine own_iload_n X0 hx (hb hby d0_8) rfl 9 rfl ?_
  refine own_iconst X0 hx (hb hby d0_9) (1 : Int32) rfl 10 rfl ?_
  refine own_icmpY X0 hx (hb hby d0_10) (feq (by decide : ¬ ((8 : Int32) = (1 : Int32)))).2 17 (by decide) (by decide) ?_
  refine own_iload_n X0 hx (hb hby d0_17) rfl 18 rfl ?_
  refine own_iconst X0 hx (hb hby d0_18) (2 : Int32) rfl 19 rfl ?_
  refine own_icmpY X0 hx (hb hby d0_19) (feq (by decide : ¬ ((8 : Int32) = (2 : Int32)))).2 26 (by decide) (by decide) ?_
  refine own_iload_n X0 hx (hb hby d0_26) rfl 27 rfl ?_
  refine own_iconst X0 hx (hb hby d0_27) (3 : Int32) rfl 28 rfl ?_
  refine own_icmpY X0 hx (hb hby d0_28) (feq (by decide : ¬ ((8 : Int32) = (3 : Int32)))).2 35 (by decide) (by decide) ?_
  refine own_iload_n X0 hx (hb hby d0_35) rfl 36 rfl ?_
  refine own_iconst X0 hx (hb hby d0_36) (4 : Int32) rfl 37 rfl ?_
  refine own_icmpY X0 hx (hb hby d0_37) (feq (by decide : ¬ ((8 : Int32) = (4 : Int32)))).2 44 (by decide) (by decide) ?_
  refine own_iload_n X0 hx (hb hby d0_44) rfl 45 rfl ?_
  refine own_iconst X0 hx (hb hby d0_45) (5 : Int32) rfl 46 rfl ?_
  refine own_icmpY X0 hx (hb hby d0_46) (feq (by decide : ¬ ((8 : Int32) = (5 : Int32)))).2 53 (by decide) (by decide) ?_
  refine own_iload_n X0 hx (hb hby d0_53) rfl 54 rfl ?_
  refine own_bipush X0 hx (hb hby d0_54) (6 : Int32) rfl 56 rfl ?_
  refine own_icmpY X0 hx (hb hby d0_56) (feq (by decide : ¬ ((8 : Int32) = (6 : Int32)))).2 63 (by decide) (by decide) ?_
  refine own_iload_n X0 hx (hb hby d0_63) rfl 64 rfl ?_
  refine own_bipush X0 hx (hb hby d0_64) (7 : Int32) rfl 66 rfl ?_
  refine own_icmpY X0 hx (hb hby d0_66) (feq (by decide : ¬ ((8 : Int32) = (7 : Int32)))).2 73 (by decide) (by decide) ?_
  refine own_getS X0 hx hZ hown (host := "") (Or.inl (own_w hw 50 rfl)) Via.refl e0 S_w_Role_REGULATION (hb hby d0_73) 76 rfl fun T1 X1 e1 => ?_
  exact own_retA X1 hx hk hret rfl rfl (hb hby d0_76) rfl ⟨rfl, e1, rfl⟩ (by decide) (by decide)
theorem rm_spansHour_70 (l : Launch) (Z : State) (a0 : Array Value) (hw : own_HW Z a0) (ws : List Jvm.Cond)  (h0 : Heap) (n0 : Nat) {w_Role_LOAD w_Quantity_MOVEMENT w_Role_Period_INTERVAL w_Role_Period_HOUR w_Role_VIRTUAL_LOAD w_Quantity_RT w_Quantity_BID w_Quantity_ACTUAL w_Role_VIRTUAL_SUPPLY w_Quantity_DA w_Role_SUPPLIER w_Role_HUB_POI w_Quantity_PERFORMANCE w_Role_REGULATION w_Role_EXPORT w_Role_IMPORT w_Role_HUB_POW : Addr} (H : own_C Z h0 w_Role_LOAD w_Quantity_MOVEMENT w_Role_Period_INTERVAL w_Role_Period_HOUR w_Role_VIRTUAL_LOAD w_Quantity_RT w_Quantity_BID w_Quantity_ACTUAL w_Role_VIRTUAL_SUPPLY w_Quantity_DA w_Role_SUPPLIER w_Role_HUB_POI w_Quantity_PERFORMANCE w_Role_REGULATION w_Role_EXPORT w_Role_IMPORT w_Role_HUB_POW) :
    own_Met l (⟨"com/example/gridledger/gridledger/positions/Role", "spansHour", "(Lcom/example/gridledger/gridledger/positions/Quantity;)Z"⟩ : MethodName) prog_41_method_10_code 2 (some .boolean) ws (own_rm 1 0 0 12) Z #[(.ref w_Role_REGULATION), (.ref w_Quantity_DA)] h0 (own_R (some (.int (1 : Int32))) h0) := by
  refine own_met (plainFor_of_name pn_2) ?_
  intro p e s m below meth c T0 hx hby hml hown hret hk hnm hZ X0 e0
  have hown : s.vm.findClass "com/example/gridledger/gridledger/positions/Role" = some m.cls := hown
  obtain ⟨-, -, -, -, -, -, -, -, -, -, -, -, -, -, -, -, -, -, -, E_w_Quantity_DA, -, -, -, -, -, -, -, -, -, -, -, -, -, -, -, -, -, -, -, -, -, -, -, -, -, -, -, -, -, -, -, -⟩ := id H
  refine own_ent (ef_2 m w_Role_REGULATION w_Quantity_DA) ?_
  refine own_aload_n X0 hx (hb hby d2_0) rfl rfl 1 rfl ?_
  refine own_pureV X0 hx hZ hown (own_w hw 19 rfl) (own_w hw 20 rfl) (notFace_of_selects (args := #[]) (mvT hZ (own_w hw 22 rfl))) (own_w hw 22 rfl) (own_w hw 21 rfl) (own_w hw 12 rfl) (own_w hw 23 rfl) (by decide) w_Quantity_DA [] [] 0 (rm_hourly_3 l Z a0 hw []  h0 n0 H) (by decide) (by decide) rfl rfl e0 E_w_Quantity_DA (by rw [hml]; rfl) (lenOf pd_2 rfl) (Nat.le_of_eq rfl) (hb hby d2_1) 4 rfl rfl (by decide) (by decide) fun T2 X2 e2 => ?_
  refine own_ifY X2 hx (hb hby d2_4) ((if0 _ _).trans (feq (by decide : ¬ ((1 : Int32) = (0 : Int32)))).2) 17 (by decide) (by decide) ?_
  refine own_iconst X2 hx (hb hby d2_17) (1 : Int32) rfl 18 rfl ?_
  refine own_goto X2 hx (hb hby d2_18) 22 (by decide) (by decide) ?_
  exact own_retZ X2 hx hk hret (hb hby d2_22) rfl ⟨rfl, e2, rfl⟩ (by decide) (by decide)
theorem rm_spansHour_71 (l : Launch) (Z : State) (a0 : Array Value) (hw : own_HW Z a0) (ws : List Jvm.Cond)  (h0 : Heap) (n0 : Nat) {w_Role_LOAD w_Quantity_MOVEMENT w_Role_Period_INTERVAL w_Role_Period_HOUR w_Role_VIRTUAL_LOAD w_Quantity_RT w_Quantity_BID w_Quantity_ACTUAL w_Role_VIRTUAL_SUPPLY w_Quantity_DA w_Role_SUPPLIER w_Role_HUB_POI w_Quantity_PERFORMANCE w_Role_REGULATION w_Role_EXPORT w_Role_IMPORT w_Role_HUB_POW : Addr} (H : own_C Z h0 w_Role_LOAD w_Quantity_MOVEMENT w_Role_Period_INTERVAL w_Role_Period_HOUR w_Role_VIRTUAL_LOAD w_Quantity_RT w_Quantity_BID w_Quantity_ACTUAL w_Role_VIRTUAL_SUPPLY w_Quantity_DA w_Role_SUPPLIER w_Role_HUB_POI w_Quantity_PERFORMANCE w_Role_REGULATION w_Role_EXPORT w_Role_IMPORT w_Role_HUB_POW) :
    own_Met l (⟨"com/example/gridledger/gridledger/positions/Role", "spansHour", "(Lcom/example/gridledger/gridledger/positions/Quantity;)Z"⟩ : MethodName) prog_41_method_10_code 2 (some .boolean) ws (own_rm 1 0 0 12) Z #[(.ref w_Role_REGULATION), (.ref w_Quantity_RT)] h0 (own_R (some (.int (0 : Int32))) h0) := by
  refine own_met (plainFor_of_name pn_2) ?_
  intro p e s m below meth c T0 hx hby hml hown hret hk hnm hZ X0 e0
  have hown : s.vm.findClass "com/example/gridledger/gridledger/positions/Role" = some m.cls := hown
  obtain ⟨-, -, -, -, -, -, S_w_Role_Period_HOUR, -, -, -, -, E_w_Quantity_RT, -, -, -, -, -, -, -, -, -, -, -, -, -, -, -, -, -, -, -, -, -, -, -, -, -, -, -, -, -, -, -, -, -, -, F_w_Role_REGULATION_period, -, -, -, -, ne_w_Role_Period_HOUR_w_Role_Period_INTERVAL⟩ := id H
  refine own_ent (ef_2 m w_Role_REGULATION w_Quantity_RT) ?_
  refine own_aload_n X0 hx (hb hby d2_0) rfl rfl 1 rfl ?_
  refine own_pureV X0 hx hZ hown (own_w hw 19 rfl) (own_w hw 20 rfl) (notFace_of_selects (args := #[]) (mvT hZ (own_w hw 22 rfl))) (own_w hw 22 rfl) (own_w hw 21 rfl) (own_w hw 12 rfl) (own_w hw 23 rfl) (by decide) w_Quantity_RT [] [] 0 (rm_hourly_6 l Z a0 hw []  h0 n0 H) (by decide) (by decide) rfl rfl e0 E_w_Quantity_RT (by rw [hml]; rfl) (lenOf pd_2 rfl) (Nat.le_of_eq rfl) (hb hby d2_1) 4 rfl rfl (by decide) (by decide) fun T2 X2 e2 => ?_
  refine own_ifN X2 hx (hb hby d2_4) ((if0 _ _).trans (teq (by decide : (0 : Int32) = (0 : Int32))).2) 7 rfl ?_
  refine own_aload_n X2 hx (hb hby d2_7) rfl rfl 8 rfl ?_
  refine own_getF X2 hx hZ hown (host := "") (Or.inl (own_w hw 26 rfl)) Via.refl e2 F_w_Role_REGULATION_period (hb hby d2_8) 11 rfl fun T3 X3 e3 => ?_
  refine own_getS X3 hx hZ hown (host := "") (Or.inl (own_w hw 30 rfl)) Via.refl e3 S_w_Role_Period_HOUR (hb hby d2_11) 14 rfl fun T4 X4 e4 => ?_
  refine own_acmp X4 hx false (hb hby d2_14) rfl rfl (decide_eq_false fun q => (Ne.symm ne_w_Role_Period_HOUR_w_Role_Period_INTERVAL) (Value.ref.inj q)) 21 (by decide) (by decide) ?_
  refine own_iconst X4 hx (hb hby d2_21) (0 : Int32) rfl 22 rfl ?_
  exact own_retZ X4 hx hk hret (hb hby d2_22) rfl ⟨rfl, e4, rfl⟩ (by decide) (by decide)
theorem rm_spansHour_72 (l : Launch) (Z : State) (a0 : Array Value) (hw : own_HW Z a0) (ws : List Jvm.Cond)  (h0 : Heap) (n0 : Nat) {w_Role_LOAD w_Quantity_MOVEMENT w_Role_Period_INTERVAL w_Role_Period_HOUR w_Role_VIRTUAL_LOAD w_Quantity_RT w_Quantity_BID w_Quantity_ACTUAL w_Role_VIRTUAL_SUPPLY w_Quantity_DA w_Role_SUPPLIER w_Role_HUB_POI w_Quantity_PERFORMANCE w_Role_REGULATION w_Role_EXPORT w_Role_IMPORT w_Role_HUB_POW : Addr} (H : own_C Z h0 w_Role_LOAD w_Quantity_MOVEMENT w_Role_Period_INTERVAL w_Role_Period_HOUR w_Role_VIRTUAL_LOAD w_Quantity_RT w_Quantity_BID w_Quantity_ACTUAL w_Role_VIRTUAL_SUPPLY w_Quantity_DA w_Role_SUPPLIER w_Role_HUB_POI w_Quantity_PERFORMANCE w_Role_REGULATION w_Role_EXPORT w_Role_IMPORT w_Role_HUB_POW) :
    own_Met l (⟨"com/example/gridledger/gridledger/positions/Role", "spansHour", "(Lcom/example/gridledger/gridledger/positions/Quantity;)Z"⟩ : MethodName) prog_41_method_10_code 2 (some .boolean) ws (own_rm 1 0 0 12) Z #[(.ref w_Role_REGULATION), (.ref w_Quantity_ACTUAL)] h0 (own_R (some (.int (0 : Int32))) h0) := by
  refine own_met (plainFor_of_name pn_2) ?_
  intro p e s m below meth c T0 hx hby hml hown hret hk hnm hZ X0 e0
  have hown : s.vm.findClass "com/example/gridledger/gridledger/positions/Role" = some m.cls := hown
  obtain ⟨-, -, -, -, -, -, S_w_Role_Period_HOUR, -, -, -, -, -, -, -, -, E_w_Quantity_ACTUAL, -, -, -, -, -, -, -, -, -, -, -, -, -, -, -, -, -, -, -, -, -, -, -, -, -, -, -, -, -, -, F_w_Role_REGULATION_period, -, -, -, -, ne_w_Role_Period_HOUR_w_Role_Period_INTERVAL⟩ := id H
  refine own_ent (ef_2 m w_Role_REGULATION w_Quantity_ACTUAL) ?_
  refine own_aload_n X0 hx (hb hby d2_0) rfl rfl 1 rfl ?_
  refine own_pureV X0 hx hZ hown (own_w hw 19 rfl) (own_w hw 20 rfl) (notFace_of_selects (args := #[]) (mvT hZ (own_w hw 22 rfl))) (own_w hw 22 rfl) (own_w hw 21 rfl) (own_w hw 12 rfl) (own_w hw 23 rfl) (by decide) w_Quantity_ACTUAL [] [] 0 (rm_hourly_9 l Z a0 hw []  h0 n0 H) (by decide) (by decide) rfl rfl e0 E_w_Quantity_ACTUAL (by rw [hml]; rfl) (lenOf pd_2 rfl) (Nat.le_of_eq rfl) (hb hby d2_1) 4 rfl rfl (by decide) (by decide) fun T2 X2 e2 => ?_
  refine own_ifN X2 hx (hb hby d2_4) ((if0 _ _).trans (teq (by decide : (0 : Int32) = (0 : Int32))).2) 7 rfl ?_
  refine own_aload_n X2 hx (hb hby d2_7) rfl rfl 8 rfl ?_
  refine own_getF X2 hx hZ hown (host := "") (Or.inl (own_w hw 26 rfl)) Via.refl e2 F_w_Role_REGULATION_period (hb hby d2_8) 11 rfl fun T3 X3 e3 => ?_
  refine own_getS X3 hx hZ hown (host := "") (Or.inl (own_w hw 30 rfl)) Via.refl e3 S_w_Role_Period_HOUR (hb hby d2_11) 14 rfl fun T4 X4 e4 => ?_
  refine own_acmp X4 hx false (hb hby d2_14) rfl rfl (decide_eq_false fun q => (Ne.symm ne_w_Role_Period_HOUR_w_Role_Period_INTERVAL) (Value.ref.inj q)) 21 (by decide) (by decide) ?_
  refine own_iconst X4 hx (hb hby d2_21) (0 : Int32) rfl 22 rfl ?_
  exact own_retZ X4 hx hk hret (hb hby d2_22) rfl ⟨rfl, e4, rfl⟩ (by decide) (by decide)
theorem rm_spansHour_73 (l : Launch) (Z : State) (a0 : Array Value) (hw : own_HW Z a0) (ws : List Jvm.Cond)  (h0 : Heap) (n0 : Nat) {w_Role_LOAD w_Quantity_MOVEMENT w_Role_Period_INTERVAL w_Role_Period_HOUR w_Role_VIRTUAL_LOAD w_Quantity_RT w_Quantity_BID w_Quantity_ACTUAL w_Role_VIRTUAL_SUPPLY w_Quantity_DA w_Role_SUPPLIER w_Role_HUB_POI w_Quantity_PERFORMANCE w_Role_REGULATION w_Role_EXPORT w_Role_IMPORT w_Role_HUB_POW : Addr} (H : own_C Z h0 w_Role_LOAD w_Quantity_MOVEMENT w_Role_Period_INTERVAL w_Role_Period_HOUR w_Role_VIRTUAL_LOAD w_Quantity_RT w_Quantity_BID w_Quantity_ACTUAL w_Role_VIRTUAL_SUPPLY w_Quantity_DA w_Role_SUPPLIER w_Role_HUB_POI w_Quantity_PERFORMANCE w_Role_REGULATION w_Role_EXPORT w_Role_IMPORT w_Role_HUB_POW) :
    own_Met l (⟨"com/example/gridledger/gridledger/positions/Role", "spansHour", "(Lcom/example/gridledger/gridledger/positions/Quantity;)Z"⟩ : MethodName) prog_41_method_10_code 2 (some .boolean) ws (own_rm 1 0 0 12) Z #[(.ref w_Role_REGULATION), (.ref w_Quantity_MOVEMENT)] h0 (own_R (some (.int (0 : Int32))) h0) := by
  refine own_met (plainFor_of_name pn_2) ?_
  intro p e s m below meth c T0 hx hby hml hown hret hk hnm hZ X0 e0
  have hown : s.vm.findClass "com/example/gridledger/gridledger/positions/Role" = some m.cls := hown
  obtain ⟨-, -, -, E_w_Quantity_MOVEMENT, -, -, S_w_Role_Period_HOUR, -, -, -, -, -, -, -, -, -, -, -, -, -, -, -, -, -, -, -, -, -, -, -, -, -, -, -, -, -, -, -, -, -, -, -, -, -, -, -, F_w_Role_REGULATION_period, -, -, -, -, ne_w_Role_Period_HOUR_w_Role_Period_INTERVAL⟩ := id H
  refine own_ent (ef_2 m w_Role_REGULATION w_Quantity_MOVEMENT) ?_
  refine own_aload_n X0 hx (hb hby d2_0) rfl rfl 1 rfl ?_
  refine own_pureV X0 hx hZ hown (own_w hw 19 rfl) (own_w hw 20 rfl) (notFace_of_selects (args := #[]) (mvT hZ (own_w hw 22 rfl))) (own_w hw 22 rfl) (own_w hw 21 rfl) (own_w hw 12 rfl) (own_w hw 23 rfl) (by decide) w_Quantity_MOVEMENT [] [] 0 (rm_hourly_12 l Z a0 hw []  h0 n0 H) (by decide) (by decide) rfl rfl e0 E_w_Quantity_MOVEMENT (by rw [hml]; rfl) (lenOf pd_2 rfl) (Nat.le_of_eq rfl) (hb hby d2_1) 4 rfl rfl (by decide) (by decide) fun T2 X2 e2 => ?_
  refine own_ifN X2 hx (hb hby d2_4) ((if0 _ _).trans (teq (by decide : (0 : Int32) = (0 : Int32))).2) 7 rfl ?_
  refine own_aload_n X2 hx (hb hby d2_7) rfl rfl 8 rfl ?_
  refine own_getF X2 hx hZ hown (host := "") (Or.inl (own_w hw 26 rfl)) Via.refl e2 F_w_Role_REGULATION_period (hb hby d2_8) 11 rfl fun T3 X3 e3 => ?_
  refine own_getS X3 hx hZ hown (host := "") (Or.inl (own_w hw 30 rfl)) Via.refl e3 S_w_Role_Period_HOUR (hb hby d2_11) 14 rfl fun T4 X4 e4 => ?_
  refine own_acmp X4 hx false (hb hby d2_14) rfl rfl (decide_eq_false fun q => (Ne.symm ne_w_Role_Period_HOUR_w_Role_Period_INTERVAL) (Value.ref.inj q)) 21 (by decide) (by decide) ?_
  refine own_iconst X4 hx (hb hby d2_21) (0 : Int32) rfl 22 rfl ?_
  exact own_retZ X4 hx hk hret (hb hby d2_22) rfl ⟨rfl, e4, rfl⟩ (by decide) (by decide)
theorem rm_spansHour_74 (l : Launch) (Z : State) (a0 : Array Value) (hw : own_HW Z a0) (ws : List Jvm.Cond)  (h0 : Heap) (n0 : Nat) {w_Role_LOAD w_Quantity_MOVEMENT w_Role_Period_INTERVAL w_Role_Period_HOUR w_Role_VIRTUAL_LOAD w_Quantity_RT w_Quantity_BID w_Quantity_ACTUAL w_Role_VIRTUAL_SUPPLY w_Quantity_DA w_Role_SUPPLIER w_Role_HUB_POI w_Quantity_PERFORMANCE w_Role_REGULATION w_Role_EXPORT w_Role_IMPORT w_Role_HUB_POW : Addr} (H : own_C Z h0 w_Role_LOAD w_Quantity_MOVEMENT w_Role_Period_INTERVAL w_Role_Period_HOUR w_Role_VIRTUAL_LOAD w_Quantity_RT w_Quantity_BID w_Quantity_ACTUAL w_Role_VIRTUAL_SUPPLY w_Quantity_DA w_Role_SUPPLIER w_Role_HUB_POI w_Quantity_PERFORMANCE w_Role_REGULATION w_Role_EXPORT w_Role_IMPORT w_Role_HUB_POW) :
    own_Met l (⟨"com/example/gridledger/gridledger/positions/Role", "spansHour", "(Lcom/example/gridledger/gridledger/positions/Quantity;)Z"⟩ : MethodName) prog_41_method_10_code 2 (some .boolean) ws (own_rm 1 0 0 12) Z #[(.ref w_Role_REGULATION), (.ref w_Quantity_PERFORMANCE)] h0 (own_R (some (.int (0 : Int32))) h0) := by
  refine own_met (plainFor_of_name pn_2) ?_
  intro p e s m below meth c T0 hx hby hml hown hret hk hnm hZ X0 e0
  have hown : s.vm.findClass "com/example/gridledger/gridledger/positions/Role" = some m.cls := hown
  obtain ⟨-, -, -, -, -, -, S_w_Role_Period_HOUR, -, -, -, -, -, -, -, -, -, -, -, -, -, -, -, -, -, -, E_w_Quantity_PERFORMANCE, -, -, -, -, -, -, -, -, -, -, -, -, -, -, -, -, -, -, -, -, F_w_Role_REGULATION_period, -, -, -, -, ne_w_Role_Period_HOUR_w_Role_Period_INTERVAL⟩ := id H
  refine own_ent (ef_2 m w_Role_REGULATION w_Quantity_PERFORMANCE) ?_
  refine own_aload_n X0 hx (hb hby d2_0) rfl rfl 1 rfl ?_
  refine own_pureV X0 hx hZ hown (own_w hw 19 rfl) (own_w hw 20 rfl) (notFace_of_selects (args := #[]) (mvT hZ (own_w hw 22 rfl))) (own_w hw 22 rfl) (own_w hw 21 rfl) (own_w hw 12 rfl) (own_w hw 23 rfl) (by decide) w_Quantity_PERFORMANCE [] [] 0 (rm_hourly_15 l Z a0 hw []  h0 n0 H) (by decide) (by decide) rfl rfl e0 E_w_Quantity_PERFORMANCE (by rw [hml]; rfl) (lenOf pd_2 rfl) (Nat.le_of_eq rfl) (hb hby d2_1) 4 rfl rfl (by decide) (by decide) fun T2 X2 e2 => ?_
  refine own_ifN X2 hx (hb hby d2_4) ((if0 _ _).trans (teq (by decide : (0 : Int32) = (0 : Int32))).2) 7 rfl ?_
  refine own_aload_n X2 hx (hb hby d2_7) rfl rfl 8 rfl ?_
  refine own_getF X2 hx hZ hown (host := "") (Or.inl (own_w hw 26 rfl)) Via.refl e2 F_w_Role_REGULATION_period (hb hby d2_8) 11 rfl fun T3 X3 e3 => ?_
  refine own_getS X3 hx hZ hown (host := "") (Or.inl (own_w hw 30 rfl)) Via.refl e3 S_w_Role_Period_HOUR (hb hby d2_11) 14 rfl fun T4 X4 e4 => ?_
  refine own_acmp X4 hx false (hb hby d2_14) rfl rfl (decide_eq_false fun q => (Ne.symm ne_w_Role_Period_HOUR_w_Role_Period_INTERVAL) (Value.ref.inj q)) 21 (by decide) (by decide) ?_
  refine own_iconst X4 hx (hb hby d2_21) (0 : Int32) rfl 22 rfl ?_
  exact own_retZ X4 hx hk hret (hb hby d2_22) rfl ⟨rfl, e4, rfl⟩ (by decide) (by decide)
theorem rm_spansHour_75 (l : Launch) (Z : State) (a0 : Array Value) (hw : own_HW Z a0) (ws : List Jvm.Cond)  (h0 : Heap) (n0 : Nat) {w_Role_LOAD w_Quantity_MOVEMENT w_Role_Period_INTERVAL w_Role_Period_HOUR w_Role_VIRTUAL_LOAD w_Quantity_RT w_Quantity_BID w_Quantity_ACTUAL w_Role_VIRTUAL_SUPPLY w_Quantity_DA w_Role_SUPPLIER w_Role_HUB_POI w_Quantity_PERFORMANCE w_Role_REGULATION w_Role_EXPORT w_Role_IMPORT w_Role_HUB_POW : Addr} (H : own_C Z h0 w_Role_LOAD w_Quantity_MOVEMENT w_Role_Period_INTERVAL w_Role_Period_HOUR w_Role_VIRTUAL_LOAD w_Quantity_RT w_Quantity_BID w_Quantity_ACTUAL w_Role_VIRTUAL_SUPPLY w_Quantity_DA w_Role_SUPPLIER w_Role_HUB_POI w_Quantity_PERFORMANCE w_Role_REGULATION w_Role_EXPORT w_Role_IMPORT w_Role_HUB_POW) :
    own_Met l (⟨"com/example/gridledger/gridledger/positions/Role", "spansHour", "(Lcom/example/gridledger/gridledger/positions/Quantity;)Z"⟩ : MethodName) prog_41_method_10_code 2 (some .boolean) ws (own_rm 1 0 0 12) Z #[(.ref w_Role_REGULATION), (.ref w_Quantity_BID)] h0 (own_R (some (.int (1 : Int32))) h0) := by
  refine own_met (plainFor_of_name pn_2) ?_
  intro p e s m below meth c T0 hx hby hml hown hret hk hnm hZ X0 e0
  have hown : s.vm.findClass "com/example/gridledger/gridledger/positions/Role" = some m.cls := hown
  obtain ⟨-, -, -, -, -, -, -, -, -, -, -, -, -, E_w_Quantity_BID, -, -, -, -, -, -, -, -, -, -, -, -, -, -, -, -, -, -, -, -, -, -, -, -, -, -, -, -, -, -, -, -, -, -, -, -, -, -⟩ := id H
  refine own_ent (ef_2 m w_Role_REGULATION w_Quantity_BID) ?_
  refine own_aload_n X0 hx (hb hby d2_0) rfl rfl 1 rfl ?_
  refine own_pureV X0 hx hZ hown (own_w hw 19 rfl) (own_w hw 20 rfl) (notFace_of_selects (args := #[]) (mvT hZ (own_w hw 22 rfl))) (own_w hw 22 rfl) (own_w hw 21 rfl) (own_w hw 12 rfl) (own_w hw 23 rfl) (by decide) w_Quantity_BID [] [] 0 (rm_hourly_18 l Z a0 hw []  h0 n0 H) (by decide) (by decide) rfl rfl e0 E_w_Quantity_BID (by rw [hml]; rfl) (lenOf pd_2 rfl) (Nat.le_of_eq rfl) (hb hby d2_1) 4 rfl rfl (by decide) (by decide) fun T2 X2 e2 => ?_
  refine own_ifY X2 hx (hb hby d2_4) ((if0 _ _).trans (feq (by decide : ¬ ((1 : Int32) = (0 : Int32)))).2) 17 (by decide) (by decide) ?_
  refine own_iconst X2 hx (hb hby d2_17) (1 : Int32) rfl 18 rfl ?_
  refine own_goto X2 hx (hb hby d2_18) 22 (by decide) (by decide) ?_
  exact own_retZ X2 hx hk hret (hb hby d2_22) rfl ⟨rfl, e2, rfl⟩ (by decide) (by decide)
theorem pd_0 : parseMethodDescriptor "(I)Lcom/example/gridledger/gridledger/positions/Role;" = some ⟨[.int], some (.object "com/example/gridledger/gridledger/positions/Role")⟩ := by decide +kernel
theorem pd_1 : parseMethodDescriptor "(I)Lcom/example/gridledger/gridledger/positions/Quantity;" = some ⟨[.int], some (.object "com/example/gridledger/gridledger/positions/Quantity")⟩ := by decide +kernel
theorem pd_3 : parseMethodDescriptor "(Lcom/example/gridledger/gridledger/positions/Quantity;)Z" = some ⟨[(.object "com/example/gridledger/gridledger/positions/Quantity")], some .boolean⟩ := by decide +kernel
theorem ef_3 (m : MethodId) (y0 : Int32) (y1 : Int32) : entryFrame m #[(.int y0), (.int y1)] maxLocals = mkF m 0 #[.val (.int y0), .val (.int y1), .unset, .unset, .unset, .unset, .unset] [] := by first | (simp [entryFrame, mkF, argsToLocals, Value.category, maxLocals]; done) | rfl
theorem rm0 (l : Launch) (Z : State) (a0 : Array Value) (hw : own_HW Z a0) (ws : List Jvm.Cond) (x0 : Int32) (x1 : Int32) (h0 : Heap) (n0 : Nat) {w_Role_LOAD w_Quantity_MOVEMENT w_Role_Period_INTERVAL w_Role_Period_HOUR w_Role_VIRTUAL_LOAD w_Quantity_RT w_Quantity_BID w_Quantity_ACTUAL w_Role_VIRTUAL_SUPPLY w_Quantity_DA w_Role_SUPPLIER w_Role_HUB_POI w_Quantity_PERFORMANCE w_Role_REGULATION w_Role_EXPORT w_Role_IMPORT w_Role_HUB_POW : Addr} (H : own_C Z h0 w_Role_LOAD w_Quantity_MOVEMENT w_Role_Period_INTERVAL w_Role_Period_HOUR w_Role_VIRTUAL_LOAD w_Quantity_RT w_Quantity_BID w_Quantity_ACTUAL w_Role_VIRTUAL_SUPPLY w_Quantity_DA w_Role_SUPPLIER w_Role_HUB_POI w_Quantity_PERFORMANCE w_Role_REGULATION w_Role_EXPORT w_Role_IMPORT w_Role_HUB_POW) :
    own_Met l x code maxLocals ret ws room_1 Z #[(.int x0), (.int x1)] h0 (own_Q0 n0) := by
  refine own_met (plainFor_of_name pn_0) ?_
  intro p e s m below meth c T0 hx hby hml hown hret hk hnm hZ X0 e0
  have hown : s.vm.findClass "com/example/gridledger/gridledger/positions/RoleSpansHourPinLaw" = some m.cls := hown
  obtain ⟨-, E_w_Role_LOAD, -, -, -, -, -, -, -, E_w_Role_VIRTUAL_LOAD, -, -, -, -, -, -, -, E_w_Role_VIRTUAL_SUPPLY, -, -, -, E_w_Role_SUPPLIER, -, E_w_Role_HUB_POI, -, -, -, E_w_Role_REGULATION, -, E_w_Role_EXPORT, -, E_w_Role_IMPORT, -, E_w_Role_HUB_POW, -, -, -, -, -, -, -, -, -, -, -, -, -, -, -, -, -, -⟩ := id H
  refine own_ent (ef_3 m x0 x1) ?_
  refine own_iload_n X0 hx (hb hby at_0) rfl 1 rfl ?_
  refine own_ldc X0 hx hZ hown (own_w hw 0 rfl) (hb hby at_1) 3 rfl ?_
  refine own_iand X0 hx (hb hby at_3) 4 rfl ?_
  refine own_bipush X0 hx (hb hby at_4) (9 : Int32) rfl 6 rfl ?_
  refine own_irem X0 hx (hb hby at_6) (by decide) 7 rfl ?_
  rcases own_mod9 x0 with q1 | q1 | q1 | q1 | q1 | q1 | q1 | q1 | q1
  · rw [q1]
    refine own_istore_n X0 hx (hb hby at_7) #[.val (.int x0), .val (.int x1), .val (.int (0 : Int32)), .unset, .unset, .unset, .unset] rfl 8 rfl ?_
    refine own_iload_n X0 hx (hb hby at_8) rfl 9 rfl ?_
    refine own_ldc X0 hx hZ hown (own_w hw 0 rfl) (hb hby at_9) 11 rfl ?_
    refine own_iand X0 hx (hb hby at_11) 12 rfl ?_
    refine own_bipush X0 hx (hb hby at_12) (6 : Int32) rfl 14 rfl ?_
    refine own_irem X0 hx (hb hby at_14) (by decide) 15 rfl ?_
    rcases own_mod6 x1 with q2 | q2 | q2 | q2 | q2 | q2
    · rw [q2]
      refine own_istore_n X0 hx (hb hby at_15) #[.val (.int x0), .val (.int x1), .val (.int (0 : Int32)), .val (.int (0 : Int32)), .unset, .unset, .unset] rfl 16 rfl ?_
      refine own_iload_n X0 hx (hb hby at_16) rfl 17 rfl ?_
      refine own_ifY X0 hx (hb hby at_17) ((if0 _ _).trans (teq (by decide : (0 : Int32) = (0 : Int32))).1) 25 (by decide) (by decide) ?_
      refine own_iconst X0 hx (hb hby at_25) (1 : Int32) rfl 26 rfl ?_
      refine own_goto X0 hx (hb hby at_26) 30 (by decide) (by decide) ?_
      refine own_istore X0 hx (hb hby at_30) #[.val (.int x0), .val (.int x1), .val (.int (0 : Int32)), .val (.int (0 : Int32)), .val (.int (1 : Int32)), .unset, .unset] rfl 32 rfl ?_
      refine own_iload_n X0 hx (hb hby at_32) rfl 33 rfl ?_
      refine own_iconst X0 hx (hb hby at_33) (4 : Int32) rfl 34 rfl ?_
      refine own_icmpY X0 hx (hb hby at_34) (tlt (by decide : (0 : Int32) < (4 : Int32))).1 47 (by decide) (by decide) ?_
      refine own_iconst X0 hx (hb hby at_47) (0 : Int32) rfl 48 rfl ?_
      refine own_istore X0 hx (hb hby at_48) #[.val (.int x0), .val (.int x1), .val (.int (0 : Int32)), .val (.int (0 : Int32)), .val (.int (1 : Int32)), .val (.int (0 : Int32)), .unset] rfl 50 rfl ?_
      refine own_iload X0 hx (hb hby at_50) rfl 52 rfl ?_
      refine own_ifY X0 hx (hb hby at_52) ((if0 _ _).trans (feq (by decide : ¬ ((1 : Int32) = (0 : Int32)))).2) 60 (by decide) (by decide) ?_
      refine own_iconst X0 hx (hb hby at_60) (1 : Int32) rfl 61 rfl ?_
      refine own_goto X0 hx (hb hby at_61) 65 (by decide) (by decide) ?_
      refine own_istore X0 hx (hb hby at_65) #[.val (.int x0), .val (.int x1), .val (.int (0 : Int32)), .val (.int (0 : Int32)), .val (.int (1 : Int32)), .val (.int (0 : Int32)), .val (.int (1 : Int32))] rfl 67 rfl ?_
      refine own_iload_n X0 hx (hb hby at_67) rfl 68 rfl ?_
      refine own_pureS X0 hx hZ hown (own_w hw 1 rfl) (own_w hw 2 rfl) (own_w hw 3 rfl) (own_w hw 4 rfl) (by decide) [(.int (0 : Int32))] [] 0 (rm_role_1 l Z a0 hw []  h0 n0 H) (by decide) (by decide) rfl rfl e0 (by rw [hml]; rfl) (lenOf pd_0 rfl) (Nat.le_of_eq rfl) (hb hby at_68) 71 rfl rfl (by decide) (by decide) fun T4 X4 e4 => ?_
      refine own_iload_n X4 hx (hb hby at_71) rfl 72 rfl ?_
      refine own_pureS X4 hx hZ hown (own_w hw 8 rfl) (own_w hw 9 rfl) (own_w hw 3 rfl) (own_w hw 10 rfl) (by decide) [(.int (0 : Int32))] [(.ref w_Role_LOAD)] 1 (rm_quantity_2 l Z a0 hw []  h0 n0 H) (by decide) (by decide) rfl rfl e4 (by rw [hml]; rfl) (lenOf pd_1 rfl) (Nat.le_of_eq rfl) (hb hby at_72) 75 rfl rfl (by decide) (by decide) fun T6 X6 e6 => ?_
      refine own_pureV X6 hx hZ hown (own_w hw 14 rfl) (own_w hw 15 rfl) (notFace_of_selects (args := #[]) (mvT hZ (own_w hw 17 rfl))) (own_w hw 17 rfl) (own_w hw 16 rfl) (own_w hw 6 rfl) (own_w hw 18 rfl) (by decide) w_Role_LOAD [(.ref w_Quantity_DA)] [] 0 (rm_spansHour_3 l Z a0 hw []  h0 n0 H) (by decide) (by decide) rfl rfl e6 E_w_Role_LOAD (by rw [hml]; rfl) (lenOf pd_3 rfl) (Nat.le_of_eq rfl) (hb hby at_75) 78 rfl rfl (by decide) (by decide) fun T8 X8 e8 => ?_
      refine own_iload X8 hx (hb hby at_78) rfl 80 rfl ?_
      refine own_icmpN X8 hx (hb hby at_80) (teq (by decide : (1 : Int32) = (1 : Int32))).2 83 rfl ?_
      refine own_iconst X8 hx (hb hby at_83) (1 : Int32) rfl 84 rfl ?_
      refine own_goto X8 hx (hb hby at_84) 88 (by decide) (by decide) ?_
      exact own_retZ X8 hx hk hret (hb hby at_88) rfl ⟨rfl, Fr.nil _⟩ (by decide) (by decide)
    · rw [q2]
      refine own_istore_n X0 hx (hb hby at_15) #[.val (.int x0), .val (.int x1), .val (.int (0 : Int32)), .val (.int (1 : Int32)), .unset, .unset, .unset] rfl 16 rfl ?_
      refine own_iload_n X0 hx (hb hby at_16) rfl 17 rfl ?_
      refine own_ifN X0 hx (hb hby at_17) ((if0 _ _).trans (feq (by decide : ¬ ((1 : Int32) = (0 : Int32)))).1) 20 rfl ?_
      refine own_iload_n X0 hx (hb hby at_20) rfl 21 rfl ?_
      refine own_iconst X0 hx (hb hby at_21) (5 : Int32) rfl 22 rfl ?_
      refine own_icmpY X0 hx (hb hby at_22) (feq (by decide : ¬ ((1 : Int32) = (5 : Int32)))).2 29 (by decide) (by decide) ?_
      refine own_iconst X0 hx (hb hby at_29) (0 : Int32) rfl 30 rfl ?_
      refine own_istore X0 hx (hb hby at_30) #[.val (.int x0), .val (.int x1), .val (.int (0 : Int32)), .val (.int (1 : Int32)), .val (.int (0 : Int32)), .unset, .unset] rfl 32 rfl ?_
      refine own_iload_n X0 hx (hb hby at_32) rfl 33 rfl ?_
      refine own_iconst X0 hx (hb hby at_33) (4 : Int32) rfl 34 rfl ?_
      refine own_icmpY X0 hx (hb hby at_34) (tlt (by decide : (0 : Int32) < (4 : Int32))).1 47 (by decide) (by decide) ?_
      refine own_iconst X0 hx (hb hby at_47) (0 : Int32) rfl 48 rfl ?_
      refine own_istore X0 hx (hb hby at_48) #[.val (.int x0), .val (.int x1), .val (.int (0 : Int32)), .val (.int (1 : Int32)), .val (.int (0 : Int32)), .val (.int (0 : Int32)), .unset] rfl 50 rfl ?_
      refine own_iload X0 hx (hb hby at_50) rfl 52 rfl ?_
      refine own_ifN X0 hx (hb hby at_52) ((if0 _ _).trans (teq (by decide : (0 : Int32) = (0 : Int32))).2) 55 rfl ?_
      refine own_iload X0 hx (hb hby at_55) rfl 57 rfl ?_
      refine own_ifY X0 hx (hb hby at_57) ((if0 _ _).trans (teq (by decide : (0 : Int32) = (0 : Int32))).1) 64 (by decide) (by decide) ?_
      refine own_iconst X0 hx (hb hby at_64) (0 : Int32) rfl 65 rfl ?_
      refine own_istore X0 hx (hb hby at_65) #[.val (.int x0), .val (.int x1), .val (.int (0 : Int32)), .val (.int (1 : Int32)), .val (.int (0 : Int32)), .val (.int (0 : Int32)), .val (.int (0 : Int32))] rfl 67 rfl ?_
      refine own_iload_n X0 hx (hb hby at_67) rfl 68 rfl ?_
      refine own_pureS X0 hx hZ hown (own_w hw 1 rfl) (own_w hw 2 rfl) (own_w hw 3 rfl) (own_w hw 4 rfl) (by decide) [(.int (0 : Int32))] [] 0 (rm_role_1 l Z a0 hw []  h0 n0 H) (by decide) (by decide) rfl rfl e0 (by rw [hml]; rfl) (lenOf pd_0 rfl) (Nat.le_of_eq rfl) (hb hby at_68) 71 rfl rfl (by decide) (by decide) fun T10 X10 e10 => ?_
      refine own_iload_n X10 hx (hb hby at_71) rfl 72 rfl ?_
      refine own_pureS X10 hx hZ hown (own_w hw 8 rfl) (own_w hw 9 rfl) (own_w hw 3 rfl) (own_w hw 10 rfl) (by decide) [(.int (1 : Int32))] [(.ref w_Role_LOAD)] 1 (rm_quantity_5 l Z a0 hw []  h0 n0 H) (by decide) (by decide) rfl rfl e10 (by rw [hml]; rfl) (lenOf pd_1 rfl) (Nat.le_of_eq rfl) (hb hby at_72) 75 rfl rfl (by decide) (by decide) fun T12 X12 e12 => ?_
      refine own_pureV X12 hx hZ hown (own_w hw 14 rfl) (own_w hw 15 rfl) (notFace_of_selects (args := #[]) (mvT hZ (own_w hw 17 rfl))) (own_w hw 17 rfl) (own_w hw 16 rfl) (own_w hw 6 rfl) (own_w hw 18 rfl) (by decide) w_Role_LOAD [(.ref w_Quantity_RT)] [] 0 (rm_spansHour_6 l Z a0 hw []  h0 n0 H) (by decide) (by decide) rfl rfl e12 E_w_Role_LOAD (by rw [hml]; rfl) (lenOf pd_3 rfl) (Nat.le_of_eq rfl) (hb hby at_75) 78 rfl rfl (by decide) (by decide) fun T14 X14 e14 => ?_
      refine own_iload X14 hx (hb hby at_78) rfl 80 rfl ?_
      refine own_icmpN X14 hx (hb hby at_80) (teq (by decide : (0 : Int32) = (0 : Int32))).2 83 rfl ?_
      refine own_iconst X14 hx (hb hby at_83) (1 : Int32) rfl 84 rfl ?_
      refine own_goto X14 hx (hb hby at_84) 88 (by decide) (by decide) ?_
      exact own_retZ X14 hx hk hret (hb hby at_88) rfl ⟨rfl, Fr.nil _⟩ (by decide) (by decide)
    · rw [q2]
      refine own_istore_n X0 hx (hb hby at_15) #[.val (.int x0), .val (.int x1), .val (.int (0 : Int32)), .val (.int (2 : Int32)), .unset, .unset, .unset] rfl 16 rfl ?_
      refine own_iload_n X0 hx (hb hby at_16) rfl 17 rfl ?_
      refine own_ifN X0 hx (hb hby at_17) ((if0 _ _).trans (feq (by decide : ¬ ((2 : Int32) = (0 : Int32)))).1) 20 rfl ?_
      refine own_iload_n X0 hx (hb hby at_20) rfl 21 rfl ?_
      refine own_iconst X0 hx (hb hby at_21) (5 : Int32) rfl 22 rfl ?_
      refine own_icmpY X0 hx (hb hby at_22) (feq (by decide : ¬ ((2 : Int32) = (5 : Int32)))).2 29 (by decide) (by decide) ?_
      refine own_iconst X0 hx (hb hby at_29) (0 : Int32) rfl 30 rfl ?_
      refine own_istore X0 hx (hb hby at_30) #[.val (.int x0), .val (.int x1), .val (.int (0 : Int32)), .val (.int (2 : Int32)), .val (.int (0 : Int32)), .unset, .unset] rfl 32 rfl ?_
      refine own_iload_n X0 hx (hb hby at_32) rfl 33 rfl ?_
      refine own_iconst X0 hx (hb hby at_33) (4 : Int32) rfl 34 rfl ?_
      refine own_icmpY X0 hx (hb hby at_34) (tlt (by decide : (0 : Int32) < (4 : Int32))).1 47 (by decide) (by decide) ?_
      refine own_iconst X0 hx (hb hby at_47) (0 : Int32) rfl 48 rfl ?_
      refine own_istore X0 hx (hb hby at_48) #[.val (.int x0), .val (.int x1), .val (.int (0 : Int32)), .val (.int (2 : Int32)), .val (.int (0 : Int32)), .val (.int (0 : Int32)), .unset] rfl 50 rfl ?_
      refine own_iload X0 hx (hb hby at_50) rfl 52 rfl ?_
      refine own_ifN X0 hx (hb hby at_52) ((if0 _ _).trans (teq (by decide : (0 : Int32) = (0 : Int32))).2) 55 rfl ?_
      refine own_iload X0 hx (hb hby at_55) rfl 57 rfl ?_
      refine own_ifY X0 hx (hb hby at_57) ((if0 _ _).trans (teq (by decide : (0 : Int32) = (0 : Int32))).1) 64 (by decide) (by decide) ?_
      refine own_iconst X0 hx (hb hby at_64) (0 : Int32) rfl 65 rfl ?_
      refine own_istore X0 hx (hb hby at_65) #[.val (.int x0), .val (.int x1), .val (.int (0 : Int32)), .val (.int (2 : Int32)), .val (.int (0 : Int32)), .val (.int (0 : Int32)), .val (.int (0 : Int32))] rfl 67 rfl ?_
      refine own_iload_n X0 hx (hb hby at_67) rfl 68 rfl ?_
      refine own_pureS X0 hx hZ hown (own_w hw 1 rfl) (own_w hw 2 rfl) (own_w hw 3 rfl) (own_w hw 4 rfl) (by decide) [(.int (0 : Int32))] [] 0 (rm_role_1 l Z a0 hw []  h0 n0 H) (by decide) (by decide) rfl rfl e0 (by rw [hml]; rfl) (lenOf pd_0 rfl) (Nat.le_of_eq rfl) (hb hby at_68) 71 rfl rfl (by decide) (by decide) fun T16 X16 e16 => ?_
      refine own_iload_n X16 hx (hb hby at_71) rfl 72 rfl ?_
      refine own_pureS X16 hx hZ hown (own_w hw 8 rfl) (own_w hw 9 rfl) (own_w hw 3 rfl) (own_w hw 10 rfl) (by decide) [(.int (2 : Int32))] [(.ref w_Role_LOAD)] 1 (rm_quantity_8 l Z a0 hw []  h0 n0 H) (by decide) (by decide) rfl rfl e16 (by rw [hml]; rfl) (lenOf pd_1 rfl) (Nat.le_of_eq rfl) (hb hby at_72) 75 rfl rfl (by decide) (by decide) fun T18 X18 e18 => ?_
      refine own_pureV X18 hx hZ hown (own_w hw 14 rfl) (own_w hw 15 rfl) (notFace_of_selects (args := #[]) (mvT hZ (own_w hw 17 rfl))) (own_w hw 17 rfl) (own_w hw 16 rfl) (own_w hw 6 rfl) (own_w hw 18 rfl) (by decide) w_Role_LOAD [(.ref w_Quantity_ACTUAL)] [] 0 (rm_spansHour_9 l Z a0 hw []  h0 n0 H) (by decide) (by decide) rfl rfl e18 E_w_Role_LOAD (by rw [hml]; rfl) (lenOf pd_3 rfl) (Nat.le_of_eq rfl) (hb hby at_75) 78 rfl rfl (by decide) (by decide) fun T20 X20 e20 => ?_
      refine own_iload X20 hx (hb hby at_78) rfl 80 rfl ?_
      refine own_icmpN X20 hx (hb hby at_80) (teq (by decide : (0 : Int32) = (0 : Int32))).2 83 rfl ?_
      refine own_iconst X20 hx (hb hby at_83) (1 : Int32) rfl 84 rfl ?_
      refine own_goto X20 hx (hb hby at_84) 88 (by decide) (by decide) ?_
      exact own_retZ X20 hx hk hret (hb hby at_88) rfl ⟨rfl, Fr.nil _⟩ (by decide) (by decide)
    · rw [q2]
      refine own_istore_n X0 hx (hb hby at_15) #[.val (.int x0), .val (.int x1), .val (.int (0 : Int32)), .val (.int (3 : Int32)), .unset, .unset, .unset] rfl 16 rfl ?_
      refine own_iload_n X0 hx (hb hby at_16) rfl 17 rfl ?_
      refine own_ifN X0 hx (hb hby at_17) ((if0 _ _).trans (feq (by decide : ¬ ((3 : Int32) = (0 : Int32)))).1) 20 rfl ?_
      refine own_iload_n X0 hx (hb hby at_20) rfl 21 rfl ?_
      refine own_iconst X0 hx (hb hby at_21) (5 : Int32) rfl 22 rfl ?_
      refine own_icmpY X0 hx (hb hby at_22) (feq (by decide : ¬ ((3 : Int32) = (5 : Int32)))).2 29 (by decide) (by decide) ?_
      refine own_iconst X0 hx (hb hby at_29) (0 : Int32) rfl 30 rfl ?_
      refine own_istore X0 hx (hb hby at_30) #[.val (.int x0), .val (.int x1), .val (.int (0 : Int32)), .val (.int (3 : Int32)), .val (.int (0 : Int32)), .unset, .unset] rfl 32 rfl ?_
      refine own_iload_n X0 hx (hb hby at_32) rfl 33 rfl ?_
      refine own_iconst X0 hx (hb hby at_33) (4 : Int32) rfl 34 rfl ?_
      refine own_icmpY X0 hx (hb hby at_34) (tlt (by decide : (0 : Int32) < (4 : Int32))).1 47 (by decide) (by decide) ?_
      refine own_iconst X0 hx (hb hby at_47) (0 : Int32) rfl 48 rfl ?_
      refine own_istore X0 hx (hb hby at_48) #[.val (.int x0), .val (.int x1), .val (.int (0 : Int32)), .val (.int (3 : Int32)), .val (.int (0 : Int32)), .val (.int (0 : Int32)), .unset] rfl 50 rfl ?_
      refine own_iload X0 hx (hb hby at_50) rfl 52 rfl ?_
      refine own_ifN X0 hx (hb hby at_52) ((if0 _ _).trans (teq (by decide : (0 : Int32) = (0 : Int32))).2) 55 rfl ?_
      refine own_iload X0 hx (hb hby at_55) rfl 57 rfl ?_
      refine own_ifY X0 hx (hb hby at_57) ((if0 _ _).trans (teq (by decide : (0 : Int32) = (0 : Int32))).1) 64 (by decide) (by decide) ?_
      refine own_iconst X0 hx (hb hby at_64) (0 : Int32) rfl 65 rfl ?_
      refine own_istore X0 hx (hb hby at_65) #[.val (.int x0), .val (.int x1), .val (.int (0 : Int32)), .val (.int (3 : Int32)), .val (.int (0 : Int32)), .val (.int (0 : Int32)), .val (.int (0 : Int32))] rfl 67 rfl ?_
      refine own_iload_n X0 hx (hb hby at_67) rfl 68 rfl ?_
      refine own_pureS X0 hx hZ hown (own_w hw 1 rfl) (own_w hw 2 rfl) (own_w hw 3 rfl) (own_w hw 4 rfl) (by decide) [(.int (0 : Int32))] [] 0 (rm_role_1 l Z a0 hw []  h0 n0 H) (by decide) (by decide) rfl rfl e0 (by rw [hml]; rfl) (lenOf pd_0 rfl) (Nat.le_of_eq rfl) (hb hby at_68) 71 rfl rfl (by decide) (by decide) fun T22 X22 e22 => ?_
      refine own_iload_n X22 hx (hb hby at_71) rfl 72 rfl ?_
      refine own_pureS X22 hx hZ hown (own_w hw 8 rfl) (own_w hw 9 rfl) (own_w hw 3 rfl) (own_w hw 10 rfl) (by decide) [(.int (3 : Int32))] [(.ref w_Role_LOAD)] 1 (rm_quantity_11 l Z a0 hw []  h0 n0 H) (by decide) (by decide) rfl rfl e22 (by rw [hml]; rfl) (lenOf pd_1 rfl) (Nat.le_of_eq rfl) (hb hby at_72) 75 rfl rfl (by decide) (by decide) fun T24 X24 e24 => ?_
      refine own_pureV X24 hx hZ hown (own_w hw 14 rfl) (own_w hw 15 rfl) (notFace_of_selects (args := #[]) (mvT hZ (own_w hw 17 rfl))) (own_w hw 17 rfl) (own_w hw 16 rfl) (own_w hw 6 rfl) (own_w hw 18 rfl) (by decide) w_Role_LOAD [(.ref w_Quantity_MOVEMENT)] [] 0 (rm_spansHour_12 l Z a0 hw []  h0 n0 H) (by decide) (by decide) rfl rfl e24 E_w_Role_LOAD (by rw [hml]; rfl) (lenOf pd_3 rfl) (Nat.le_of_eq rfl) (hb hby at_75) 78 rfl rfl (by decide) (by decide) fun T26 X26 e26 => ?_
      refine own_iload X26 hx (hb hby at_78) rfl 80 rfl ?_
      refine own_icmpN X26 hx (hb hby at_80) (teq (by decide : (0 : Int32) = (0 : Int32))).2 83 rfl ?_
      refine own_iconst X26 hx (hb hby at_83) (1 : Int32) rfl 84 rfl ?_
      refine own_goto X26 hx (hb hby at_84) 88 (by decide) (by decide) ?_
      exact own_retZ X26 hx hk hret (hb hby at_88) rfl ⟨rfl, Fr.nil _⟩ (by decide) (by decide)
    · rw [q2]
      refine own_istore_n X0 hx (hb hby at_15) #[.val (.int x0), .val (.int x1), .val (.int (0 : Int32)), .val (.int (4 : Int32)), .unset, .unset, .unset] rfl 16 rfl ?_
      refine own_iload_n X0 hx (hb hby at_16) rfl 17 rfl ?_
      refine own_ifN X0 hx (hb hby at_17) ((if0 _ _).trans (feq (by decide : ¬ ((4 : Int32) = (0 : Int32)))).1) 20 rfl ?_
      refine own_iload_n X0 hx (hb hby at_20) rfl 21 rfl ?_
      refine own_iconst X0 hx (hb hby at_21) (5 : Int32) rfl 22 rfl ?_
      refine own_icmpY X0 hx (hb hby at_22) (feq (by decide : ¬ ((4 : Int32) = (5 : Int32)))).2 29 (by decide) (by decide) ?_
      refine own_iconst X0 hx (hb hby at_29) (0 : Int32) rfl 30 rfl ?_
      refine own_istore X0 hx (hb hby at_30) #[.val (.int x0), .val (.int x1), .val (.int (0 : Int32)), .val (.int (4 : Int32)), .val (.int (0 : Int32)), .unset, .unset] rfl 32 rfl ?_
      refine own_iload_n X0 hx (hb hby at_32) rfl 33 rfl ?_
      refine own_iconst X0 hx (hb hby at_33) (4 : Int32) rfl 34 rfl ?_
      refine own_icmpY X0 hx (hb hby at_34) (tlt (by decide : (0 : Int32) < (4 : Int32))).1 47 (by decide) (by decide) ?_
      refine own_iconst X0 hx (hb hby at_47) (0 : Int32) rfl 48 rfl ?_
      refine own_istore X0 hx (hb hby at_48) #[.val (.int x0), .val (.int x1), .val (.int (0 : Int32)), .val (.int (4 : Int32)), .val (.int (0 : Int32)), .val (.int (0 : Int32)), .unset] rfl 50 rfl ?_
      refine own_iload X0 hx (hb hby at_50) rfl 52 rfl ?_
      refine own_ifN X0 hx (hb hby at_52) ((if0 _ _).trans (teq (by decide : (0 : Int32) = (0 : Int32))).2) 55 rfl ?_
      refine own_iload X0 hx (hb hby at_55) rfl 57 rfl ?_
      refine own_ifY X0 hx (hb hby at_57) ((if0 _ _).trans (teq (by decide : (0 : Int32) = (0 : Int32))).1) 64 (by decide) (by decide) ?_
      refine own_iconst X0 hx (hb hby at_64) (0 : Int32) rfl 65 rfl ?_
      refine own_istore X0 hx (hb hby at_65) #[.val (.int x0), .val (.int x1), .val (.int (0 : Int32)), .val (.int (4 : Int32)), .val (.int (0 : Int32)), .val (.int (0 : Int32)), .val (.int (0 : Int32))] rfl 67 rfl ?_
      refine own_iload_n X0 hx (hb hby at_67) rfl 68 rfl ?_
      refine own_pureS X0 hx hZ hown (own_w hw 1 rfl) (own_w hw 2 rfl) (own_w hw 3 rfl) (own_w hw 4 rfl) (by decide) [(.int (0 : Int32))] [] 0 (rm_role_1 l Z a0 hw []  h0 n0 H) (by decide) (by decide) rfl rfl e0 (by rw [hml]; rfl) (lenOf pd_0 rfl) (Nat.le_of_eq rfl) (hb hby at_68) 71 rfl rfl (by decide) (by decide) fun T28 X28 e28 => ?_
      refine own_iload_n X28 hx (hb hby at_71) rfl 72 rfl ?_
      refine own_pureS X28 hx hZ hown (own_w hw 8 rfl) (own_w hw 9 rfl) (own_w hw 3 rfl) (own_w hw 10 rfl) (by decide) [(.int (4 : Int32))] [(.ref w_Role_LOAD)] 1 (rm_quantity_14 l Z a0 hw []  h0 n0 H) (by decide) (by decide) rfl rfl e28 (by rw [hml]; rfl) (lenOf pd_1 rfl) (Nat.le_of_eq rfl) (hb hby at_72) 75 rfl rfl (by decide) (by decide) fun T30 X30 e30 => ?_
      refine own_pureV X30 hx hZ hown (own_w hw 14 rfl) (own_w hw 15 rfl) (notFace_of_selects (args := #[]) (mvT hZ (own_w hw 17 rfl))) (own_w hw 17 rfl) (own_w hw 16 rfl) (own_w hw 6 rfl) (own_w hw 18 rfl) (by decide) w_Role_LOAD [(.ref w_Quantity_PERFORMANCE)] [] 0 (rm_spansHour_15 l Z a0 hw []  h0 n0 H) (by decide) (by decide) rfl rfl e30 E_w_Role_LOAD (by rw [hml]; rfl) (lenOf pd_3 rfl) (Nat.le_of_eq rfl) (hb hby at_75) 78 rfl rfl (by decide) (by decide) fun T32 X32 e32 => ?_
      refine own_iload X32 hx (hb hby at_78) rfl 80 rfl ?_
      refine own_icmpN X32 hx (hb hby at_80) (teq (by decide : (0 : Int32) = (0 : Int32))).2 83 rfl ?_
      refine own_iconst X32 hx (hb hby at_83) (1 : Int32) rfl 84 rfl ?_
      refine own_goto X32 hx (hb hby at_84) 88 (by decide) (by decide) ?_
      exact own_retZ X32 hx hk hret (hb hby at_88) rfl ⟨rfl, Fr.nil _⟩ (by decide) (by decide)
    · rw [q2]
      refine own_istore_n X0 hx (hb hby at_15) #[.val (.int x0), .val (.int x1), .val (.int (0 : Int32)), .val (.int (5 : Int32)), .unset, .unset, .unset] rfl 16 rfl ?_
      refine own_iload_n X0 hx (hb hby at_16) rfl 17 rfl ?_
      refine own_ifN X0 hx (hb hby at_17) ((if0 _ _).trans (feq (by decide : ¬ ((5 : Int32) = (0 : Int32)))).1) 20 rfl ?_
      refine own_iload_n X0 hx (hb hby at_20) rfl 21 rfl ?_
      refine own_iconst X0 hx (hb hby at_21) (5 : Int32) rfl 22 rfl ?_
      refine own_icmpN X0 hx (hb hby at_22) (teq (by decide : (5 : Int32) = (5 : Int32))).2 25 rfl ?_
      refine own_iconst X0 hx (hb hby at_25) (1 : Int32) rfl 26 rfl ?_
      refine own_goto X0 hx (hb hby at_26) 30 (by decide) (by decide) ?_
      refine own_istore X0 hx (hb hby at_30) #[.val (.int x0), .val (.int x1), .val (.int (0 : Int32)), .val (.int (5 : Int32)), .val (.int (1 : Int32)), .unset, .unset] rfl 32 rfl ?_
      refine own_iload_n X0 hx (hb hby at_32) rfl 33 rfl ?_
      refine own_iconst X0 hx (hb hby at_33) (4 : Int32) rfl 34 rfl ?_
      refine own_icmpY X0 hx (hb hby at_34) (tlt (by decide : (0 : Int32) < (4 : Int32))).1 47 (by decide) (by decide) ?_
      refine own_iconst X0 hx (hb hby at_47) (0 : Int32) rfl 48 rfl ?_
      refine own_istore X0 hx (hb hby at_48) #[.val (.int x0), .val (.int x1), .val (.int (0 : Int32)), .val (.int (5 : Int32)), .val (.int (1 : Int32)), .val (.int (0 : Int32)), .unset] rfl 50 rfl ?_
      refine own_iload X0 hx (hb hby at_50) rfl 52 rfl ?_
      refine own_ifY X0 hx (hb hby at_52) ((if0 _ _).trans (feq (by decide : ¬ ((1 : Int32) = (0 : Int32)))).2) 60 (by decide) (by decide) ?_
      refine own_iconst X0 hx (hb hby at_60) (1 : Int32) rfl 61 rfl ?_
      refine own_goto X0 hx (hb hby at_61) 65 (by decide) (by decide) ?_
      refine own_istore X0 hx (hb hby at_65) #[.val (.int x0), .val (.int x1), .val (.int (0 : Int32)), .val (.int (5 : Int32)), .val (.int (1 : Int32)), .val (.int (0 : Int32)), .val (.int (1 : Int32))] rfl 67 rfl ?_
      refine own_iload_n X0 hx (hb hby at_67) rfl 68 rfl ?_
      refine own_pureS X0 hx hZ hown (own_w hw 1 rfl) (own_w hw 2 rfl) (own_w hw 3 rfl) (own_w hw 4 rfl) (by decide) [(.int (0 : Int32))] [] 0 (rm_role_1 l Z a0 hw []  h0 n0 H) (by decide) (by decide) rfl rfl e0 (by rw [hml]; rfl) (lenOf pd_0 rfl) (Nat.le_of_eq rfl) (hb hby at_68) 71 rfl rfl (by decide) (by decide) fun T34 X34 e34 => ?_
      refine own_iload_n X34 hx (hb hby at_71) rfl 72 rfl ?_
      refine own_pureS X34 hx hZ hown (own_w hw 8 rfl) (own_w hw 9 rfl) (own_w hw 3 rfl) (own_w hw 10 rfl) (by decide) [(.int (5 : Int32))] [(.ref w_Role_LOAD)] 1 (rm_quantity_17 l Z a0 hw []  h0 n0 H) (by decide) (by decide) rfl rfl e34 (by rw [hml]; rfl) (lenOf pd_1 rfl) (Nat.le_of_eq rfl) (hb hby at_72) 75 rfl rfl (by decide) (by decide) fun T36 X36 e36 => ?_
      refine own_pureV X36 hx hZ hown (own_w hw 14 rfl) (own_w hw 15 rfl) (notFace_of_selects (args := #[]) (mvT hZ (own_w hw 17 rfl))) (own_w hw 17 rfl) (own_w hw 16 rfl) (own_w hw 6 rfl) (own_w hw 18 rfl) (by decide) w_Role_LOAD [(.ref w_Quantity_BID)] [] 0 (rm_spansHour_18 l Z a0 hw []  h0 n0 H) (by decide) (by decide) rfl rfl e36 E_w_Role_LOAD (by rw [hml]; rfl) (lenOf pd_3 rfl) (Nat.le_of_eq rfl) (hb hby at_75) 78 rfl rfl (by decide) (by decide) fun T38 X38 e38 => ?_
      refine own_iload X38 hx (hb hby at_78) rfl 80 rfl ?_
      refine own_icmpN X38 hx (hb hby at_80) (teq (by decide : (1 : Int32) = (1 : Int32))).2 83 rfl ?_
      refine own_iconst X38 hx (hb hby at_83) (1 : Int32) rfl 84 rfl ?_
      refine own_goto X38 hx (hb hby at_84) 88 (by decide) (by decide) ?_
      exact own_retZ X38 hx hk hret (hb hby at_88) rfl ⟨rfl, Fr.nil _⟩ (by decide) (by decide)
  · rw [q1]
    refine own_istore_n X0 hx (hb hby at_7) #[.val (.int x0), .val (.int x1), .val (.int (1 : Int32)), .unset, .unset, .unset, .unset] rfl 8 rfl ?_
    refine own_iload_n X0 hx (hb hby at_8) rfl 9 rfl ?_
    refine own_ldc X0 hx hZ hown (own_w hw 0 rfl) (hb hby at_9) 11 rfl ?_
    refine own_iand X0 hx (hb hby at_11) 12 rfl ?_
    refine own_bipush X0 hx (hb hby at_12) (6 : Int32) rfl 14 rfl ?_
    refine own_irem X0 hx (hb hby at_14) (by decide) 15 rfl ?_
    rcases own_mod6 x1 with q39 | q39 | q39 | q39 | q39 | q39
    · rw [q39]
      refine own_istore_n X0 hx (hb hby at_15) #[.val (.int x0), .val (.int x1), .val (.int (1 : Int32)), .val (.int (0 : Int32)), .unset, .unset, .unset] rfl 16 rfl ?_
      refine own_iload_n X0 hx (hb hby at_16) rfl 17 rfl ?_
      refine own_ifY X0 hx (hb hby at_17) ((if0 _ _).trans (teq (by decide : (0 : Int32) = (0 : Int32))).1) 25 (by decide) (by decide) ?_
      refine own_iconst X0 hx (hb hby at_25) (1 : Int32) rfl 26 rfl ?_
      refine own_goto X0 hx (hb hby at_26) 30 (by decide) (by decide) ?_
      refine own_istore X0 hx (hb hby at_30) #[.val (.int x0), .val (.int x1), .val (.int (1 : Int32)), .val (.int (0 : Int32)), .val (.int (1 : Int32)), .unset, .unset] rfl 32 rfl ?_
      refine own_iload_n X0 hx (hb hby at_32) rfl 33 rfl ?_
      refine own_iconst X0 hx (hb hby at_33) (4 : Int32) rfl 34 rfl ?_
      refine own_icmpY X0 hx (hb hby at_34) (tlt (by decide : (1 : Int32) < (4 : Int32))).1 47 (by decide) (by decide) ?_
      refine own_iconst X0 hx (hb hby at_47) (0 : Int32) rfl 48 rfl ?_
      refine own_istore X0 hx (hb hby at_48) #[.val (.int x0), .val (.int x1), .val (.int (1 : Int32)), .val (.int (0 : Int32)), .val (.int (1 : Int32)), .val (.int (0 : Int32)), .unset] rfl 50 rfl ?_
      refine own_iload X0 hx (hb hby at_50) rfl 52 rfl ?_
      refine own_ifY X0 hx (hb hby at_52) ((if0 _ _).trans (feq (by decide : ¬ ((1 : Int32) = (0 : Int32)))).2) 60 (by decide) (by decide) ?_
      refine own_iconst X0 hx (hb hby at_60) (1 : Int32) rfl 61 rfl ?_
      refine own_goto X0 hx (hb hby at_61) 65 (by decide) (by decide) ?_
      refine own_istore X0 hx (hb hby at_65) #[.val (.int x0), .val (.int x1), .val (.int (1 : Int32)), .val (.int (0 : Int32)), .val (.int (1 : Int32)), .val (.int (0 : Int32)), .val (.int (1 : Int32))] rfl 67 rfl ?_
      refine own_iload_n X0 hx (hb hby at_67) rfl 68 rfl ?_
      refine own_pureS X0 hx hZ hown (own_w hw 1 rfl) (own_w hw 2 rfl) (own_w hw 3 rfl) (own_w hw 4 rfl) (by decide) [(.int (1 : Int32))] [] 0 (rm_role_20 l Z a0 hw []  h0 n0 H) (by decide) (by decide) rfl rfl e0 (by rw [hml]; rfl) (lenOf pd_0 rfl) (Nat.le_of_eq rfl) (hb hby at_68) 71 rfl rfl (by decide) (by decide) fun T41 X41 e41 => ?_
      refine own_iload_n X41 hx (hb hby at_71) rfl 72 rfl ?_
      refine own_pureS X41 hx hZ hown (own_w hw 8 rfl) (own_w hw 9 rfl) (own_w hw 3 rfl) (own_w hw 10 rfl) (by decide) [(.int (0 : Int32))] [(.ref w_Role_SUPPLIER)] 1 (rm_quantity_2 l Z a0 hw []  h0 n0 H) (by decide) (by decide) rfl rfl e41 (by rw [hml]; rfl) (lenOf pd_1 rfl) (Nat.le_of_eq rfl) (hb hby at_72) 75 rfl rfl (by decide) (by decide) fun T43 X43 e43 => ?_
      refine own_pureV X43 hx hZ hown (own_w hw 14 rfl) (own_w hw 15 rfl) (notFace_of_selects (args := #[]) (mvT hZ (own_w hw 17 rfl))) (own_w hw 17 rfl) (own_w hw 16 rfl) (own_w hw 6 rfl) (own_w hw 18 rfl) (by decide) w_Role_SUPPLIER [(.ref w_Quantity_DA)] [] 0 (rm_spansHour_21 l Z a0 hw []  h0 n0 H) (by decide) (by decide) rfl rfl e43 E_w_Role_SUPPLIER (by rw [hml]; rfl) (lenOf pd_3 rfl) (Nat.le_of_eq rfl) (hb hby at_75) 78 rfl rfl (by decide) (by decide) fun T45 X45 e45 => ?_
      refine own_iload X45 hx (hb hby at_78) rfl 80 rfl ?_
      refine own_icmpN X45 hx (hb hby at_80) (teq (by decide : (1 : Int32) = (1 : Int32))).2 83 rfl ?_
      refine own_iconst X45 hx (hb hby at_83) (1 : Int32) rfl 84 rfl ?_
      refine own_goto X45 hx (hb hby at_84) 88 (by decide) (by decide) ?_
      exact own_retZ X45 hx hk hret (hb hby at_88) rfl ⟨rfl, Fr.nil _⟩ (by decide) (by decide)
    · rw [q39]
      refine own_istore_n X0 hx (hb hby at_15) #[.val (.int x0), .val (.int x1), .val (.int (1 : Int32)), .val (.int (1 : Int32)), .unset, .unset, .unset] rfl 16 rfl ?_
      refine own_iload_n X0 hx (hb hby at_16) rfl 17 rfl ?_
      refine own_ifN X0 hx (hb hby at_17) ((if0 _ _).trans (feq (by decide : ¬ ((1 : Int32) = (0 : Int32)))).1) 20 rfl ?_
      refine own_iload_n X0 hx (hb hby at_20) rfl 21 rfl ?_
      refine own_iconst X0 hx (hb hby at_21) (5 : Int32) rfl 22 rfl ?_
      refine own_icmpY X0 hx (hb hby at_22) (feq (by decide : ¬ ((1 : Int32) = (5 : Int32)))).2 29 (by decide) (by decide) ?_
      refine own_iconst X0 hx (hb hby at_29) (0 : Int32) rfl 30 rfl ?_
      refine own_istore X0 hx (hb hby at_30) #[.val (.int x0), .val (.int x1), .val (.int (1 : Int32)), .val (.int (1 : Int32)), .val (.int (0 : Int32)), .unset, .unset] rfl 32 rfl ?_
      refine own_iload_n X0 hx (hb hby at_32) rfl 33 rfl ?_
      refine own_iconst X0 hx (hb hby at_33) (4 : Int32) rfl 34 rfl ?_
      refine own_icmpY X0 hx (hb hby at_34) (tlt (by decide : (1 : Int32) < (4 : Int32))).1 47 (by decide) (by decide) ?_
      refine own_iconst X0 hx (hb hby at_47) (0 : Int32) rfl 48 rfl ?_
      refine own_istore X0 hx (hb hby at_48) #[.val (.int x0), .val (.int x1), .val (.int (1 : Int32)), .val (.int (1 : Int32)), .val (.int (0 : Int32)), .val (.int (0 : Int32)), .unset] rfl 50 rfl ?_
      refine own_iload X0 hx (hb hby at_50) rfl 52 rfl ?_
      refine own_ifN X0 hx (hb hby at_52) ((if0 _ _).trans (teq (by decide : (0 : Int32) = (0 : Int32))).2) 55 rfl ?_
      refine own_iload X0 hx (hb hby at_55) rfl 57 rfl ?_
      refine own_ifY X0 hx (hb hby at_57) ((if0 _ _).trans (teq (by decide : (0 : Int32) = (0 : Int32))).1) 64 (by decide) (by decide) ?_
      refine own_iconst X0 hx (hb hby at_64) (0 : Int32) rfl 65 rfl ?_
      refine own_istore X0 hx (hb hby at_65) #[.val (.int x0), .val (.int x1), .val (.int (1 : Int32)), .val (.int (1 : Int32)), .val (.int (0 : Int32)), .val (.int (0 : Int32)), .val (.int (0 : Int32))] rfl 67 rfl ?_
      refine own_iload_n X0 hx (hb hby at_67) rfl 68 rfl ?_
      refine own_pureS X0 hx hZ hown (own_w hw 1 rfl) (own_w hw 2 rfl) (own_w hw 3 rfl) (own_w hw 4 rfl) (by decide) [(.int (1 : Int32))] [] 0 (rm_role_20 l Z a0 hw []  h0 n0 H) (by decide) (by decide) rfl rfl e0 (by rw [hml]; rfl) (lenOf pd_0 rfl) (Nat.le_of_eq rfl) (hb hby at_68) 71 rfl rfl (by decide) (by decide) fun T47 X47 e47 => ?_
      refine own_iload_n X47 hx (hb hby at_71) rfl 72 rfl ?_
      refine own_pureS X47 hx hZ hown (own_w hw 8 rfl) (own_w hw 9 rfl) (own_w hw 3 rfl) (own_w hw 10 rfl) (by decide) [(.int (1 : Int32))] [(.ref w_Role_SUPPLIER)] 1 (rm_quantity_5 l Z a0 hw []  h0 n0 H) (by decide) (by decide) rfl rfl e47 (by rw [hml]; rfl) (lenOf pd_1 rfl) (Nat.le_of_eq rfl) (hb hby at_72) 75 rfl rfl (by decide) (by decide) fun T49 X49 e49 => ?_
      refine own_pureV X49 hx hZ hown (own_w hw 14 rfl) (own_w hw 15 rfl) (notFace_of_selects (args := #[]) (mvT hZ (own_w hw 17 rfl))) (own_w hw 17 rfl) (own_w hw 16 rfl) (own_w hw 6 rfl) (own_w hw 18 rfl) (by decide) w_Role_SUPPLIER [(.ref w_Quantity_RT)] [] 0 (rm_spansHour_22 l Z a0 hw []  h0 n0 H) (by decide) (by decide) rfl rfl e49 E_w_Role_SUPPLIER (by rw [hml]; rfl) (lenOf pd_3 rfl) (Nat.le_of_eq rfl) (hb hby at_75) 78 rfl rfl (by decide) (by decide) fun T51 X51 e51 => ?_
      refine own_iload X51 hx (hb hby at_78) rfl 80 rfl ?_
      refine own_icmpN X51 hx (hb hby at_80) (teq (by decide : (0 : Int32) = (0 : Int32))).2 83 rfl ?_
      refine own_iconst X51 hx (hb hby at_83) (1 : Int32) rfl 84 rfl ?_
      refine own_goto X51 hx (hb hby at_84) 88 (by decide) (by decide) ?_
      exact own_retZ X51 hx hk hret (hb hby at_88) rfl ⟨rfl, Fr.nil _⟩ (by decide) (by decide)
    · rw [q39]
      refine own_istore_n X0 hx (hb hby at_15) #[.val (.int x0), .val (.int x1), .val (.int (1 : Int32)), .val (.int (2 : Int32)), .unset, .unset, .unset] rfl 16 rfl ?_
      refine own_iload_n X0 hx (hb hby at_16) rfl 17 rfl ?_
      refine own_ifN X0 hx (hb hby at_17) ((if0 _ _).trans (feq (by decide : ¬ ((2 : Int32) = (0 : Int32)))).1) 20 rfl ?_
      refine own_iload_n X0 hx (hb hby at_20) rfl 21 rfl ?_
      refine own_iconst X0 hx (hb hby at_21) (5 : Int32) rfl 22 rfl ?_
      refine own_icmpY X0 hx (hb hby at_22) (feq (by decide : ¬ ((2 : Int32) = (5 : Int32)))).2 29 (by decide) (by decide) ?_
      refine own_iconst X0 hx (hb hby at_29) (0 : Int32) rfl 30 rfl ?_
      refine own_istore X0 hx (hb hby at_30) #[.val (.int x0), .val (.int x1), .val (.int (1 : Int32)), .val (.int (2 : Int32)), .val (.int (0 : Int32)), .unset, .unset] rfl 32 rfl ?_
      refine own_iload_n X0 hx (hb hby at_32) rfl 33 rfl ?_
      refine own_iconst X0 hx (hb hby at_33) (4 : Int32) rfl 34 rfl ?_
      refine own_icmpY X0 hx (hb hby at_34) (tlt (by decide : (1 : Int32) < (4 : Int32))).1 47 (by decide) (by decide) ?_
      refine own_iconst X0 hx (hb hby at_47) (0 : Int32) rfl 48 rfl ?_
      refine own_istore X0 hx (hb hby at_48) #[.val (.int x0), .val (.int x1), .val (.int (1 : Int32)), .val (.int (2 : Int32)), .val (.int (0 : Int32)), .val (.int (0 : Int32)), .unset] rfl 50 rfl ?_
      refine own_iload X0 hx (hb hby at_50) rfl 52 rfl ?_
      refine own_ifN X0 hx (hb hby at_52) ((if0 _ _).trans (teq (by decide : (0 : Int32) = (0 : Int32))).2) 55 rfl ?_
      refine own_iload X0 hx (hb hby at_55) rfl 57 rfl ?_
      refine own_ifY X0 hx (hb hby at_57) ((if0 _ _).trans (teq (by decide : (0 : Int32) = (0 : Int32))).1) 64 (by decide) (by decide) ?_
      refine own_iconst X0 hx (hb hby at_64) (0 : Int32) rfl 65 rfl ?_
      refine own_istore X0 hx (hb hby at_65) #[.val (.int x0), .val (.int x1), .val (.int (1 : Int32)), .val (.int (2 : Int32)), .val (.int (0 : Int32)), .val (.int (0 : Int32)), .val (.int (0 : Int32))] rfl 67 rfl ?_
      refine own_iload_n X0 hx (hb hby at_67) rfl 68 rfl ?_
      refine own_pureS X0 hx hZ hown (own_w hw 1 rfl) (own_w hw 2 rfl) (own_w hw 3 rfl) (own_w hw 4 rfl) (by decide) [(.int (1 : Int32))] [] 0 (rm_role_20 l Z a0 hw []  h0 n0 H) (by decide) (by decide) rfl rfl e0 (by rw [hml]; rfl) (lenOf pd_0 rfl) (Nat.le_of_eq rfl) (hb hby at_68) 71 rfl rfl (by decide) (by decide) fun T53 X53 e53 => ?_
      refine own_iload_n X53 hx (hb hby at_71) rfl 72 rfl ?_
      refine own_pureS X53 hx hZ hown (own_w hw 8 rfl) (own_w hw 9 rfl) (own_w hw 3 rfl) (own_w hw 10 rfl) (by decide) [(.int (2 : Int32))] [(.ref w_Role_SUPPLIER)] 1 (rm_quantity_8 l Z a0 hw []  h0 n0 H) (by decide) (by decide) rfl rfl e53 (by rw [hml]; rfl) (lenOf pd_1 rfl) (Nat.le_of_eq rfl) (hb hby at_72) 75 rfl rfl (by decide) (by decide) fun T55 X55 e55 => ?_
      refine own_pureV X55 hx hZ hown (own_w hw 14 rfl) (own_w hw 15 rfl) (notFace_of_selects (args := #[]) (mvT hZ (own_w hw 17 rfl))) (own_w hw 17 rfl) (own_w hw 16 rfl) (own_w hw 6 rfl) (own_w hw 18 rfl) (by decide) w_Role_SUPPLIER [(.ref w_Quantity_ACTUAL)] [] 0 (rm_spansHour_23 l Z a0 hw []  h0 n0 H) (by decide) (by decide) rfl rfl e55 E_w_Role_SUPPLIER (by rw [hml]; rfl) (lenOf pd_3 rfl) (Nat.le_of_eq rfl) (hb hby at_75) 78 rfl rfl (by decide) (by decide) fun T57 X57 e57 => ?_
      refine own_iload X57 hx (hb hby at_78) rfl 80 rfl ?_
      refine own_icmpN X57 hx (hb hby at_80) (teq (by decide : (0 : Int32) = (0 : Int32))).2 83 rfl ?_
      refine own_iconst X57 hx (hb hby at_83) (1 : Int32) rfl 84 rfl ?_
      refine own_goto X57 hx (hb hby at_84) 88 (by decide) (by decide) ?_
      exact own_retZ X57 hx hk hret (hb hby at_88) rfl ⟨rfl, Fr.nil _⟩ (by decide) (by decide)
    · rw [q39]
      refine own_istore_n X0 hx (hb hby at_15) #[.val (.int x0), .val (.int x1), .val (.int (1 : Int32)), .val (.int (3 : Int32)), .unset, .unset, .unset] rfl 16 rfl ?_
      refine own_iload_n X0 hx (hb hby at_16) rfl 17 rfl ?_
      refine own_ifN X0 hx (hb hby at_17) ((if0 _ _).trans (feq (by decide : ¬ ((3 : Int32) = (0 : Int32)))).1) 20 rfl ?_
      refine own_iload_n X0 hx (hb hby at_20) rfl 21 rfl ?_
      refine own_iconst X0 hx (hb hby at_21) (5 : Int32) rfl 22 rfl ?_
      refine own_icmpY X0 hx (hb hby at_22) (feq (by decide : ¬ ((3 : Int32) = (5 : Int32)))).2 29 (by decide) (by decide) ?_
      refine own_iconst X0 hx (hb hby at_29) (0 : Int32) rfl 30 rfl ?_
      refine own_istore X0 hx (hb hby at_30) #[.val (.int x0), .val (.int x1), .val (.int (1 : Int32)), .val (.int (3 : Int32)), .val (.int (0 : Int32)), .unset, .unset] rfl 32 rfl ?_
      refine own_iload_n X0 hx (hb hby at_32) rfl 33 rfl ?_
      refine own_iconst X0 hx (hb hby at_33) (4 : Int32) rfl 34 rfl ?_
      refine own_icmpY X0 hx (hb hby at_34) (tlt (by decide : (1 : Int32) < (4 : Int32))).1 47 (by decide) (by decide) ?_
      refine own_iconst X0 hx (hb hby at_47) (0 : Int32) rfl 48 rfl ?_
      refine own_istore X0 hx (hb hby at_48) #[.val (.int x0), .val (.int x1), .val (.int (1 : Int32)), .val (.int (3 : Int32)), .val (.int (0 : Int32)), .val (.int (0 : Int32)), .unset] rfl 50 rfl ?_
      refine own_iload X0 hx (hb hby at_50) rfl 52 rfl ?_
      refine own_ifN X0 hx (hb hby at_52) ((if0 _ _).trans (teq (by decide : (0 : Int32) = (0 : Int32))).2) 55 rfl ?_
      refine own_iload X0 hx (hb hby at_55) rfl 57 rfl ?_
      refine own_ifY X0 hx (hb hby at_57) ((if0 _ _).trans (teq (by decide : (0 : Int32) = (0 : Int32))).1) 64 (by decide) (by decide) ?_
      refine own_iconst X0 hx (hb hby at_64) (0 : Int32) rfl 65 rfl ?_
      refine own_istore X0 hx (hb hby at_65) #[.val (.int x0), .val (.int x1), .val (.int (1 : Int32)), .val (.int (3 : Int32)), .val (.int (0 : Int32)), .val (.int (0 : Int32)), .val (.int (0 : Int32))] rfl 67 rfl ?_
      refine own_iload_n X0 hx (hb hby at_67) rfl 68 rfl ?_
      refine own_pureS X0 hx hZ hown (own_w hw 1 rfl) (own_w hw 2 rfl) (own_w hw 3 rfl) (own_w hw 4 rfl) (by decide) [(.int (1 : Int32))] [] 0 (rm_role_20 l Z a0 hw []  h0 n0 H) (by decide) (by decide) rfl rfl e0 (by rw [hml]; rfl) (lenOf pd_0 rfl) (Nat.le_of_eq rfl) (hb hby at_68) 71 rfl rfl (by decide) (by decide) fun T59 X59 e59 => ?_
      refine own_iload_n X59 hx (hb hby at_71) rfl 72 rfl ?_
      refine own_pureS X59 hx hZ hown (own_w hw 8 rfl) (own_w hw 9 rfl) (own_w hw 3 rfl) (own_w hw 10 rfl) (by decide) [(.int (3 : Int32))] [(.ref w_Role_SUPPLIER)] 1 (rm_quantity_11 l Z a0 hw []  h0 n0 H) (by decide) (by decide) rfl rfl e59 (by rw [hml]; rfl) (lenOf pd_1 rfl) (Nat.le_of_eq rfl) (hb hby at_72) 75 rfl rfl (by decide) (by decide) fun T61 X61 e61 => ?_
      refine own_pureV X61 hx hZ hown (own_w hw 14 rfl) (own_w hw 15 rfl) (notFace_of_selects (args := #[]) (mvT hZ (own_w hw 17 rfl))) (own_w hw 17 rfl) (own_w hw 16 rfl) (own_w hw 6 rfl) (own_w hw 18 rfl) (by decide) w_Role_SUPPLIER [(.ref w_Quantity_MOVEMENT)] [] 0 (rm_spansHour_24 l Z a0 hw []  h0 n0 H) (by decide) (by decide) rfl rfl e61 E_w_Role_SUPPLIER (by rw [hml]; rfl) (lenOf pd_3 rfl) (Nat.le_of_eq rfl) (hb hby at_75) 78 rfl rfl (by decide) (by decide) fun T63 X63 e63 => ?_
      refine own_iload X63 hx (hb hby at_78) rfl 80 rfl ?_
      refine own_icmpN X63 hx (hb hby at_80) (teq (by decide : (0 : Int32) = (0 : Int32))).2 83 rfl ?_
      refine own_iconst X63 hx (hb hby at_83) (1 : Int32) rfl 84 rfl ?_
      refine own_goto X63 hx (hb hby at_84) 88 (by decide) (by decide) ?_
      exact own_retZ X63 hx hk hret (hb hby at_88) rfl ⟨rfl, Fr.nil _⟩ (by decide) (by decide)
    · rw [q39]
      refine own_istore_n X0 hx (hb hby at_15) #[.val (.int x0), .val (.int x1), .val (.int (1 : Int32)), .val (.int (4 : Int32)), .unset, .unset, .unset] rfl 16 rfl ?_
      refine own_iload_n X0 hx (hb hby at_16) rfl 17 rfl ?_
      refine own_ifN X0 hx (hb hby at_17) ((if0 _ _).trans (feq (by decide : ¬ ((4 : Int32) = (0 : Int32)))).1) 20 rfl ?_
      refine own_iload_n X0 hx (hb hby at_20) rfl 21 rfl ?_
      refine own_iconst X0 hx (hb hby at_21) (5 : Int32) rfl 22 rfl ?_
      refine own_icmpY X0 hx (hb hby at_22) (feq (by decide : ¬ ((4 : Int32) = (5 : Int32)))).2 29 (by decide) (by decide) ?_
      refine own_iconst X0 hx (hb hby at_29) (0 : Int32) rfl 30 rfl ?_
      refine own_istore X0 hx (hb hby at_30) #[.val (.int x0), .val (.int x1), .val (.int (1 : Int32)), .val (.int (4 : Int32)), .val (.int (0 : Int32)), .unset, .unset] rfl 32 rfl ?_
      refine own_iload_n X0 hx (hb hby at_32) rfl 33 rfl ?_
      refine own_iconst X0 hx (hb hby at_33) (4 : Int32) rfl 34 rfl ?_
      refine own_icmpY X0 hx (hb hby at_34) (tlt (by decide : (1 : Int32) < (4 : Int32))).1 47 (by decide) (by decide) ?_
      refine own_iconst X0 hx (hb hby at_47) (0 : Int32) rfl 48 rfl ?_
      refine own_istore X0 hx (hb hby at_48) #[.val (.int x0), .val (.int x1), .val (.int (1 : Int32)), .val (.int (4 : Int32)), .val (.int (0 : Int32)), .val (.int (0 : Int32)), .unset] rfl 50 rfl ?_
      refine own_iload X0 hx (hb hby at_50) rfl 52 rfl ?_
      refine own_ifN X0 hx (hb hby at_52) ((if0 _ _).trans (teq (by decide : (0 : Int32) = (0 : Int32))).2) 55 rfl ?_
      refine own_iload X0 hx (hb hby at_55) rfl 57 rfl ?_
      refine own_ifY X0 hx (hb hby at_57) ((if0 _ _).trans (teq (by decide : (0 : Int32) = (0 : Int32))).1) 64 (by decide) (by decide) ?_
      refine own_iconst X0 hx (hb hby at_64) (0 : Int32) rfl 65 rfl ?_
      refine own_istore X0 hx (hb hby at_65) #[.val (.int x0), .val (.int x1), .val (.int (1 : Int32)), .val (.int (4 : Int32)), .val (.int (0 : Int32)), .val (.int (0 : Int32)), .val (.int (0 : Int32))] rfl 67 rfl ?_
      refine own_iload_n X0 hx (hb hby at_67) rfl 68 rfl ?_
      refine own_pureS X0 hx hZ hown (own_w hw 1 rfl) (own_w hw 2 rfl) (own_w hw 3 rfl) (own_w hw 4 rfl) (by decide) [(.int (1 : Int32))] [] 0 (rm_role_20 l Z a0 hw []  h0 n0 H) (by decide) (by decide) rfl rfl e0 (by rw [hml]; rfl) (lenOf pd_0 rfl) (Nat.le_of_eq rfl) (hb hby at_68) 71 rfl rfl (by decide) (by decide) fun T65 X65 e65 => ?_
      refine own_iload_n X65 hx (hb hby at_71) rfl 72 rfl ?_
      refine own_pureS X65 hx hZ hown (own_w hw 8 rfl) (own_w hw 9 rfl) (own_w hw 3 rfl) (own_w hw 10 rfl) (by decide) [(.int (4 : Int32))] [(.ref w_Role_SUPPLIER)] 1 (rm_quantity_14 l Z a0 hw []  h0 n0 H) (by decide) (by decide) rfl rfl e65 (by rw [hml]; rfl) (lenOf pd_1 rfl) (Nat.le_of_eq rfl) (hb hby at_72) 75 rfl rfl (by decide) (by decide) fun T67 X67 e67 => ?_
      refine own_pureV X67 hx hZ hown (own_w hw 14 rfl) (own_w hw 15 rfl) (notFace_of_selects (args := #[]) (mvT hZ (own_w hw 17 rfl))) (own_w hw 17 rfl) (own_w hw 16 rfl) (own_w hw 6 rfl) (own_w hw 18 rfl) (by decide) w_Role_SUPPLIER [(.ref w_Quantity_PERFORMANCE)] [] 0 (rm_spansHour_25 l Z a0 hw []  h0 n0 H) (by decide) (by decide) rfl rfl e67 E_w_Role_SUPPLIER (by rw [hml]; rfl) (lenOf pd_3 rfl) (Nat.le_of_eq rfl) (hb hby at_75) 78 rfl rfl (by decide) (by decide) fun T69 X69 e69 => ?_
      refine own_iload X69 hx (hb hby at_78) rfl 80 rfl ?_
      refine own_icmpN X69 hx (hb hby at_80) (teq (by decide : (0 : Int32) = (0 : Int32))).2 83 rfl ?_
      refine own_iconst X69 hx (hb hby at_83) (1 : Int32) rfl 84 rfl ?_
      refine own_goto X69 hx (hb hby at_84) 88 (by decide) (by decide) ?_
      exact own_retZ X69 hx hk hret (hb hby at_88) rfl ⟨rfl, Fr.nil _⟩ (by decide) (by decide)
    · rw [q39]
      refine own_istore_n X0 hx (hb hby at_15) #[.val (.int x0), .val (.int x1), .val (.int (1 : Int32)), .val (.int (5 : Int32)), .unset, .unset, .unset] rfl 16 rfl ?_
      refine own_iload_n X0 hx (hb hby at_16) rfl 17 rfl ?_
      refine own_ifN X0 hx (hb hby at_17) ((if0 _ _).trans (feq (by decide : ¬ ((5 : Int32) = (0 : Int32)))).1) 20 rfl ?_
      refine own_iload_n X0 hx (hb hby at_20) rfl 21 rfl ?_
      refine own_iconst X0 hx (hb hby at_21) (5 : Int32) rfl 22 rfl ?_
      refine own_icmpN X0 hx (hb hby at_22) (teq (by decide : (5 : Int32) = (5 : Int32))).2 25 rfl ?_
      refine own_iconst X0 hx (hb hby at_25) (1 : Int32) rfl 26 rfl ?_
      refine own_goto X0 hx (hb hby at_26) 30 (by decide) (by decide) ?_
      refine own_istore X0 hx (hb hby at_30) #[.val (.int x0), .val (.int x1), .val (.int (1 : Int32)), .val (.int (5 : Int32)), .val (.int (1 : Int32)), .unset, .unset] rfl 32 rfl ?_
      refine own_iload_n X0 hx (hb hby at_32) rfl 33 rfl ?_
      refine own_iconst X0 hx (hb hby at_33) (4 : Int32) rfl 34 rfl ?_
      refine own_icmpY X0 hx (hb hby at_34) (tlt (by decide : (1 : Int32) < (4 : Int32))).1 47 (by decide) (by decide) ?_
      refine own_iconst X0 hx (hb hby at_47) (0 : Int32) rfl 48 rfl ?_
      refine own_istore X0 hx (hb hby at_48) #[.val (.int x0), .val (.int x1), .val (.int (1 : Int32)), .val (.int (5 : Int32)), .val (.int (1 : Int32)), .val (.int (0 : Int32)), .unset] rfl 50 rfl ?_
      refine own_iload X0 hx (hb hby at_50) rfl 52 rfl ?_
      refine own_ifY X0 hx (hb hby at_52) ((if0 _ _).trans (feq (by decide : ¬ ((1 : Int32) = (0 : Int32)))).2) 60 (by decide) (by decide) ?_
      refine own_iconst X0 hx (hb hby at_60) (1 : Int32) rfl 61 rfl ?_
      refine own_goto X0 hx (hb hby at_61) 65 (by decide) (by decide) ?_
      refine own_istore X0 hx (hb hby at_65) #[.val (.int x0), .val (.int x1), .val (.int (1 : Int32)), .val (.int (5 : Int32)), .val (.int (1 : Int32)), .val (.int (0 : Int32)), .val (.int (1 : Int32))] rfl 67 rfl ?_
      refine own_iload_n X0 hx (hb hby at_67) rfl 68 rfl ?_
      refine own_pureS X0 hx hZ hown (own_w hw 1 rfl) (own_w hw 2 rfl) (own_w hw 3 rfl) (own_w hw 4 rfl) (by decide) [(.int (1 : Int32))] [] 0 (rm_role_20 l Z a0 hw []  h0 n0 H) (by decide) (by decide) rfl rfl e0 (by rw [hml]; rfl) (lenOf pd_0 rfl) (Nat.le_of_eq rfl) (hb hby at_68) 71 rfl rfl (by decide) (by decide) fun T71 X71 e71 => ?_
      refine own_iload_n X71 hx (hb hby at_71) rfl 72 rfl ?_
      refine own_pureS X71 hx hZ hown (own_w hw 8 rfl) (own_w hw 9 rfl) (own_w hw 3 rfl) (own_w hw 10 rfl) (by decide) [(.int (5 : Int32))] [(.ref w_Role_SUPPLIER)] 1 (rm_quantity_17 l Z a0 hw []  h0 n0 H) (by decide) (by decide) rfl rfl e71 (by rw [hml]; rfl) (lenOf pd_1 rfl) (Nat.le_of_eq rfl) (hb hby at_72) 75 rfl rfl (by decide) (by decide) fun T73 X73 e73 => ?_
      refine own_pureV X73 hx hZ hown (own_w hw 14 rfl) (own_w hw 15 rfl) (notFace_of_selects (args := #[]) (mvT hZ (own_w hw 17 rfl))) (own_w hw 17 rfl) (own_w hw 16 rfl) (own_w hw 6 rfl) (own_w hw 18 rfl) (by decide) w_Role_SUPPLIER [(.ref w_Quantity_BID)] [] 0 (rm_spansHour_26 l Z a0 hw []  h0 n0 H) (by decide) (by decide) rfl rfl e73 E_w_Role_SUPPLIER (by rw [hml]; rfl) (lenOf pd_3 rfl) (Nat.le_of_eq rfl) (hb hby at_75) 78 rfl rfl (by decide) (by decide) fun T75 X75 e75 => ?_
      refine own_iload X75 hx (hb hby at_78) rfl 80 rfl ?_
      refine own_icmpN X75 hx (hb hby at_80) (teq (by decide : (1 : Int32) = (1 : Int32))).2 83 rfl ?_
      refine own_iconst X75 hx (hb hby at_83) (1 : Int32) rfl 84 rfl ?_
      refine own_goto X75 hx (hb hby at_84) 88 (by decide) (by decide) ?_
      exact own_retZ X75 hx hk hret (hb hby at_88) rfl ⟨rfl, Fr.nil _⟩ (by decide) (by decide)
  · rw [q1]
    refine own_istore_n X0 hx (hb hby at_7) #[.val (.int x0), .val (.int x1), .val (.int (2 : Int32)), .unset, .unset, .unset, .unset] rfl 8 rfl ?_
    refine own_iload_n X0 hx (hb hby at_8) rfl 9 rfl ?_
    refine own_ldc X0 hx hZ hown (own_w hw 0 rfl) (hb hby at_9) 11 rfl ?_
    refine own_iand X0 hx (hb hby at_11) 12 rfl ?_
    refine own_bipush X0 hx (hb hby at_12) (6 : Int32) rfl 14 rfl ?_
    refine own_irem X0 hx (hb hby at_14) (by decide) 15 rfl ?_
    rcases own_mod6 x1 with q76 | q76 | q76 | q76 | q76 | q76
    · rw [q76]
      refine own_istore_n X0 hx (hb hby at_15) #[.val (.int x0), .val (.int x1), .val (.int (2 : Int32)), .val (.int (0 : Int32)), .unset, .unset, .unset] rfl 16 rfl ?_
      refine own_iload_n X0 hx (hb hby at_16) rfl 17 rfl ?_
      refine own_ifY X0 hx (hb hby at_17) ((if0 _ _).trans (teq (by decide : (0 : Int32) = (0 : Int32))).1) 25 (by decide) (by decide) ?_
      refine own_iconst X0 hx (hb hby at_25) (1 : Int32) rfl 26 rfl ?_
      refine own_goto X0 hx (hb hby at_26) 30 (by decide) (by decide) ?_
      refine own_istore X0 hx (hb hby at_30) #[.val (.int x0), .val (.int x1), .val (.int (2 : Int32)), .val (.int (0 : Int32)), .val (.int (1 : Int32)), .unset, .unset] rfl 32 rfl ?_
      refine own_iload_n X0 hx (hb hby at_32) rfl 33 rfl ?_
      refine own_iconst X0 hx (hb hby at_33) (4 : Int32) rfl 34 rfl ?_
      refine own_icmpY X0 hx (hb hby at_34) (tlt (by decide : (2 : Int32) < (4 : Int32))).1 47 (by decide) (by decide) ?_
      refine own_iconst X0 hx (hb hby at_47) (0 : Int32) rfl 48 rfl ?_
      refine own_istore X0 hx (hb hby at_48) #[.val (.int x0), .val (.int x1), .val (.int (2 : Int32)), .val (.int (0 : Int32)), .val (.int (1 : Int32)), .val (.int (0 : Int32)), .unset] rfl 50 rfl ?_
      refine own_iload X0 hx (hb hby at_50) rfl 52 rfl ?_
      refine own_ifY X0 hx (hb hby at_52) ((if0 _ _).trans (feq (by decide : ¬ ((1 : Int32) = (0 : Int32)))).2) 60 (by decide) (by decide) ?_
      refine own_iconst X0 hx (hb hby at_60) (1 : Int32) rfl 61 rfl ?_
      refine own_goto X0 hx (hb hby at_61) 65 (by decide) (by decide) ?_
      refine own_istore X0 hx (hb hby at_65) #[.val (.int x0), .val (.int x1), .val (.int (2 : Int32)), .val (.int (0 : Int32)), .val (.int (1 : Int32)), .val (.int (0 : Int32)), .val (.int (1 : Int32))] rfl 67 rfl ?_
      refine own_iload_n X0 hx (hb hby at_67) rfl 68 rfl ?_
      refine own_pureS X0 hx hZ hown (own_w hw 1 rfl) (own_w hw 2 rfl) (own_w hw 3 rfl) (own_w hw 4 rfl) (by decide) [(.int (2 : Int32))] [] 0 (rm_role_27 l Z a0 hw []  h0 n0 H) (by decide) (by decide) rfl rfl e0 (by rw [hml]; rfl) (lenOf pd_0 rfl) (Nat.le_of_eq rfl) (hb hby at_68) 71 rfl rfl (by decide) (by decide) fun T78 X78 e78 => ?_
      refine own_iload_n X78 hx (hb hby at_71) rfl 72 rfl ?_
      refine own_pureS X78 hx hZ hown (own_w hw 8 rfl) (own_w hw 9 rfl) (own_w hw 3 rfl) (own_w hw 10 rfl) (by decide) [(.int (0 : Int32))] [(.ref w_Role_IMPORT)] 1 (rm_quantity_2 l Z a0 hw []  h0 n0 H) (by decide) (by decide) rfl rfl e78 (by rw [hml]; rfl) (lenOf pd_1 rfl) (Nat.le_of_eq rfl) (hb hby at_72) 75 rfl rfl (by decide) (by decide) fun T80 X80 e80 => ?_
      refine own_pureV X80 hx hZ hown (own_w hw 14 rfl) (own_w hw 15 rfl) (notFace_of_selects (args := #[]) (mvT hZ (own_w hw 17 rfl))) (own_w hw 17 rfl) (own_w hw 16 rfl) (own_w hw 6 rfl) (own_w hw 18 rfl) (by decide) w_Role_IMPORT [(.ref w_Quantity_DA)] [] 0 (rm_spansHour_28 l Z a0 hw []  h0 n0 H) (by decide) (by decide) rfl rfl e80 E_w_Role_IMPORT (by rw [hml]; rfl) (lenOf pd_3 rfl) (Nat.le_of_eq rfl) (hb hby at_75) 78 rfl rfl (by decide) (by decide) fun T82 X82 e82 => ?_
      refine own_iload X82 hx (hb hby at_78) rfl 80 rfl ?_
      refine own_icmpN X82 hx (hb hby at_80) (teq (by decide : (1 : Int32) = (1 : Int32))).2 83 rfl ?_
      refine own_iconst X82 hx (hb hby at_83) (1 : Int32) rfl 84 rfl ?_
      refine own_goto X82 hx (hb hby at_84) 88 (by decide) (by decide) ?_
      exact own_retZ X82 hx hk hret (hb hby at_88) rfl ⟨rfl, Fr.nil _⟩ (by decide) (by decide)
    · rw [q76]
      refine own_istore_n X0 hx (hb hby at_15) #[.val (.int x0), .val (.int x1), .val (.int (2 : Int32)), .val (.int (1 : Int32)), .unset, .unset, .unset] rfl 16 rfl ?_
      refine own_iload_n X0 hx (hb hby at_16) rfl 17 rfl ?_
      refine own_ifN X0 hx (hb hby at_17) ((if0 _ _).trans (feq (by decide : ¬ ((1 : Int32) = (0 : Int32)))).1) 20 rfl ?_
      refine own_iload_n X0 hx (hb hby at_20) rfl 21 rfl ?_
      refine own_iconst X0 hx (hb hby at_21) (5 : Int32) rfl 22 rfl ?_
      refine own_icmpY X0 hx (hb hby at_22) (feq (by decide : ¬ ((1 : Int32) = (5 : Int32)))).2 29 (by decide) (by decide) ?_
      refine own_iconst X0 hx (hb hby at_29) (0 : Int32) rfl 30 rfl ?_
      refine own_istore X0 hx (hb hby at_30) #[.val (.int x0), .val (.int x1), .val (.int (2 : Int32)), .val (.int (1 : Int32)), .val (.int (0 : Int32)), .unset, .unset] rfl 32 rfl ?_
      refine own_iload_n X0 hx (hb hby at_32) rfl 33 rfl ?_
      refine own_iconst X0 hx (hb hby at_33) (4 : Int32) rfl 34 rfl ?_
      refine own_icmpY X0 hx (hb hby at_34) (tlt (by decide : (2 : Int32) < (4 : Int32))).1 47 (by decide) (by decide) ?_
      refine own_iconst X0 hx (hb hby at_47) (0 : Int32) rfl 48 rfl ?_
      refine own_istore X0 hx (hb hby at_48) #[.val (.int x0), .val (.int x1), .val (.int (2 : Int32)), .val (.int (1 : Int32)), .val (.int (0 : Int32)), .val (.int (0 : Int32)), .unset] rfl 50 rfl ?_
      refine own_iload X0 hx (hb hby at_50) rfl 52 rfl ?_
      refine own_ifN X0 hx (hb hby at_52) ((if0 _ _).trans (teq (by decide : (0 : Int32) = (0 : Int32))).2) 55 rfl ?_
      refine own_iload X0 hx (hb hby at_55) rfl 57 rfl ?_
      refine own_ifY X0 hx (hb hby at_57) ((if0 _ _).trans (teq (by decide : (0 : Int32) = (0 : Int32))).1) 64 (by decide) (by decide) ?_
      refine own_iconst X0 hx (hb hby at_64) (0 : Int32) rfl 65 rfl ?_
      refine own_istore X0 hx (hb hby at_65) #[.val (.int x0), .val (.int x1), .val (.int (2 : Int32)), .val (.int (1 : Int32)), .val (.int (0 : Int32)), .val (.int (0 : Int32)), .val (.int (0 : Int32))] rfl 67 rfl ?_
      refine own_iload_n X0 hx (hb hby at_67) rfl 68 rfl ?_
      refine own_pureS X0 hx hZ hown (own_w hw 1 rfl) (own_w hw 2 rfl) (own_w hw 3 rfl) (own_w hw 4 rfl) (by decide) [(.int (2 : Int32))] [] 0 (rm_role_27 l Z a0 hw []  h0 n0 H) (by decide) (by decide) rfl rfl e0 (by rw [hml]; rfl) (lenOf pd_0 rfl) (Nat.le_of_eq rfl) (hb hby at_68) 71 rfl rfl (by decide) (by decide) fun T84 X84 e84 => ?_
      refine own_iload_n X84 hx (hb hby at_71) rfl 72 rfl ?_
      refine own_pureS X84 hx hZ hown (own_w hw 8 rfl) (own_w hw 9 rfl) (own_w hw 3 rfl) (own_w hw 10 rfl) (by decide) [(.int (1 : Int32))] [(.ref w_Role_IMPORT)] 1 (rm_quantity_5 l Z a0 hw []  h0 n0 H) (by decide) (by decide) rfl rfl e84 (by rw [hml]; rfl) (lenOf pd_1 rfl) (Nat.le_of_eq rfl) (hb hby at_72) 75 rfl rfl (by decide) (by decide) fun T86 X86 e86 => ?_
      refine own_pureV X86 hx hZ hown (own_w hw 14 rfl) (own_w hw 15 rfl) (notFace_of_selects (args := #[]) (mvT hZ (own_w hw 17 rfl))) (own_w hw 17 rfl) (own_w hw 16 rfl) (own_w hw 6 rfl) (own_w hw 18 rfl) (by decide) w_Role_IMPORT [(.ref w_Quantity_RT)] [] 0 (rm_spansHour_29 l Z a0 hw []  h0 n0 H) (by decide) (by decide) rfl rfl e86 E_w_Role_IMPORT (by rw [hml]; rfl) (lenOf pd_3 rfl) (Nat.le_of_eq rfl) (hb hby at_75) 78 rfl rfl (by decide) (by decide) fun T88 X88 e88 => ?_
      refine own_iload X88 hx (hb hby at_78) rfl 80 rfl ?_
      refine own_icmpN X88 hx (hb hby at_80) (teq (by decide : (0 : Int32) = (0 : Int32))).2 83 rfl ?_
      refine own_iconst X88 hx (hb hby at_83) (1 : Int32) rfl 84 rfl ?_
      refine own_goto X88 hx (hb hby at_84) 88 (by decide) (by decide) ?_
      exact own_retZ X88 hx hk hret (hb hby at_88) rfl ⟨rfl, Fr.nil _⟩ (by decide) (by decide)
    · rw [q76]
      refine own_istore_n X0 hx (hb hby at_15) #[.val (.int x0), .val (.int x1), .val (.int (2 : Int32)), .val (.int (2 : Int32)), .unset, .unset, .unset] rfl 16 rfl ?_
      refine own_iload_n X0 hx (hb hby at_16) rfl 17 rfl ?_
      refine own_ifN X0 hx (hb hby at_17) ((if0 _ _).trans (feq (by decide : ¬ ((2 : Int32) = (0 : Int32)))).1) 20 rfl ?_
      refine own_iload_n X0 hx (hb hby at_20) rfl 21 rfl ?_
      refine own_iconst X0 hx (hb hby at_21) (5 : Int32) rfl 22 rfl ?_
      refine own_icmpY X0 hx (hb hby at_22) (feq (by decide : ¬ ((2 : Int32) = (5 : Int32)))).2 29 (by decide) (by decide) ?_
      refine own_iconst X0 hx (hb hby at_29) (0 : Int32) rfl 30 rfl ?_
      refine own_istore X0 hx (hb hby at_30) #[.val (.int x0), .val (.int x1), .val (.int (2 : Int32)), .val (.int (2 : Int32)), .val (.int (0 : Int32)), .unset, .unset] rfl 32 rfl ?_
      refine own_iload_n X0 hx (hb hby at_32) rfl 33 rfl ?_
      refine own_iconst X0 hx (hb hby at_33) (4 : Int32) rfl 34 rfl ?_
      refine own_icmpY X0 hx (hb hby at_34) (tlt (by decide : (2 : Int32) < (4 : Int32))).1 47 (by decide) (by decide) ?_
      refine own_iconst X0 hx (hb hby at_47) (0 : Int32) rfl 48 rfl ?_
      refine own_istore X0 hx (hb hby at_48) #[.val (.int x0), .val (.int x1), .val (.int (2 : Int32)), .val (.int (2 : Int32)), .val (.int (0 : Int32)), .val (.int (0 : Int32)), .unset] rfl 50 rfl ?_
      refine own_iload X0 hx (hb hby at_50) rfl 52 rfl ?_
      refine own_ifN X0 hx (hb hby at_52) ((if0 _ _).trans (teq (by decide : (0 : Int32) = (0 : Int32))).2) 55 rfl ?_
      refine own_iload X0 hx (hb hby at_55) rfl 57 rfl ?_
      refine own_ifY X0 hx (hb hby at_57) ((if0 _ _).trans (teq (by decide : (0 : Int32) = (0 : Int32))).1) 64 (by decide) (by decide) ?_
      refine own_iconst X0 hx (hb hby at_64) (0 : Int32) rfl 65 rfl ?_
      refine own_istore X0 hx (hb hby at_65) #[.val (.int x0), .val (.int x1), .val (.int (2 : Int32)), .val (.int (2 : Int32)), .val (.int (0 : Int32)), .val (.int (0 : Int32)), .val (.int (0 : Int32))] rfl 67 rfl ?_
      refine own_iload_n X0 hx (hb hby at_67) rfl 68 rfl ?_
      refine own_pureS X0 hx hZ hown (own_w hw 1 rfl) (own_w hw 2 rfl) (own_w hw 3 rfl) (own_w hw 4 rfl) (by decide) [(.int (2 : Int32))] [] 0 (rm_role_27 l Z a0 hw []  h0 n0 H) (by decide) (by decide) rfl rfl e0 (by rw [hml]; rfl) (lenOf pd_0 rfl) (Nat.le_of_eq rfl) (hb hby at_68) 71 rfl rfl (by decide) (by decide) fun T90 X90 e90 => ?_
      refine own_iload_n X90 hx (hb hby at_71) rfl 72 rfl ?_
      refine own_pureS X90 hx hZ hown (own_w hw 8 rfl) (own_w hw 9 rfl) (own_w hw 3 rfl) (own_w hw 10 rfl) (by decide) [(.int (2 : Int32))] [(.ref w_Role_IMPORT)] 1 (rm_quantity_8 l Z a0 hw []  h0 n0 H) (by decide) (by decide) rfl rfl e90 (by rw [hml]; rfl) (lenOf pd_1 rfl) (Nat.le_of_eq rfl) (hb hby at_72) 75 rfl rfl (by decide) (by decide) fun T92 X92 e92 => ?_
      refine own_pureV X92 hx hZ hown (own_w hw 14 rfl) (own_w hw 15 rfl) (notFace_of_selects (args := #[]) (mvT hZ (own_w hw 17 rfl))) (own_w hw 17 rfl) (own_w hw 16 rfl) (own_w hw 6 rfl) (own_w hw 18 rfl) (by decide) w_Role_IMPORT [(.ref w_Quantity_ACTUAL)] [] 0 (rm_spansHour_30 l Z a0 hw []  h0 n0 H) (by decide) (by decide) rfl rfl e92 E_w_Role_IMPORT (by rw [hml]; rfl) (lenOf pd_3 rfl) (Nat.le_of_eq rfl) (hb hby at_75) 78 rfl rfl (by decide) (by decide) fun T94 X94 e94 => ?_
      refine own_iload X94 hx (hb hby at_78) rfl 80 rfl ?_
      refine own_icmpN X94 hx (hb hby at_80) (teq (by decide : (0 : Int32) = (0 : Int32))).2 83 rfl ?_
      refine own_iconst X94 hx (hb hby at_83) (1 : Int32) rfl 84 rfl ?_
      refine own_goto X94 hx (hb hby at_84) 88 (by decide) (by decide) ?_
      exact own_retZ X94 hx hk hret (hb hby at_88) rfl ⟨rfl, Fr.nil _⟩ (by decide) (by decide)
    · rw [q76]
      refine own_istore_n X0 hx (hb hby at_15) #[.val (.int x0), .val (.int x1), .val (.int (2 : Int32)), .val (.int (3 : Int32)), .unset, .unset, .unset] rfl 16 rfl ?_
      refine own_iload_n X0 hx (hb hby at_16) rfl 17 rfl ?_
      refine own_ifN X0 hx (hb hby at_17) ((if0 _ _).trans (feq (by decide : ¬ ((3 : Int32) = (0 : Int32)))).1) 20 rfl ?_
      refine own_iload_n X0 hx (hb hby at_20) rfl 21 rfl ?_
      refine own_iconst X0 hx (hb hby at_21) (5 : Int32) rfl 22 rfl ?_
      refine own_icmpY X0 hx (hb hby at_22) (feq (by decide : ¬ ((3 : Int32) = (5 : Int32)))).2 29 (by decide) (by decide) ?_
      refine own_iconst X0 hx (hb hby at_29) (0 : Int32) rfl 30 rfl ?_
      refine own_istore X0 hx (hb hby at_30) #[.val (.int x0), .val (.int x1), .val (.int (2 : Int32)), .val (.int (3 : Int32)), .val (.int (0 : Int32)), .unset, .unset] rfl 32 rfl ?_
      refine own_iload_n X0 hx (hb hby at_32) rfl 33 rfl ?_
      refine own_iconst X0 hx (hb hby at_33) (4 : Int32) rfl 34 rfl ?_
      refine own_icmpY X0 hx (hb hby at_34) (tlt (by decide : (2 : Int32) < (4 : Int32))).1 47 (by decide) (by decide) ?_
      refine own_iconst X0 hx (hb hby at_47) (0 : Int32) rfl 48 rfl ?_
      refine own_istore X0 hx (hb hby at_48) #[.val (.int x0), .val (.int x1), .val (.int (2 : Int32)), .val (.int (3 : Int32)), .val (.int (0 : Int32)), .val (.int (0 : Int32)), .unset] rfl 50 rfl ?_
      refine own_iload X0 hx (hb hby at_50) rfl 52 rfl ?_
      refine own_ifN X0 hx (hb hby at_52) ((if0 _ _).trans (teq (by decide : (0 : Int32) = (0 : Int32))).2) 55 rfl ?_
      refine own_iload X0 hx (hb hby at_55) rfl 57 rfl ?_
      refine own_ifY X0 hx (hb hby at_57) ((if0 _ _).trans (teq (by decide : (0 : Int32) = (0 : Int32))).1) 64 (by decide) (by decide) ?_
      refine own_iconst X0 hx (hb hby at_64) (0 : Int32) rfl 65 rfl ?_
      refine own_istore X0 hx (hb hby at_65) #[.val (.int x0), .val (.int x1), .val (.int (2 : Int32)), .val (.int (3 : Int32)), .val (.int (0 : Int32)), .val (.int (0 : Int32)), .val (.int (0 : Int32))] rfl 67 rfl ?_
      refine own_iload_n X0 hx (hb hby at_67) rfl 68 rfl ?_
      refine own_pureS X0 hx hZ hown (own_w hw 1 rfl) (own_w hw 2 rfl) (own_w hw 3 rfl) (own_w hw 4 rfl) (by decide) [(.int (2 : Int32))] [] 0 (rm_role_27 l Z a0 hw []  h0 n0 H) (by decide) (by decide) rfl rfl e0 (by rw [hml]; rfl) (lenOf pd_0 rfl) (Nat.le_of_eq rfl) (hb hby at_68) 71 rfl rfl (by decide) (by decide) fun T96 X96 e96 => ?_
      refine own_iload_n X96 hx (hb hby at_71) rfl 72 rfl ?_
      refine own_pureS X96 hx hZ hown (own_w hw 8 rfl) (own_w hw 9 rfl) (own_w hw 3 rfl) (own_w hw 10 rfl) (by decide) [(.int (3 : Int32))] [(.ref w_Role_IMPORT)] 1 (rm_quantity_11 l Z a0 hw []  h0 n0 H) (by decide) (by decide) rfl rfl e96 (by rw [hml]; rfl) (lenOf pd_1 rfl) (Nat.le_of_eq rfl) (hb hby at_72) 75 rfl rfl (by decide) (by decide) fun T98 X98 e98 => ?_
      refine own_pureV X98 hx hZ hown (own_w hw 14 rfl) (own_w hw 15 rfl) (notFace_of_selects (args := #[]) (mvT hZ (own_w hw 17 rfl))) (own_w hw 17 rfl) (own_w hw 16 rfl) (own_w hw 6 rfl) (own_w hw 18 rfl) (by decide) w_Role_IMPORT [(.ref w_Quantity_MOVEMENT)] [] 0 (rm_spansHour_31 l Z a0 hw []  h0 n0 H) (by decide) (by decide) rfl rfl e98 E_w_Role_IMPORT (by rw [hml]; rfl) (lenOf pd_3 rfl) (Nat.le_of_eq rfl) (hb hby at_75) 78 rfl rfl (by decide) (by decide) fun T100 X100 e100 => ?_
      refine own_iload X100 hx (hb hby at_78) rfl 80 rfl ?_
      refine own_icmpN X100 hx (hb hby at_80) (teq (by decide : (0 : Int32) = (0 : Int32))).2 83 rfl ?_
      refine own_iconst X100 hx (hb hby at_83) (1 : Int32) rfl 84 rfl ?_
      refine own_goto X100 hx (hb hby at_84) 88 (by decide) (by decide) ?_
      exact own_retZ X100 hx hk hret (hb hby at_88) rfl ⟨rfl, Fr.nil _⟩ (by decide) (by decide)
    · rw [q76]
      refine own_istore_n X0 hx (hb hby at_15) #[.val (.int x0), .val (.int x1), .val (.int (2 : Int32)), .val (.int (4 : Int32)), .unset, .unset, .unset] rfl 16 rfl ?_
      refine own_iload_n X0 hx (hb hby at_16) rfl 17 rfl ?_
      refine own_ifN X0 hx (hb hby at_17) ((if0 _ _).trans (feq (by decide : ¬ ((4 : Int32) = (0 : Int32)))).1) 20 rfl ?_
      refine own_iload_n X0 hx (hb hby at_20) rfl 21 rfl ?_
      refine own_iconst X0 hx (hb hby at_21) (5 : Int32) rfl 22 rfl ?_
      refine own_icmpY X0 hx (hb hby at_22) (feq (by decide : ¬ ((4 : Int32) = (5 : Int32)))).2 29 (by decide) (by decide) ?_
      refine own_iconst X0 hx (hb hby at_29) (0 : Int32) rfl 30 rfl ?_
      refine own_istore X0 hx (hb hby at_30) #[.val (.int x0), .val (.int x1), .val (.int (2 : Int32)), .val (.int (4 : Int32)), .val (.int (0 : Int32)), .unset, .unset] rfl 32 rfl ?_
      refine own_iload_n X0 hx (hb hby at_32) rfl 33 rfl ?_
      refine own_iconst X0 hx (hb hby at_33) (4 : Int32) rfl 34 rfl ?_
      refine own_icmpY X0 hx (hb hby at_34) (tlt (by decide : (2 : Int32) < (4 : Int32))).1 47 (by decide) (by decide) ?_
      refine own_iconst X0 hx (hb hby at_47) (0 : Int32) rfl 48 rfl ?_
      refine own_istore X0 hx (hb hby at_48) #[.val (.int x0), .val (.int x1), .val (.int (2 : Int32)), .val (.int (4 : Int32)), .val (.int (0 : Int32)), .val (.int (0 : Int32)), .unset] rfl 50 rfl ?_
      refine own_iload X0 hx (hb hby at_50) rfl 52 rfl ?_
      refine own_ifN X0 hx (hb hby at_52) ((if0 _ _).trans (teq (by decide : (0 : Int32) = (0 : Int32))).2) 55 rfl ?_
      refine own_iload X0 hx (hb hby at_55) rfl 57 rfl ?_
      refine own_ifY X0 hx (hb hby at_57) ((if0 _ _).trans (teq (by decide : (0 : Int32) = (0 : Int32))).1) 64 (by decide) (by decide) ?_
      refine own_iconst X0 hx (hb hby at_64) (0 : Int32) rfl 65 rfl ?_
      refine own_istore X0 hx (hb hby at_65) #[.val (.int x0), .val (.int x1), .val (.int (2 : Int32)), .val (.int (4 : Int32)), .val (.int (0 : Int32)), .val (.int (0 : Int32)), .val (.int (0 : Int32))] rfl 67 rfl ?_
      refine own_iload_n X0 hx (hb hby at_67) rfl 68 rfl ?_
      refine own_pureS X0 hx hZ hown (own_w hw 1 rfl) (own_w hw 2 rfl) (own_w hw 3 rfl) (own_w hw 4 rfl) (by decide) [(.int (2 : Int32))] [] 0 (rm_role_27 l Z a0 hw []  h0 n0 H) (by decide) (by decide) rfl rfl e0 (by rw [hml]; rfl) (lenOf pd_0 rfl) (Nat.le_of_eq rfl) (hb hby at_68) 71 rfl rfl (by decide) (by decide) fun T102 X102 e102 => ?_
      refine own_iload_n X102 hx (hb hby at_71) rfl 72 rfl ?_
      refine own_pureS X102 hx hZ hown (own_w hw 8 rfl) (own_w hw 9 rfl) (own_w hw 3 rfl) (own_w hw 10 rfl) (by decide) [(.int (4 : Int32))] [(.ref w_Role_IMPORT)] 1 (rm_quantity_14 l Z a0 hw []  h0 n0 H) (by decide) (by decide) rfl rfl e102 (by rw [hml]; rfl) (lenOf pd_1 rfl) (Nat.le_of_eq rfl) (hb hby at_72) 75 rfl rfl (by decide) (by decide) fun T104 X104 e104 => ?_
      refine own_pureV X104 hx hZ hown (own_w hw 14 rfl) (own_w hw 15 rfl) (notFace_of_selects (args := #[]) (mvT hZ (own_w hw 17 rfl))) (own_w hw 17 rfl) (own_w hw 16 rfl) (own_w hw 6 rfl) (own_w hw 18 rfl) (by decide) w_Role_IMPORT [(.ref w_Quantity_PERFORMANCE)] [] 0 (rm_spansHour_32 l Z a0 hw []  h0 n0 H) (by decide) (by decide) rfl rfl e104 E_w_Role_IMPORT (by rw [hml]; rfl) (lenOf pd_3 rfl) (Nat.le_of_eq rfl) (hb hby at_75) 78 rfl rfl (by decide) (by decide) fun T106 X106 e106 => ?_
      refine own_iload X106 hx (hb hby at_78) rfl 80 rfl ?_
      refine own_icmpN X106 hx (hb hby at_80) (teq (by decide : (0 : Int32) = (0 : Int32))).2 83 rfl ?_
      refine own_iconst X106 hx (hb hby at_83) (1 : Int32) rfl 84 rfl ?_
      refine own_goto X106 hx (hb hby at_84) 88 (by decide) (by decide) ?_
      exact own_retZ X106 hx hk hret (hb hby at_88) rfl ⟨rfl, Fr.nil _⟩ (by decide) (by decide)
    · rw [q76]
      refine own_istore_n X0 hx (hb hby at_15) #[.val (.int x0), .val (.int x1), .val (.int (2 : Int32)), .val (.int (5 : Int32)), .unset, .unset, .unset] rfl 16 rfl ?_
      refine own_iload_n X0 hx (hb hby at_16) rfl 17 rfl ?_
      refine own_ifN X0 hx (hb hby at_17) ((if0 _ _).trans (feq (by decide : ¬ ((5 : Int32) = (0 : Int32)))).1) 20 rfl ?_
      refine own_iload_n X0 hx (hb hby at_20) rfl 21 rfl ?_
      refine own_iconst X0 hx (hb hby at_21) (5 : Int32) rfl 22 rfl ?_
      refine own_icmpN X0 hx (hb hby at_22) (teq (by decide : (5 : Int32) = (5 : Int32))).2 25 rfl ?_
      refine own_iconst X0 hx (hb hby at_25) (1 : Int32) rfl 26 rfl ?_
      refine own_goto X0 hx (hb hby at_26) 30 (by decide) (by decide) ?_
      refine own_istore X0 hx (hb hby at_30) #[.val (.int x0), .val (.int x1), .val (.int (2 : Int32)), .val (.int (5 : Int32)), .val (.int (1 : Int32)), .unset, .unset] rfl 32 rfl ?_
      refine own_iload_n X0 hx (hb hby at_32) rfl 33 rfl ?_
      refine own_iconst X0 hx (hb hby at_33) (4 : Int32) rfl 34 rfl ?_
      refine own_icmpY X0 hx (hb hby at_34) (tlt (by decide : (2 : Int32) < (4 : Int32))).1 47 (by decide) (by decide) ?_
      refine own_iconst X0 hx (hb hby at_47) (0 : Int32) rfl 48 rfl ?_
      refine own_istore X0 hx (hb hby at_48) #[.val (.int x0), .val (.int x1), .val (.int (2 : Int32)), .val (.int (5 : Int32)), .val (.int (1 : Int32)), .val (.int (0 : Int32)), .unset] rfl 50 rfl ?_
      refine own_iload X0 hx (hb hby at_50) rfl 52 rfl ?_
      refine own_ifY X0 hx (hb hby at_52) ((if0 _ _).trans (feq (by decide : ¬ ((1 : Int32) = (0 : Int32)))).2) 60 (by decide) (by decide) ?_
      refine own_iconst X0 hx (hb hby at_60) (1 : Int32) rfl 61 rfl ?_
      refine own_goto X0 hx (hb hby at_61) 65 (by decide) (by decide) ?_
      refine own_istore X0 hx (hb hby at_65) #[.val (.int x0), .val (.int x1), .val (.int (2 : Int32)), .val (.int (5 : Int32)), .val (.int (1 : Int32)), .val (.int (0 : Int32)), .val (.int (1 : Int32))] rfl 67 rfl ?_
      refine own_iload_n X0 hx (hb hby at_67) rfl 68 rfl ?_
      refine own_pureS X0 hx hZ hown (own_w hw 1 rfl) (own_w hw 2 rfl) (own_w hw 3 rfl) (own_w hw 4 rfl) (by decide) [(.int (2 : Int32))] [] 0 (rm_role_27 l Z a0 hw []  h0 n0 H) (by decide) (by decide) rfl rfl e0 (by rw [hml]; rfl) (lenOf pd_0 rfl) (Nat.le_of_eq rfl) (hb hby at_68) 71 rfl rfl (by decide) (by decide) fun T108 X108 e108 => ?_
      refine own_iload_n X108 hx (hb hby at_71) rfl 72 rfl ?_
      refine own_pureS X108 hx hZ hown (own_w hw 8 rfl) (own_w hw 9 rfl) (own_w hw 3 rfl) (own_w hw 10 rfl) (by decide) [(.int (5 : Int32))] [(.ref w_Role_IMPORT)] 1 (rm_quantity_17 l Z a0 hw []  h0 n0 H) (by decide) (by decide) rfl rfl e108 (by rw [hml]; rfl) (lenOf pd_1 rfl) (Nat.le_of_eq rfl) (hb hby at_72) 75 rfl rfl (by decide) (by decide) fun T110 X110 e110 => ?_
      refine own_pureV X110 hx hZ hown (own_w hw 14 rfl) (own_w hw 15 rfl) (notFace_of_selects (args := #[]) (mvT hZ (own_w hw 17 rfl))) (own_w hw 17 rfl) (own_w hw 16 rfl) (own_w hw 6 rfl) (own_w hw 18 rfl) (by decide) w_Role_IMPORT [(.ref w_Quantity_BID)] [] 0 (rm_spansHour_33 l Z a0 hw []  h0 n0 H) (by decide) (by decide) rfl rfl e110 E_w_Role_IMPORT (by rw [hml]; rfl) (lenOf pd_3 rfl) (Nat.le_of_eq rfl) (hb hby at_75) 78 rfl rfl (by decide) (by decide) fun T112 X112 e112 => ?_
      refine own_iload X112 hx (hb hby at_78) rfl 80 rfl ?_
      refine own_icmpN X112 hx (hb hby at_80) (teq (by decide : (1 : Int32) = (1 : Int32))).2 83 rfl ?_
      refine own_iconst X112 hx (hb hby at_83) (1 : Int32) rfl 84 rfl ?_
      refine own_goto X112 hx (hb hby at_84) 88 (by decide) (by decide) ?_
      exact own_retZ X112 hx hk hret (hb hby at_88) rfl ⟨rfl, Fr.nil _⟩ (by decide) (by decide)
  · rw [q1]
    refine own_istore_n X0 hx (hb hby at_7) #[.val (.int x0), .val (.int x1), .val (.int (3 : Int32)), .unset, .unset, .unset, .unset] rfl 8 rfl ?_
    refine own_iload_n X0 hx (hb hby at_8) rfl 9 rfl ?_
    refine own_ldc X0 hx hZ hown (own_w hw 0 rfl) (hb hby at_9) 11 rfl ?_
    refine own_iand X0 hx (hb hby at_11) 12 rfl ?_
    refine own_bipush X0 hx (hb hby at_12) (6 : Int32) rfl 14 rfl ?_
    refine own_irem X0 hx (hb hby at_14) (by decide) 15 rfl ?_
    rcases own_mod6 x1 with q113 | q113 | q113 | q113 | q113 | q113
    · rw [q113]
      refine own_istore_n X0 hx (hb hby at_15) #[.val (.int x0), .val (.int x1), .val (.int (3 : Int32)), .val (.int (0 : Int32)), .unset, .unset, .unset] rfl 16 rfl ?_
      refine own_iload_n X0 hx (hb hby at_16) rfl 17 rfl ?_
      refine own_ifY X0 hx (hb hby at_17) ((if0 _ _).trans (teq (by decide : (0 : Int32) = (0 : Int32))).1) 25 (by decide) (by decide) ?_
      refine own_iconst X0 hx (hb hby at_25) (1 : Int32) rfl 26 rfl ?_
      refine own_goto X0 hx (hb hby at_26) 30 (by decide) (by decide) ?_
      refine own_istore X0 hx (hb hby at_30) #[.val (.int x0), .val (.int x1), .val (.int (3 : Int32)), .val (.int (0 : Int32)), .val (.int (1 : Int32)), .unset, .unset] rfl 32 rfl ?_
      refine own_iload_n X0 hx (hb hby at_32) rfl 33 rfl ?_
      refine own_iconst X0 hx (hb hby at_33) (4 : Int32) rfl 34 rfl ?_
      refine own_icmpY X0 hx (hb hby at_34) (tlt (by decide : (3 : Int32) < (4 : Int32))).1 47 (by decide) (by decide) ?_
      refine own_iconst X0 hx (hb hby at_47) (0 : Int32) rfl 48 rfl ?_
      refine own_istore X0 hx (hb hby at_48) #[.val (.int x0), .val (.int x1), .val (.int (3 : Int32)), .val (.int (0 : Int32)), .val (.int (1 : Int32)), .val (.int (0 : Int32)), .unset] rfl 50 rfl ?_
      refine own_iload X0 hx (hb hby at_50) rfl 52 rfl ?_
      refine own_ifY X0 hx (hb hby at_52) ((if0 _ _).trans (feq (by decide : ¬ ((1 : Int32) = (0 : Int32)))).2) 60 (by decide) (by decide) ?_
      refine own_iconst X0 hx (hb hby at_60) (1 : Int32) rfl 61 rfl ?_
      refine own_goto X0 hx (hb hby at_61) 65 (by decide) (by decide) ?_
      refine own_istore X0 hx (hb hby at_65) #[.val (.int x0), .val (.int x1), .val (.int (3 : Int32)), .val (.int (0 : Int32)), .val (.int (1 : Int32)), .val (.int (0 : Int32)), .val (.int (1 : Int32))] rfl 67 rfl ?_
      refine own_iload_n X0 hx (hb hby at_67) rfl 68 rfl ?_
      refine own_pureS X0 hx hZ hown (own_w hw 1 rfl) (own_w hw 2 rfl) (own_w hw 3 rfl) (own_w hw 4 rfl) (by decide) [(.int (3 : Int32))] [] 0 (rm_role_34 l Z a0 hw []  h0 n0 H) (by decide) (by decide) rfl rfl e0 (by rw [hml]; rfl) (lenOf pd_0 rfl) (Nat.le_of_eq rfl) (hb hby at_68) 71 rfl rfl (by decide) (by decide) fun T115 X115 e115 => ?_
      refine own_iload_n X115 hx (hb hby at_71) rfl 72 rfl ?_
      refine own_pureS X115 hx hZ hown (own_w hw 8 rfl) (own_w hw 9 rfl) (own_w hw 3 rfl) (own_w hw 10 rfl) (by decide) [(.int (0 : Int32))] [(.ref w_Role_EXPORT)] 1 (rm_quantity_2 l Z a0 hw []  h0 n0 H) (by decide) (by decide) rfl rfl e115 (by rw [hml]; rfl) (lenOf pd_1 rfl) (Nat.le_of_eq rfl) (hb hby at_72) 75 rfl rfl (by decide) (by decide) fun T117 X117 e117 => ?_
      refine own_pureV X117 hx hZ hown (own_w hw 14 rfl) (own_w hw 15 rfl) (notFace_of_selects (args := #[]) (mvT hZ (own_w hw 17 rfl))) (own_w hw 17 rfl) (own_w hw 16 rfl) (own_w hw 6 rfl) (own_w hw 18 rfl) (by decide) w_Role_EXPORT [(.ref w_Quantity_DA)] [] 0 (rm_spansHour_35 l Z a0 hw []  h0 n0 H) (by decide) (by decide) rfl rfl e117 E_w_Role_EXPORT (by rw [hml]; rfl) (lenOf pd_3 rfl) (Nat.le_of_eq rfl) (hb hby at_75) 78 rfl rfl (by decide) (by decide) fun T119 X119 e119 => ?_
      refine own_iload X119 hx (hb hby at_78) rfl 80 rfl ?_
      refine own_icmpN X119 hx (hb hby at_80) (teq (by decide : (1 : Int32) = (1 : Int32))).2 83 rfl ?_
      refine own_iconst X119 hx (hb hby at_83) (1 : Int32) rfl 84 rfl ?_
      refine own_goto X119 hx (hb hby at_84) 88 (by decide) (by decide) ?_
      exact own_retZ X119 hx hk hret (hb hby at_88) rfl ⟨rfl, Fr.nil _⟩ (by decide) (by decide)
    · rw [q113]
      refine own_istore_n X0 hx (hb hby at_15) #[.val (.int x0), .val (.int x1), .val (.int (3 : Int32)), .val (.int (1 : Int32)), .unset, .unset, .unset] rfl 16 rfl ?_
      refine own_iload_n X0 hx (hb hby at_16) rfl 17 rfl ?_
      refine own_ifN X0 hx (hb hby at_17) ((if0 _ _).trans (feq (by decide : ¬ ((1 : Int32) = (0 : Int32)))).1) 20 rfl ?_
      refine own_iload_n X0 hx (hb hby at_20) rfl 21 rfl ?_
      refine own_iconst X0 hx (hb hby at_21) (5 : Int32) rfl 22 rfl ?_
      refine own_icmpY X0 hx (hb hby at_22) (feq (by decide : ¬ ((1 : Int32) = (5 : Int32)))).2 29 (by decide) (by decide) ?_
      refine own_iconst X0 hx (hb hby at_29) (0 : Int32) rfl 30 rfl ?_
      refine own_istore X0 hx (hb hby at_30) #[.val (.int x0), .val (.int x1), .val (.int (3 : Int32)), .val (.int (1 : Int32)), .val (.int (0 : Int32)), .unset, .unset] rfl 32 rfl ?_
      refine own_iload_n X0 hx (hb hby at_32) rfl 33 rfl ?_
      refine own_iconst X0 hx (hb hby at_33) (4 : Int32) rfl 34 rfl ?_
      refine own_icmpY X0 hx (hb hby at_34) (tlt (by decide : (3 : Int32) < (4 : Int32))).1 47 (by decide) (by decide) ?_
      refine own_iconst X0 hx (hb hby at_47) (0 : Int32) rfl 48 rfl ?_
      refine own_istore X0 hx (hb hby at_48) #[.val (.int x0), .val (.int x1), .val (.int (3 : Int32)), .val (.int (1 : Int32)), .val (.int (0 : Int32)), .val (.int (0 : Int32)), .unset] rfl 50 rfl ?_
      refine own_iload X0 hx (hb hby at_50) rfl 52 rfl ?_
      refine own_ifN X0 hx (hb hby at_52) ((if0 _ _).trans (teq (by decide : (0 : Int32) = (0 : Int32))).2) 55 rfl ?_
      refine own_iload X0 hx (hb hby at_55) rfl 57 rfl ?_
      refine own_ifY X0 hx (hb hby at_57) ((if0 _ _).trans (teq (by decide : (0 : Int32) = (0 : Int32))).1) 64 (by decide) (by decide) ?_
      refine own_iconst X0 hx (hb hby at_64) (0 : Int32) rfl 65 rfl ?_
      refine own_istore X0 hx (hb hby at_65) #[.val (.int x0), .val (.int x1), .val (.int (3 : Int32)), .val (.int (1 : Int32)), .val (.int (0 : Int32)), .val (.int (0 : Int32)), .val (.int (0 : Int32))] rfl 67 rfl ?_
      refine own_iload_n X0 hx (hb hby at_67) rfl 68 rfl ?_
      refine own_pureS X0 hx hZ hown (own_w hw 1 rfl) (own_w hw 2 rfl) (own_w hw 3 rfl) (own_w hw 4 rfl) (by decide) [(.int (3 : Int32))] [] 0 (rm_role_34 l Z a0 hw []  h0 n0 H) (by decide) (by decide) rfl rfl e0 (by rw [hml]; rfl) (lenOf pd_0 rfl) (Nat.le_of_eq rfl) (hb hby at_68) 71 rfl rfl (by decide) (by decide) fun T121 X121 e121 => ?_
      refine own_iload_n X121 hx (hb hby at_71) rfl 72 rfl ?_
      refine own_pureS X121 hx hZ hown (own_w hw 8 rfl) (own_w hw 9 rfl) (own_w hw 3 rfl) (own_w hw 10 rfl) (by decide) [(.int (1 : Int32))] [(.ref w_Role_EXPORT)] 1 (rm_quantity_5 l Z a0 hw []  h0 n0 H) (by decide) (by decide) rfl rfl e121 (by rw [hml]; rfl) (lenOf pd_1 rfl) (Nat.le_of_eq rfl) (hb hby at_72) 75 rfl rfl (by decide) (by decide) fun T123 X123 e123 => ?_
      refine own_pureV X123 hx hZ hown (own_w hw 14 rfl) (own_w hw 15 rfl) (notFace_of_selects (args := #[]) (mvT hZ (own_w hw 17 rfl))) (own_w hw 17 rfl) (own_w hw 16 rfl) (own_w hw 6 rfl) (own_w hw 18 rfl) (by decide) w_Role_EXPORT [(.ref w_Quantity_RT)] [] 0 (rm_spansHour_36 l Z a0 hw []  h0 n0 H) (by decide) (by decide) rfl rfl e123 E_w_Role_EXPORT (by rw [hml]; rfl) (lenOf pd_3 rfl) (Nat.le_of_eq rfl) (hb hby at_75) 78 rfl rfl (by decide) (by decide) fun T125 X125 e125 => ?_
      refine own_iload X125 hx (hb hby at_78) rfl 80 rfl ?_
      refine own_icmpN X125 hx (hb hby at_80) (teq (by decide : (0 : Int32) = (0 : Int32))).2 83 rfl ?_
      refine own_iconst X125 hx (hb hby at_83) (1 : Int32) rfl 84 rfl ?_
      refine own_goto X125 hx (hb hby at_84) 88 (by decide) (by decide) ?_
      exact own_retZ X125 hx hk hret (hb hby at_88) rfl ⟨rfl, Fr.nil _⟩ (by decide) (by decide)
    · rw [q113]
      refine own_istore_n X0 hx (hb hby at_15) #[.val (.int x0), .val (.int x1), .val (.int (3 : Int32)), .val (.int (2 : Int32)), .unset, .unset, .unset] rfl 16 rfl ?_
      refine own_iload_n X0 hx (hb hby at_16) rfl 17 rfl ?_
      refine own_ifN X0 hx (hb hby at_17) ((if0 _ _).trans (feq (by decide : ¬ ((2 : Int32) = (0 : Int32)))).1) 20 rfl ?_
      refine own_iload_n X0 hx (hb hby at_20) rfl 21 rfl ?_
      refine own_iconst X0 hx (hb hby at_21) (5 : Int32) rfl 22 rfl ?_
      refine own_icmpY X0 hx (hb hby at_22) (feq (by decide : ¬ ((2 : Int32) = (5 : Int32)))).2 29 (by decide) (by decide) ?_
      refine own_iconst X0 hx (hb hby at_29) (0 : Int32) rfl 30 rfl ?_
      refine own_istore X0 hx (hb hby at_30) #[.val (.int x0), .val (.int x1), .val (.int (3 : Int32)), .val (.int (2 : Int32)), .val (.int (0 : Int32)), .unset, .unset] rfl 32 rfl ?_
      refine own_iload_n X0 hx (hb hby at_32) rfl 33 rfl ?_
      refine own_iconst X0 hx (hb hby at_33) (4 : Int32) rfl 34 rfl ?_
      refine own_icmpY X0 hx (hb hby at_34) (tlt (by decide : (3 : Int32) < (4 : Int32))).1 47 (by decide) (by decide) ?_
      refine own_iconst X0 hx (hb hby at_47) (0 : Int32) rfl 48 rfl ?_
      refine own_istore X0 hx (hb hby at_48) #[.val (.int x0), .val (.int x1), .val (.int (3 : Int32)), .val (.int (2 : Int32)), .val (.int (0 : Int32)), .val (.int (0 : Int32)), .unset] rfl 50 rfl ?_
      refine own_iload X0 hx (hb hby at_50) rfl 52 rfl ?_
      refine own_ifN X0 hx (hb hby at_52) ((if0 _ _).trans (teq (by decide : (0 : Int32) = (0 : Int32))).2) 55 rfl ?_
      refine own_iload X0 hx (hb hby at_55) rfl 57 rfl ?_
      refine own_ifY X0 hx (hb hby at_57) ((if0 _ _).trans (teq (by decide : (0 : Int32) = (0 : Int32))).1) 64 (by decide) (by decide) ?_
      refine own_iconst X0 hx (hb hby at_64) (0 : Int32) rfl 65 rfl ?_
      refine own_istore X0 hx (hb hby at_65) #[.val (.int x0), .val (.int x1), .val (.int (3 : Int32)), .val (.int (2 : Int32)), .val (.int (0 : Int32)), .val (.int (0 : Int32)), .val (.int (0 : Int32))] rfl 67 rfl ?_
      refine own_iload_n X0 hx (hb hby at_67) rfl 68 rfl ?_
      refine own_pureS X0 hx hZ hown (own_w hw 1 rfl) (own_w hw 2 rfl) (own_w hw 3 rfl) (own_w hw 4 rfl) (by decide) [(.int (3 : Int32))] [] 0 (rm_role_34 l Z a0 hw []  h0 n0 H) (by decide) (by decide) rfl rfl e0 (by rw [hml]; rfl) (lenOf pd_0 rfl) (Nat.le_of_eq rfl) (hb hby at_68) 71 rfl rfl (by decide) (by decide) fun T127 X127 e127 => ?_
      refine own_iload_n X127 hx (hb hby at_71) rfl 72 rfl ?_
      refine own_pureS X127 hx hZ hown (own_w hw 8 rfl) (own_w hw 9 rfl) (own_w hw 3 rfl) (own_w hw 10 rfl) (by decide) [(.int (2 : Int32))] [(.ref w_Role_EXPORT)] 1 (rm_quantity_8 l Z a0 hw []  h0 n0 H) (by decide) (by decide) rfl rfl e127 (by rw [hml]; rfl) (lenOf pd_1 rfl) (Nat.le_of_eq rfl) (hb hby at_72) 75 rfl rfl (by decide) (by decide) fun T129 X129 e129 => ?_
      refine own_pureV X129 hx hZ hown (own_w hw 14 rfl) (own_w hw 15 rfl) (notFace_of_selects (args := #[]) (mvT hZ (own_w hw 17 rfl))) (own_w hw 17 rfl) (own_w hw 16 rfl) (own_w hw 6 rfl) (own_w hw 18 rfl) (by decide) w_Role_EXPORT [(.ref w_Quantity_ACTUAL)] [] 0 (rm_spansHour_37 l Z a0 hw []  h0 n0 H) (by decide) (by decide) rfl rfl e129 E_w_Role_EXPORT (by rw [hml]; rfl) (lenOf pd_3 rfl) (Nat.le_of_eq rfl) (hb hby at_75) 78 rfl rfl (by decide) (by decide) fun T131 X131 e131 => ?_
      refine own_iload X131 hx (hb hby at_78) rfl 80 rfl ?_
      refine own_icmpN X131 hx (hb hby at_80) (teq (by decide : (0 : Int32) = (0 : Int32))).2 83 rfl ?_
      refine own_iconst X131 hx (hb hby at_83) (1 : Int32) rfl 84 rfl ?_
      refine own_goto X131 hx (hb hby at_84) 88 (by decide) (by decide) ?_
      exact own_retZ X131 hx hk hret (hb hby at_88) rfl ⟨rfl, Fr.nil _⟩ (by decide) (by decide)
    · rw [q113]
      refine own_istore_n X0 hx (hb hby at_15) #[.val (.int x0), .val (.int x1), .val (.int (3 : Int32)), .val (.int (3 : Int32)), .unset, .unset, .unset] rfl 16 rfl ?_
      refine own_iload_n X0 hx (hb hby at_16) rfl 17 rfl ?_
      refine own_ifN X0 hx (hb hby at_17) ((if0 _ _).trans (feq (by decide : ¬ ((3 : Int32) = (0 : Int32)))).1) 20 rfl ?_
      refine own_iload_n X0 hx (hb hby at_20) rfl 21 rfl ?_
      refine own_iconst X0 hx (hb hby at_21) (5 : Int32) rfl 22 rfl ?_
      refine own_icmpY X0 hx (hb hby at_22) (feq (by decide : ¬ ((3 : Int32) = (5 : Int32)))).2 29 (by decide) (by decide) ?_
      refine own_iconst X0 hx (hb hby at_29) (0 : Int32) rfl 30 rfl ?_
      refine own_istore X0 hx (hb hby at_30) #[.val (.int x0), .val (.int x1), .val (.int (3 : Int32)), .val (.int (3 : Int32)), .val (.int (0 : Int32)), .unset, .unset] rfl 32 rfl ?_
      refine own_iload_n X0 hx (hb hby at_32) rfl 33 rfl ?_
      refine own_iconst X0 hx (hb hby at_33) (4 : Int32) rfl 34 rfl ?_
      refine own_icmpY X0 hx (hb hby at_34) (tlt (by decide : (3 : Int32) < (4 : Int32))).1 47 (by decide) (by decide) ?_
      refine own_iconst X0 hx (hb hby at_47) (0 : Int32) rfl 48 rfl ?_
      refine own_istore X0 hx (hb hby at_48) #[.val (.int x0), .val (.int x1), .val (.int (3 : Int32)), .val (.int (3 : Int32)), .val (.int (0 : Int32)), .val (.int (0 : Int32)), .unset] rfl 50 rfl ?_
      refine own_iload X0 hx (hb hby at_50) rfl 52 rfl ?_
      refine own_ifN X0 hx (hb hby at_52) ((if0 _ _).trans (teq (by decide : (0 : Int32) = (0 : Int32))).2) 55 rfl ?_
      refine own_iload X0 hx (hb hby at_55) rfl 57 rfl ?_
      refine own_ifY X0 hx (hb hby at_57) ((if0 _ _).trans (teq (by decide : (0 : Int32) = (0 : Int32))).1) 64 (by decide) (by decide) ?_
      refine own_iconst X0 hx (hb hby at_64) (0 : Int32) rfl 65 rfl ?_
      refine own_istore X0 hx (hb hby at_65) #[.val (.int x0), .val (.int x1), .val (.int (3 : Int32)), .val (.int (3 : Int32)), .val (.int (0 : Int32)), .val (.int (0 : Int32)), .val (.int (0 : Int32))] rfl 67 rfl ?_
      refine own_iload_n X0 hx (hb hby at_67) rfl 68 rfl ?_
      refine own_pureS X0 hx hZ hown (own_w hw 1 rfl) (own_w hw 2 rfl) (own_w hw 3 rfl) (own_w hw 4 rfl) (by decide) [(.int (3 : Int32))] [] 0 (rm_role_34 l Z a0 hw []  h0 n0 H) (by decide) (by decide) rfl rfl e0 (by rw [hml]; rfl) (lenOf pd_0 rfl) (Nat.le_of_eq rfl) (hb hby at_68) 71 rfl rfl (by decide) (by decide) fun T133 X133 e133 => ?_
      refine own_iload_n X133 hx (hb hby at_71) rfl 72 rfl ?_
      refine own_pureS X133 hx hZ hown (own_w hw 8 rfl) (own_w hw 9 rfl) (own_w hw 3 rfl) (own_w hw 10 rfl) (by decide) [(.int (3 : Int32))] [(.ref w_Role_EXPORT)] 1 (rm_quantity_11 l Z a0 hw []  h0 n0 H) (by decide) (by decide) rfl rfl e133 (by rw [hml]; rfl) (lenOf pd_1 rfl) (Nat.le_of_eq rfl) (hb hby at_72) 75 rfl rfl (by decide) (by decide) fun T135 X135 e135 => ?_
      refine own_pureV X135 hx hZ hown (own_w hw 14 rfl) (own_w hw 15 rfl) (notFace_of_selects (args := #[]) (mvT hZ (own_w hw 17 rfl))) (own_w hw 17 rfl) (own_w hw 16 rfl) (own_w hw 6 rfl) (own_w hw 18 rfl) (by decide) w_Role_EXPORT [(.ref w_Quantity_MOVEMENT)] [] 0 (rm_spansHour_38 l Z a0 hw []  h0 n0 H) (by decide) (by decide) rfl rfl e135 E_w_Role_EXPORT (by rw [hml]; rfl) (lenOf pd_3 rfl) (Nat.le_of_eq rfl) (hb hby at_75) 78 rfl rfl (by decide) (by decide) fun T137 X137 e137 => ?_
      refine own_iload X137 hx (hb hby at_78) rfl 80 rfl ?_
      refine own_icmpN X137 hx (hb hby at_80) (teq (by decide : (0 : Int32) = (0 : Int32))).2 83 rfl ?_
      refine own_iconst X137 hx (hb hby at_83) (1 : Int32) rfl 84 rfl ?_
      refine own_goto X137 hx (hb hby at_84) 88 (by decide) (by decide) ?_
      exact own_retZ X137 hx hk hret (hb hby at_88) rfl ⟨rfl, Fr.nil _⟩ (by decide) (by decide)
    · rw [q113]
      refine own_istore_n X0 hx (hb hby at_15) #[.val (.int x0), .val (.int x1), .val (.int (3 : Int32)), .val (.int (4 : Int32)), .unset, .unset, .unset] rfl 16 rfl ?_
      refine own_iload_n X0 hx (hb hby at_16) rfl 17 rfl ?_
      refine own_ifN X0 hx (hb hby at_17) ((if0 _ _).trans (feq (by decide : ¬ ((4 : Int32) = (0 : Int32)))).1) 20 rfl ?_
      refine own_iload_n X0 hx (hb hby at_20) rfl 21 rfl ?_
      refine own_iconst X0 hx (hb hby at_21) (5 : Int32) rfl 22 rfl ?_
      refine own_icmpY X0 hx (hb hby at_22) (feq (by decide : ¬ ((4 : Int32) = (5 : Int32)))).2 29 (by decide) (by decide) ?_
      refine own_iconst X0 hx (hb hby at_29) (0 : Int32) rfl 30 rfl ?_
      refine own_istore X0 hx (hb hby at_30) #[.val (.int x0), .val (.int x1), .val (.int (3 : Int32)), .val (.int (4 : Int32)), .val (.int (0 : Int32)), .unset, .unset] rfl 32 rfl ?_
      refine own_iload_n X0 hx (hb hby at_32) rfl 33 rfl ?_
      refine own_iconst X0 hx (hb hby at_33) (4 : Int32) rfl 34 rfl ?_
      refine own_icmpY X0 hx (hb hby at_34) (tlt (by decide : (3 : Int32) < (4 : Int32))).1 47 (by decide) (by decide) ?_
      refine own_iconst X0 hx (hb hby at_47) (0 : Int32) rfl 48 rfl ?_
      refine own_istore X0 hx (hb hby at_48) #[.val (.int x0), .val (.int x1), .val (.int (3 : Int32)), .val (.int (4 : Int32)), .val (.int (0 : Int32)), .val (.int (0 : Int32)), .unset] rfl 50 rfl ?_
      refine own_iload X0 hx (hb hby at_50) rfl 52 rfl ?_
      refine own_ifN X0 hx (hb hby at_52) ((if0 _ _).trans (teq (by decide : (0 : Int32) = (0 : Int32))).2) 55 rfl ?_
      refine own_iload X0 hx (hb hby at_55) rfl 57 rfl ?_
      refine own_ifY X0 hx (hb hby at_57) ((if0 _ _).trans (teq (by decide : (0 : Int32) = (0 : Int32))).1) 64 (by decide) (by decide) ?_
      refine own_iconst X0 hx (hb hby at_64) (0 : Int32) rfl 65 rfl ?_
      refine own_istore X0 hx (hb hby at_65) #[.val (.int x0), .val (.int x1), .val (.int (3 : Int32)), .val (.int (4 : Int32)), .val (.int (0 : Int32)), .val (.int (0 : Int32)), .val (.int (0 : Int32))] rfl 67 rfl ?_
      refine own_iload_n X0 hx (hb hby at_67) rfl 68 rfl ?_
      refine own_pureS X0 hx hZ hown (own_w hw 1 rfl) (own_w hw 2 rfl) (own_w hw 3 rfl) (own_w hw 4 rfl) (by decide) [(.int (3 : Int32))] [] 0 (rm_role_34 l Z a0 hw []  h0 n0 H) (by decide) (by decide) rfl rfl e0 (by rw [hml]; rfl) (lenOf pd_0 rfl) (Nat.le_of_eq rfl) (hb hby at_68) 71 rfl rfl (by decide) (by decide) fun T139 X139 e139 => ?_
      refine own_iload_n X139 hx (hb hby at_71) rfl 72 rfl ?_
      refine own_pureS X139 hx hZ hown (own_w hw 8 rfl) (own_w hw 9 rfl) (own_w hw 3 rfl) (own_w hw 10 rfl) (by decide) [(.int (4 : Int32))] [(.ref w_Role_EXPORT)] 1 (rm_quantity_14 l Z a0 hw []  h0 n0 H) (by decide) (by decide) rfl rfl e139 (by rw [hml]; rfl) (lenOf pd_1 rfl) (Nat.le_of_eq rfl) (hb hby at_72) 75 rfl rfl (by decide) (by decide) fun T141 X141 e141 => ?_
      refine own_pureV X141 hx hZ hown (own_w hw 14 rfl) (own_w hw 15 rfl) (notFace_of_selects (args := #[]) (mvT hZ (own_w hw 17 rfl))) (own_w hw 17 rfl) (own_w hw 16 rfl) (own_w hw 6 rfl) (own_w hw 18 rfl) (by decide) w_Role_EXPORT [(.ref w_Quantity_PERFORMANCE)] [] 0 (rm_spansHour_39 l Z a0 hw []  h0 n0 H) (by decide) (by decide) rfl rfl e141 E_w_Role_EXPORT (by rw [hml]; rfl) (lenOf pd_3 rfl) (Nat.le_of_eq rfl) (hb hby at_75) 78 rfl rfl (by decide) (by decide) fun T143 X143 e143 => ?_
      refine own_iload X143 hx (hb hby at_78) rfl 80 rfl ?_
      refine own_icmpN X143 hx (hb hby at_80) (teq (by decide : (0 : Int32) = (0 : Int32))).2 83 rfl ?_
      refine own_iconst X143 hx (hb hby at_83) (1 : Int32) rfl 84 rfl ?_
      refine own_goto X143 hx (hb hby at_84) 88 (by decide) (by decide) ?_
      exact own_retZ X143 hx hk hret (hb hby at_88) rfl ⟨rfl, Fr.nil _⟩ (by decide) (by decide)
    · rw [q113]
      refine own_istore_n X0 hx (hb hby at_15) #[.val (.int x0), .val (.int x1), .val (.int (3 : Int32)), .val (.int (5 : Int32)), .unset, .unset, .unset] rfl 16 rfl ?_
      refine own_iload_n X0 hx (hb hby at_16) rfl 17 rfl ?_
      refine own_ifN X0 hx (hb hby at_17) ((if0 _ _).trans (feq (by decide : ¬ ((5 : Int32) = (0 : Int32)))).1) 20 rfl ?_
      refine own_iload_n X0 hx (hb hby at_20) rfl 21 rfl ?_
      refine own_iconst X0 hx (hb hby at_21) (5 : Int32) rfl 22 rfl ?_
      refine own_icmpN X0 hx (hb hby at_22) (teq (by decide : (5 : Int32) = (5 : Int32))).2 25 rfl ?_
      refine own_iconst X0 hx (hb hby at_25) (1 : Int32) rfl 26 rfl ?_
      refine own_goto X0 hx (hb hby at_26) 30 (by decide) (by decide) ?_
      refine own_istore X0 hx (hb hby at_30) #[.val (.int x0), .val (.int x1), .val (.int (3 : Int32)), .val (.int (5 : Int32)), .val (.int (1 : Int32)), .unset, .unset] rfl 32 rfl ?_
      refine own_iload_n X0 hx (hb hby at_32) rfl 33 rfl ?_
      refine own_iconst X0 hx (hb hby at_33) (4 : Int32) rfl 34 rfl ?_
      refine own_icmpY X0 hx (hb hby at_34) (tlt (by decide : (3 : Int32) < (4 : Int32))).1 47 (by decide) (by decide) ?_
      refine own_iconst X0 hx (hb hby at_47) (0 : Int32) rfl 48 rfl ?_
      refine own_istore X0 hx (hb hby at_48) #[.val (.int x0), .val (.int x1), .val (.int (3 : Int32)), .val (.int (5 : Int32)), .val (.int (1 : Int32)), .val (.int (0 : Int32)), .unset] rfl 50 rfl ?_
      refine own_iload X0 hx (hb hby at_50) rfl 52 rfl ?_
      refine own_ifY X0 hx (hb hby at_52) ((if0 _ _).trans (feq (by decide : ¬ ((1 : Int32) = (0 : Int32)))).2) 60 (by decide) (by decide) ?_
      refine own_iconst X0 hx (hb hby at_60) (1 : Int32) rfl 61 rfl ?_
      refine own_goto X0 hx (hb hby at_61) 65 (by decide) (by decide) ?_
      refine own_istore X0 hx (hb hby at_65) #[.val (.int x0), .val (.int x1), .val (.int (3 : Int32)), .val (.int (5 : Int32)), .val (.int (1 : Int32)), .val (.int (0 : Int32)), .val (.int (1 : Int32))] rfl 67 rfl ?_
      refine own_iload_n X0 hx (hb hby at_67) rfl 68 rfl ?_
      refine own_pureS X0 hx hZ hown (own_w hw 1 rfl) (own_w hw 2 rfl) (own_w hw 3 rfl) (own_w hw 4 rfl) (by decide) [(.int (3 : Int32))] [] 0 (rm_role_34 l Z a0 hw []  h0 n0 H) (by decide) (by decide) rfl rfl e0 (by rw [hml]; rfl) (lenOf pd_0 rfl) (Nat.le_of_eq rfl) (hb hby at_68) 71 rfl rfl (by decide) (by decide) fun T145 X145 e145 => ?_
      refine own_iload_n X145 hx (hb hby at_71) rfl 72 rfl ?_
      refine own_pureS X145 hx hZ hown (own_w hw 8 rfl) (own_w hw 9 rfl) (own_w hw 3 rfl) (own_w hw 10 rfl) (by decide) [(.int (5 : Int32))] [(.ref w_Role_EXPORT)] 1 (rm_quantity_17 l Z a0 hw []  h0 n0 H) (by decide) (by decide) rfl rfl e145 (by rw [hml]; rfl) (lenOf pd_1 rfl) (Nat.le_of_eq rfl) (hb hby at_72) 75 rfl rfl (by decide) (by decide) fun T147 X147 e147 => ?_
      refine own_pureV X147 hx hZ hown (own_w hw 14 rfl) (own_w hw 15 rfl) (notFace_of_selects (args := #[]) (mvT hZ (own_w hw 17 rfl))) (own_w hw 17 rfl) (own_w hw 16 rfl) (own_w hw 6 rfl) (own_w hw 18 rfl) (by decide) w_Role_EXPORT [(.ref w_Quantity_BID)] [] 0 (rm_spansHour_40 l Z a0 hw []  h0 n0 H) (by decide) (by decide) rfl rfl e147 E_w_Role_EXPORT (by rw [hml]; rfl) (lenOf pd_3 rfl) (Nat.le_of_eq rfl) (hb hby at_75) 78 rfl rfl (by decide) (by decide) fun T149 X149 e149 => ?_
      refine own_iload X149 hx (hb hby at_78) rfl 80 rfl ?_
      refine own_icmpN X149 hx (hb hby at_80) (teq (by decide : (1 : Int32) = (1 : Int32))).2 83 rfl ?_
      refine own_iconst X149 hx (hb hby at_83) (1 : Int32) rfl 84 rfl ?_
      refine own_goto X149 hx (hb hby at_84) 88 (by decide) (by decide) ?_
      exact own_retZ X149 hx hk hret (hb hby at_88) rfl ⟨rfl, Fr.nil _⟩ (by decide) (by decide)
  · rw [q1]
    refine own_istore_n X0 hx (hb hby at_7) #[.val (.int x0), .val (.int x1), .val (.int (4 : Int32)), .unset, .unset, .unset, .unset] rfl 8 rfl ?_
    refine own_iload_n X0 hx (hb hby at_8) rfl 9 rfl ?_
    refine own_ldc X0 hx hZ hown (own_w hw 0 rfl) (hb hby at_9) 11 rfl ?_
    refine own_iand X0 hx (hb hby at_11) 12 rfl ?_
    refine own_bipush X0 hx (hb hby at_12) (6 : Int32) rfl 14 rfl ?_
    refine own_irem X0 hx (hb hby at_14) (by decide) 15 rfl ?_
    rcases own_mod6 x1 with q150 | q150 | q150 | q150 | q150 | q150
    · rw [q150]
      refine own_istore_n X0 hx (hb hby at_15) #[.val (.int x0), .val (.int x1), .val (.int (4 : Int32)), .val (.int (0 : Int32)), .unset, .unset, .unset] rfl 16 rfl ?_
      refine own_iload_n X0 hx (hb hby at_16) rfl 17 rfl ?_
      refine own_ifY X0 hx (hb hby at_17) ((if0 _ _).trans (teq (by decide : (0 : Int32) = (0 : Int32))).1) 25 (by decide) (by decide) ?_
      refine own_iconst X0 hx (hb hby at_25) (1 : Int32) rfl 26 rfl ?_
      refine own_goto X0 hx (hb hby at_26) 30 (by decide) (by decide) ?_
      refine own_istore X0 hx (hb hby at_30) #[.val (.int x0), .val (.int x1), .val (.int (4 : Int32)), .val (.int (0 : Int32)), .val (.int (1 : Int32)), .unset, .unset] rfl 32 rfl ?_
      refine own_iload_n X0 hx (hb hby at_32) rfl 33 rfl ?_
      refine own_iconst X0 hx (hb hby at_33) (4 : Int32) rfl 34 rfl ?_
      refine own_icmpN X0 hx (hb hby at_34) (flt (by decide : ¬ ((4 : Int32) < (4 : Int32)))).1 37 rfl ?_
      refine own_iload_n X0 hx (hb hby at_37) rfl 38 rfl ?_
      refine own_bipush X0 hx (hb hby at_38) (7 : Int32) rfl 40 rfl ?_
      refine own_icmpN X0 hx (hb hby at_40) (flt (by decide : ¬ ((7 : Int32) < (4 : Int32)))).2.2.1 43 rfl ?_
      refine own_iconst X0 hx (hb hby at_43) (1 : Int32) rfl 44 rfl ?_
      refine own_goto X0 hx (hb hby at_44) 48 (by decide) (by decide) ?_
      refine own_istore X0 hx (hb hby at_48) #[.val (.int x0), .val (.int x1), .val (.int (4 : Int32)), .val (.int (0 : Int32)), .val (.int (1 : Int32)), .val (.int (1 : Int32)), .unset] rfl 50 rfl ?_
      refine own_iload X0 hx (hb hby at_50) rfl 52 rfl ?_
      refine own_ifY X0 hx (hb hby at_52) ((if0 _ _).trans (feq (by decide : ¬ ((1 : Int32) = (0 : Int32)))).2) 60 (by decide) (by decide) ?_
      refine own_iconst X0 hx (hb hby at_60) (1 : Int32) rfl 61 rfl ?_
      refine own_goto X0 hx (hb hby at_61) 65 (by decide) (by decide) ?_
      refine own_istore X0 hx (hb hby at_65) #[.val (.int x0), .val (.int x1), .val (.int (4 : Int32)), .val (.int (0 : Int32)), .val (.int (1 : Int32)), .val (.int (1 : Int32)), .val (.int (1 : Int32))] rfl 67 rfl ?_
      refine own_iload_n X0 hx (hb hby at_67) rfl 68 rfl ?_
      refine own_pureS X0 hx hZ hown (own_w hw 1 rfl) (own_w hw 2 rfl) (own_w hw 3 rfl) (own_w hw 4 rfl) (by decide) [(.int (4 : Int32))] [] 0 (rm_role_41 l Z a0 hw []  h0 n0 H) (by decide) (by decide) rfl rfl e0 (by rw [hml]; rfl) (lenOf pd_0 rfl) (Nat.le_of_eq rfl) (hb hby at_68) 71 rfl rfl (by decide) (by decide) fun T152 X152 e152 => ?_
      refine own_iload_n X152 hx (hb hby at_71) rfl 72 rfl ?_
      refine own_pureS X152 hx hZ hown (own_w hw 8 rfl) (own_w hw 9 rfl) (own_w hw 3 rfl) (own_w hw 10 rfl) (by decide) [(.int (0 : Int32))] [(.ref w_Role_VIRTUAL_SUPPLY)] 1 (rm_quantity_2 l Z a0 hw []  h0 n0 H) (by decide) (by decide) rfl rfl e152 (by rw [hml]; rfl) (lenOf pd_1 rfl) (Nat.le_of_eq rfl) (hb hby at_72) 75 rfl rfl (by decide) (by decide) fun T154 X154 e154 => ?_
      refine own_pureV X154 hx hZ hown (own_w hw 14 rfl) (own_w hw 15 rfl) (notFace_of_selects (args := #[]) (mvT hZ (own_w hw 17 rfl))) (own_w hw 17 rfl) (own_w hw 16 rfl) (own_w hw 6 rfl) (own_w hw 18 rfl) (by decide) w_Role_VIRTUAL_SUPPLY [(.ref w_Quantity_DA)] [] 0 (rm_spansHour_42 l Z a0 hw []  h0 n0 H) (by decide) (by decide) rfl rfl e154 E_w_Role_VIRTUAL_SUPPLY (by rw [hml]; rfl) (lenOf pd_3 rfl) (Nat.le_of_eq rfl) (hb hby at_75) 78 rfl rfl (by decide) (by decide) fun T156 X156 e156 => ?_
      refine own_iload X156 hx (hb hby at_78) rfl 80 rfl ?_
      refine own_icmpN X156 hx (hb hby at_80) (teq (by decide : (1 : Int32) = (1 : Int32))).2 83 rfl ?_
      refine own_iconst X156 hx (hb hby at_83) (1 : Int32) rfl 84 rfl ?_
      refine own_goto X156 hx (hb hby at_84) 88 (by decide) (by decide) ?_
      exact own_retZ X156 hx hk hret (hb hby at_88) rfl ⟨rfl, Fr.nil _⟩ (by decide) (by decide)
    · rw [q150]
      refine own_istore_n X0 hx (hb hby at_15) #[.val (.int x0), .val (.int x1), .val (.int (4 : Int32)), .val (.int (1 : Int32)), .unset, .unset, .unset] rfl 16 rfl ?_
      refine own_iload_n X0 hx (hb hby at_16) rfl 17 rfl ?_
      refine own_ifN X0 hx (hb hby at_17) ((if0 _ _).trans (feq (by decide : ¬ ((1 : Int32) = (0 : Int32)))).1) 20 rfl ?_
      refine own_iload_n X0 hx (hb hby at_20) rfl 21 rfl ?_
      refine own_iconst X0 hx (hb hby at_21) (5 : Int32) rfl 22 rfl ?_
      refine own_icmpY X0 hx (hb hby at_22) (feq (by decide : ¬ ((1 : Int32) = (5 : Int32)))).2 29 (by decide) (by decide) ?_
      refine own_iconst X0 hx (hb hby at_29) (0 : Int32) rfl 30 rfl ?_
      refine own_istore X0 hx (hb hby at_30) #[.val (.int x0), .val (.int x1), .val (.int (4 : Int32)), .val (.int (1 : Int32)), .val (.int (0 : Int32)), .unset, .unset] rfl 32 rfl ?_
      refine own_iload_n X0 hx (hb hby at_32) rfl 33 rfl ?_
      refine own_iconst X0 hx (hb hby at_33) (4 : Int32) rfl 34 rfl ?_
      refine own_icmpN X0 hx (hb hby at_34) (flt (by decide : ¬ ((4 : Int32) < (4 : Int32)))).1 37 rfl ?_
      refine own_iload_n X0 hx (hb hby at_37) rfl 38 rfl ?_
      refine own_bipush X0 hx (hb hby at_38) (7 : Int32) rfl 40 rfl ?_
      refine own_icmpN X0 hx (hb hby at_40) (flt (by decide : ¬ ((7 : Int32) < (4 : Int32)))).2.2.1 43 rfl ?_
      refine own_iconst X0 hx (hb hby at_43) (1 : Int32) rfl 44 rfl ?_
      refine own_goto X0 hx (hb hby at_44) 48 (by decide) (by decide) ?_
      refine own_istore X0 hx (hb hby at_48) #[.val (.int x0), .val (.int x1), .val (.int (4 : Int32)), .val (.int (1 : Int32)), .val (.int (0 : Int32)), .val (.int (1 : Int32)), .unset] rfl 50 rfl ?_
      refine own_iload X0 hx (hb hby at_50) rfl 52 rfl ?_
      refine own_ifN X0 hx (hb hby at_52) ((if0 _ _).trans (teq (by decide : (0 : Int32) = (0 : Int32))).2) 55 rfl ?_
      refine own_iload X0 hx (hb hby at_55) rfl 57 rfl ?_
      refine own_ifN X0 hx (hb hby at_57) ((if0 _ _).trans (feq (by decide : ¬ ((1 : Int32) = (0 : Int32)))).1) 60 rfl ?_
      refine own_iconst X0 hx (hb hby at_60) (1 : Int32) rfl 61 rfl ?_
      refine own_goto X0 hx (hb hby at_61) 65 (by decide) (by decide) ?_
      refine own_istore X0 hx (hb hby at_65) #[.val (.int x0), .val (.int x1), .val (.int (4 : Int32)), .val (.int (1 : Int32)), .val (.int (0 : Int32)), .val (.int (1 : Int32)), .val (.int (1 : Int32))] rfl 67 rfl ?_
      refine own_iload_n X0 hx (hb hby at_67) rfl 68 rfl ?_
      refine own_pureS X0 hx hZ hown (own_w hw 1 rfl) (own_w hw 2 rfl) (own_w hw 3 rfl) (own_w hw 4 rfl) (by decide) [(.int (4 : Int32))] [] 0 (rm_role_41 l Z a0 hw []  h0 n0 H) (by decide) (by decide) rfl rfl e0 (by rw [hml]; rfl) (lenOf pd_0 rfl) (Nat.le_of_eq rfl) (hb hby at_68) 71 rfl rfl (by decide) (by decide) fun T158 X158 e158 => ?_
      refine own_iload_n X158 hx (hb hby at_71) rfl 72 rfl ?_
      refine own_pureS X158 hx hZ hown (own_w hw 8 rfl) (own_w hw 9 rfl) (own_w hw 3 rfl) (own_w hw 10 rfl) (by decide) [(.int (1 : Int32))] [(.ref w_Role_VIRTUAL_SUPPLY)] 1 (rm_quantity_5 l Z a0 hw []  h0 n0 H) (by decide) (by decide) rfl rfl e158 (by rw [hml]; rfl) (lenOf pd_1 rfl) (Nat.le_of_eq rfl) (hb hby at_72) 75 rfl rfl (by decide) (by decide) fun T160 X160 e160 => ?_
      refine own_pureV X160 hx hZ hown (own_w hw 14 rfl) (own_w hw 15 rfl) (notFace_of_selects (args := #[]) (mvT hZ (own_w hw 17 rfl))) (own_w hw 17 rfl) (own_w hw 16 rfl) (own_w hw 6 rfl) (own_w hw 18 rfl) (by decide) w_Role_VIRTUAL_SUPPLY [(.ref w_Quantity_RT)] [] 0 (rm_spansHour_43 l Z a0 hw []  h0 n0 H) (by decide) (by decide) rfl rfl e160 E_w_Role_VIRTUAL_SUPPLY (by rw [hml]; rfl) (lenOf pd_3 rfl) (Nat.le_of_eq rfl) (hb hby at_75) 78 rfl rfl (by decide) (by decide) fun T162 X162 e162 => ?_
      refine own_iload X162 hx (hb hby at_78) rfl 80 rfl ?_
      refine own_icmpN X162 hx (hb hby at_80) (teq (by decide : (1 : Int32) = (1 : Int32))).2 83 rfl ?_
      refine own_iconst X162 hx (hb hby at_83) (1 : Int32) rfl 84 rfl ?_
      refine own_goto X162 hx (hb hby at_84) 88 (by decide) (by decide) ?_
      exact own_retZ X162 hx hk hret (hb hby at_88) rfl ⟨rfl, Fr.nil _⟩ (by decide) (by decide)
    · rw [q150]
      refine own_istore_n X0 hx (hb hby at_15) #[.val (.int x0), .val (.int x1), .val (.int (4 : Int32)), .val (.int (2 : Int32)), .unset, .unset, .unset] rfl 16 rfl ?_
      refine own_iload_n X0 hx (hb hby at_16) rfl 17 rfl ?_
      refine own_ifN X0 hx (hb hby at_17) ((if0 _ _).trans (feq (by decide : ¬ ((2 : Int32) = (0 : Int32)))).1) 20 rfl ?_
      refine own_iload_n X0 hx (hb hby at_20) rfl 21 rfl ?_
      refine own_iconst X0 hx (hb hby at_21) (5 : Int32) rfl 22 rfl ?_
      refine own_icmpY X0 hx (hb hby at_22) (feq (by decide : ¬ ((2 : Int32) = (5 : Int32)))).2 29 (by decide) (by decide) ?_
      refine own_iconst X0 hx (hb hby at_29) (0 : Int32) rfl 30 rfl ?_
      refine own_istore X0 hx (hb hby at_30) #[.val (.int x0), .val (.int x1), .val (.int (4 : Int32)), .val (.int (2 : Int32)), .val (.int (0 : Int32)), .unset, .unset] rfl 32 rfl ?_
      refine own_iload_n X0 hx (hb hby at_32) rfl 33 rfl ?_
      refine own_iconst X0 hx (hb hby at_33) (4 : Int32) rfl 34 rfl ?_
      refine own_icmpN X0 hx (hb hby at_34) (flt (by decide : ¬ ((4 : Int32) < (4 : Int32)))).1 37 rfl ?_
      refine own_iload_n X0 hx (hb hby at_37) rfl 38 rfl ?_
      refine own_bipush X0 hx (hb hby at_38) (7 : Int32) rfl 40 rfl ?_
      refine own_icmpN X0 hx (hb hby at_40) (flt (by decide : ¬ ((7 : Int32) < (4 : Int32)))).2.2.1 43 rfl ?_
      refine own_iconst X0 hx (hb hby at_43) (1 : Int32) rfl 44 rfl ?_
      refine own_goto X0 hx (hb hby at_44) 48 (by decide) (by decide) ?_
      refine own_istore X0 hx (hb hby at_48) #[.val (.int x0), .val (.int x1), .val (.int (4 : Int32)), .val (.int (2 : Int32)), .val (.int (0 : Int32)), .val (.int (1 : Int32)), .unset] rfl 50 rfl ?_
      refine own_iload X0 hx (hb hby at_50) rfl 52 rfl ?_
      refine own_ifN X0 hx (hb hby at_52) ((if0 _ _).trans (teq (by decide : (0 : Int32) = (0 : Int32))).2) 55 rfl ?_
      refine own_iload X0 hx (hb hby at_55) rfl 57 rfl ?_
      refine own_ifN X0 hx (hb hby at_57) ((if0 _ _).trans (feq (by decide : ¬ ((1 : Int32) = (0 : Int32)))).1) 60 rfl ?_
      refine own_iconst X0 hx (hb hby at_60) (1 : Int32) rfl 61 rfl ?_
      refine own_goto X0 hx (hb hby at_61) 65 (by decide) (by decide) ?_
      refine own_istore X0 hx (hb hby at_65) #[.val (.int x0), .val (.int x1), .val (.int (4 : Int32)), .val (.int (2 : Int32)), .val (.int (0 : Int32)), .val (.int (1 : Int32)), .val (.int (1 : Int32))] rfl 67 rfl ?_
      refine own_iload_n X0 hx (hb hby at_67) rfl 68 rfl ?_
      refine own_pureS X0 hx hZ hown (own_w hw 1 rfl) (own_w hw 2 rfl) (own_w hw 3 rfl) (own_w hw 4 rfl) (by decide) [(.int (4 : Int32))] [] 0 (rm_role_41 l Z a0 hw []  h0 n0 H) (by decide) (by decide) rfl rfl e0 (by rw [hml]; rfl) (lenOf pd_0 rfl) (Nat.le_of_eq rfl) (hb hby at_68) 71 rfl rfl (by decide) (by decide) fun T164 X164 e164 => ?_
      refine own_iload_n X164 hx (hb hby at_71) rfl 72 rfl ?_
      refine own_pureS X164 hx hZ hown (own_w hw 8 rfl) (own_w hw 9 rfl) (own_w hw 3 rfl) (own_w hw 10 rfl) (by decide) [(.int (2 : Int32))] [(.ref w_Role_VIRTUAL_SUPPLY)] 1 (rm_quantity_8 l Z a0 hw []  h0 n0 H) (by decide) (by decide) rfl rfl e164 (by rw [hml]; rfl) (lenOf pd_1 rfl) (Nat.le_of_eq rfl) (hb hby at_72) 75 rfl rfl (by decide) (by decide) fun T166 X166 e166 => ?_
      refine own_pureV X166 hx hZ hown (own_w hw 14 rfl) (own_w hw 15 rfl) (notFace_of_selects (args := #[]) (mvT hZ (own_w hw 17 rfl))) (own_w hw 17 rfl) (own_w hw 16 rfl) (own_w hw 6 rfl) (own_w hw 18 rfl) (by decide) w_Role_VIRTUAL_SUPPLY [(.ref w_Quantity_ACTUAL)] [] 0 (rm_spansHour_44 l Z a0 hw []  h0 n0 H) (by decide) (by decide) rfl rfl e166 E_w_Role_VIRTUAL_SUPPLY (by rw [hml]; rfl) (lenOf pd_3 rfl) (Nat.le_of_eq rfl) (hb hby at_75) 78 rfl rfl (by decide) (by decide) fun T168 X168 e168 => ?_
      refine own_iload X168 hx (hb hby at_78) rfl 80 rfl ?_
      refine own_icmpN X168 hx (hb hby at_80) (teq (by decide : (1 : Int32) = (1 : Int32))).2 83 rfl ?_
      refine own_iconst X168 hx (hb hby at_83) (1 : Int32) rfl 84 rfl ?_
      refine own_goto X168 hx (hb hby at_84) 88 (by decide) (by decide) ?_
      exact own_retZ X168 hx hk hret (hb hby at_88) rfl ⟨rfl, Fr.nil _⟩ (by decide) (by decide)
    · rw [q150]
      refine own_istore_n X0 hx (hb hby at_15) #[.val (.int x0), .val (.int x1), .val (.int (4 : Int32)), .val (.int (3 : Int32)), .unset, .unset, .unset] rfl 16 rfl ?_
      refine own_iload_n X0 hx (hb hby at_16) rfl 17 rfl ?_
      refine own_ifN X0 hx (hb hby at_17) ((if0 _ _).trans (feq (by decide : ¬ ((3 : Int32) = (0 : Int32)))).1) 20 rfl ?_
      refine own_iload_n X0 hx (hb hby at_20) rfl 21 rfl ?_
      refine own_iconst X0 hx (hb hby at_21) (5 : Int32) rfl 22 rfl ?_
      refine own_icmpY X0 hx (hb hby at_22) (feq (by decide : ¬ ((3 : Int32) = (5 : Int32)))).2 29 (by decide) (by decide) ?_
      refine own_iconst X0 hx (hb hby at_29) (0 : Int32) rfl 30 rfl ?_
      refine own_istore X0 hx (hb hby at_30) #[.val (.int x0), .val (.int x1), .val (.int (4 : Int32)), .val (.int (3 : Int32)), .val (.int (0 : Int32)), .unset, .unset] rfl 32 rfl ?_
      refine own_iload_n X0 hx (hb hby at_32) rfl 33 rfl ?_
      refine own_iconst X0 hx (hb hby at_33) (4 : Int32) rfl 34 rfl ?_
      refine own_icmpN X0 hx (hb hby at_34) (flt (by decide : ¬ ((4 : Int32) < (4 : Int32)))).1 37 rfl ?_
      refine own_iload_n X0 hx (hb hby at_37) rfl 38 rfl ?_
      refine own_bipush X0 hx (hb hby at_38) (7 : Int32) rfl 40 rfl ?_
      refine own_icmpN X0 hx (hb hby at_40) (flt (by decide : ¬ ((7 : Int32) < (4 : Int32)))).2.2.1 43 rfl ?_
      refine own_iconst X0 hx (hb hby at_43) (1 : Int32) rfl 44 rfl ?_
      refine own_goto X0 hx (hb hby at_44) 48 (by decide) (by decide) ?_
      refine own_istore X0 hx (hb hby at_48) #[.val (.int x0), .val (.int x1), .val (.int (4 : Int32)), .val (.int (3 : Int32)), .val (.int (0 : Int32)), .val (.int (1 : Int32)), .unset] rfl 50 rfl ?_
      refine own_iload X0 hx (hb hby at_50) rfl 52 rfl ?_
      refine own_ifN X0 hx (hb hby at_52) ((if0 _ _).trans (teq (by decide : (0 : Int32) = (0 : Int32))).2) 55 rfl ?_
      refine own_iload X0 hx (hb hby at_55) rfl 57 rfl ?_
      refine own_ifN X0 hx (hb hby at_57) ((if0 _ _).trans (feq (by decide : ¬ ((1 : Int32) = (0 : Int32)))).1) 60 rfl ?_
      refine own_iconst X0 hx (hb hby at_60) (1 : Int32) rfl 61 rfl ?_
      refine own_goto X0 hx (hb hby at_61) 65 (by decide) (by decide) ?_
      refine own_istore X0 hx (hb hby at_65) #[.val (.int x0), .val (.int x1), .val (.int (4 : Int32)), .val (.int (3 : Int32)), .val (.int (0 : Int32)), .val (.int (1 : Int32)), .val (.int (1 : Int32))] rfl 67 rfl ?_
      refine own_iload_n X0 hx (hb hby at_67) rfl 68 rfl ?_
      refine own_pureS X0 hx hZ hown (own_w hw 1 rfl) (own_w hw 2 rfl) (own_w hw 3 rfl) (own_w hw 4 rfl) (by decide) [(.int (4 : Int32))] [] 0 (rm_role_41 l Z a0 hw []  h0 n0 H) (by decide) (by decide) rfl rfl e0 (by rw [hml]; rfl) (lenOf pd_0 rfl) (Nat.le_of_eq rfl) (hb hby at_68) 71 rfl rfl (by decide) (by decide) fun T170 X170 e170 => ?_
      refine own_iload_n X170 hx (hb hby at_71) rfl 72 rfl ?_
      refine own_pureS X170 hx hZ hown (own_w hw 8 rfl) (own_w hw 9 rfl) (own_w hw 3 rfl) (own_w hw 10 rfl) (by decide) [(.int (3 : Int32))] [(.ref w_Role_VIRTUAL_SUPPLY)] 1 (rm_quantity_11 l Z a0 hw []  h0 n0 H) (by decide) (by decide) rfl rfl e170 (by rw [hml]; rfl) (lenOf pd_1 rfl) (Nat.le_of_eq rfl) (hb hby at_72) 75 rfl rfl (by decide) (by decide) fun T172 X172 e172 => ?_
      refine own_pureV X172 hx hZ hown (own_w hw 14 rfl) (own_w hw 15 rfl) (notFace_of_selects (args := #[]) (mvT hZ (own_w hw 17 rfl))) (own_w hw 17 rfl) (own_w hw 16 rfl) (own_w hw 6 rfl) (own_w hw 18 rfl) (by decide) w_Role_VIRTUAL_SUPPLY [(.ref w_Quantity_MOVEMENT)] [] 0 (rm_spansHour_45 l Z a0 hw []  h0 n0 H) (by decide) (by decide) rfl rfl e172 E_w_Role_VIRTUAL_SUPPLY (by rw [hml]; rfl) (lenOf pd_3 rfl) (Nat.le_of_eq rfl) (hb hby at_75) 78 rfl rfl (by decide) (by decide) fun T174 X174 e174 => ?_
      refine own_iload X174 hx (hb hby at_78) rfl 80 rfl ?_
      refine own_icmpN X174 hx (hb hby at_80) (teq (by decide : (1 : Int32) = (1 : Int32))).2 83 rfl ?_
      refine own_iconst X174 hx (hb hby at_83) (1 : Int32) rfl 84 rfl ?_
      refine own_goto X174 hx (hb hby at_84) 88 (by decide) (by decide) ?_
      exact own_retZ X174 hx hk hret (hb hby at_88) rfl ⟨rfl, Fr.nil _⟩ (by decide) (by decide)
    · rw [q150]
      refine own_istore_n X0 hx (hb hby at_15) #[.val (.int x0), .val (.int x1), .val (.int (4 : Int32)), .val (.int (4 : Int32)), .unset, .unset, .unset] rfl 16 rfl ?_
      refine own_iload_n X0 hx (hb hby at_16) rfl 17 rfl ?_
      refine own_ifN X0 hx (hb hby at_17) ((if0 _ _).trans (feq (by decide : ¬ ((4 : Int32) = (0 : Int32)))).1) 20 rfl ?_
      refine own_iload_n X0 hx (hb hby at_20) rfl 21 rfl ?_
      refine own_iconst X0 hx (hb hby at_21) (5 : Int32) rfl 22 rfl ?_
      refine own_icmpY X0 hx (hb hby at_22) (feq (by decide : ¬ ((4 : Int32) = (5 : Int32)))).2 29 (by decide) (by decide) ?_
      refine own_iconst X0 hx (hb hby at_29) (0 : Int32) rfl 30 rfl ?_
      refine own_istore X0 hx (hb hby at_30) #[.val (.int x0), .val (.int x1), .val (.int (4 : Int32)), .val (.int (4 : Int32)), .val (.int (0 : Int32)), .unset, .unset] rfl 32 rfl ?_
      refine own_iload_n X0 hx (hb hby at_32) rfl 33 rfl ?_
      refine own_iconst X0 hx (hb hby at_33) (4 : Int32) rfl 34 rfl ?_
      refine own_icmpN X0 hx (hb hby at_34) (flt (by decide : ¬ ((4 : Int32) < (4 : Int32)))).1 37 rfl ?_
      refine own_iload_n X0 hx (hb hby at_37) rfl 38 rfl ?_
      refine own_bipush X0 hx (hb hby at_38) (7 : Int32) rfl 40 rfl ?_
      refine own_icmpN X0 hx (hb hby at_40) (flt (by decide : ¬ ((7 : Int32) < (4 : Int32)))).2.2.1 43 rfl ?_
      refine own_iconst X0 hx (hb hby at_43) (1 : Int32) rfl 44 rfl ?_
      refine own_goto X0 hx (hb hby at_44) 48 (by decide) (by decide) ?_
      refine own_istore X0 hx (hb hby at_48) #[.val (.int x0), .val (.int x1), .val (.int (4 : Int32)), .val (.int (4 : Int32)), .val (.int (0 : Int32)), .val (.int (1 : Int32)), .unset] rfl 50 rfl ?_
      refine own_iload X0 hx (hb hby at_50) rfl 52 rfl ?_
      refine own_ifN X0 hx (hb hby at_52) ((if0 _ _).trans (teq (by decide : (0 : Int32) = (0 : Int32))).2) 55 rfl ?_
      refine own_iload X0 hx (hb hby at_55) rfl 57 rfl ?_
      refine own_ifN X0 hx (hb hby at_57) ((if0 _ _).trans (feq (by decide : ¬ ((1 : Int32) = (0 : Int32)))).1) 60 rfl ?_
      refine own_iconst X0 hx (hb hby at_60) (1 : Int32) rfl 61 rfl ?_
      refine own_goto X0 hx (hb hby at_61) 65 (by decide) (by decide) ?_
      refine own_istore X0 hx (hb hby at_65) #[.val (.int x0), .val (.int x1), .val (.int (4 : Int32)), .val (.int (4 : Int32)), .val (.int (0 : Int32)), .val (.int (1 : Int32)), .val (.int (1 : Int32))] rfl 67 rfl ?_
      refine own_iload_n X0 hx (hb hby at_67) rfl 68 rfl ?_
      refine own_pureS X0 hx hZ hown (own_w hw 1 rfl) (own_w hw 2 rfl) (own_w hw 3 rfl) (own_w hw 4 rfl) (by decide) [(.int (4 : Int32))] [] 0 (rm_role_41 l Z a0 hw []  h0 n0 H) (by decide) (by decide) rfl rfl e0 (by rw [hml]; rfl) (lenOf pd_0 rfl) (Nat.le_of_eq rfl) (hb hby at_68) 71 rfl rfl (by decide) (by decide) fun T176 X176 e176 => ?_
      refine own_iload_n X176 hx (hb hby at_71) rfl 72 rfl ?_
      refine own_pureS X176 hx hZ hown (own_w hw 8 rfl) (own_w hw 9 rfl) (own_w hw 3 rfl) (own_w hw 10 rfl) (by decide) [(.int (4 : Int32))] [(.ref w_Role_VIRTUAL_SUPPLY)] 1 (rm_quantity_14 l Z a0 hw []  h0 n0 H) (by decide) (by decide) rfl rfl e176 (by rw [hml]; rfl) (lenOf pd_1 rfl) (Nat.le_of_eq rfl) (hb hby at_72) 75 rfl rfl (by decide) (by decide) fun T178 X178 e178 => ?_
      refine own_pureV X178 hx hZ hown (own_w hw 14 rfl) (own_w hw 15 rfl) (notFace_of_selects (args := #[]) (mvT hZ (own_w hw 17 rfl))) (own_w hw 17 rfl) (own_w hw 16 rfl) (own_w hw 6 rfl) (own_w hw 18 rfl) (by decide) w_Role_VIRTUAL_SUPPLY [(.ref w_Quantity_PERFORMANCE)] [] 0 (rm_spansHour_46 l Z a0 hw []  h0 n0 H) (by decide) (by decide) rfl rfl e178 E_w_Role_VIRTUAL_SUPPLY (by rw [hml]; rfl) (lenOf pd_3 rfl) (Nat.le_of_eq rfl) (hb hby at_75) 78 rfl rfl (by decide) (by decide) fun T180 X180 e180 => ?_
      refine own_iload X180 hx (hb hby at_78) rfl 80 rfl ?_
      refine own_icmpN X180 hx (hb hby at_80) (teq (by decide : (1 : Int32) = (1 : Int32))).2 83 rfl ?_
      refine own_iconst X180 hx (hb hby at_83) (1 : Int32) rfl 84 rfl ?_
      refine own_goto X180 hx (hb hby at_84) 88 (by decide) (by decide) ?_
      exact own_retZ X180 hx hk hret (hb hby at_88) rfl ⟨rfl, Fr.nil _⟩ (by decide) (by decide)
    · rw [q150]
      refine own_istore_n X0 hx (hb hby at_15) #[.val (.int x0), .val (.int x1), .val (.int (4 : Int32)), .val (.int (5 : Int32)), .unset, .unset, .unset] rfl 16 rfl ?_
      refine own_iload_n X0 hx (hb hby at_16) rfl 17 rfl ?_
      refine own_ifN X0 hx (hb hby at_17) ((if0 _ _).trans (feq (by decide : ¬ ((5 : Int32) = (0 : Int32)))).1) 20 rfl ?_
      refine own_iload_n X0 hx (hb hby at_20) rfl 21 rfl ?_
      refine own_iconst X0 hx (hb hby at_21) (5 : Int32) rfl 22 rfl ?_
      refine own_icmpN X0 hx (hb hby at_22) (teq (by decide : (5 : Int32) = (5 : Int32))).2 25 rfl ?_
      refine own_iconst X0 hx (hb hby at_25) (1 : Int32) rfl 26 rfl ?_
      refine own_goto X0 hx (hb hby at_26) 30 (by decide) (by decide) ?_
      refine own_istore X0 hx (hb hby at_30) #[.val (.int x0), .val (.int x1), .val (.int (4 : Int32)), .val (.int (5 : Int32)), .val (.int (1 : Int32)), .unset, .unset] rfl 32 rfl ?_
      refine own_iload_n X0 hx (hb hby at_32) rfl 33 rfl ?_
      refine own_iconst X0 hx (hb hby at_33) (4 : Int32) rfl 34 rfl ?_
      refine own_icmpN X0 hx (hb hby at_34) (flt (by decide : ¬ ((4 : Int32) < (4 : Int32)))).1 37 rfl ?_
      refine own_iload_n X0 hx (hb hby at_37) rfl 38 rfl ?_
      refine own_bipush X0 hx (hb hby at_38) (7 : Int32) rfl 40 rfl ?_
      refine own_icmpN X0 hx (hb hby at_40) (flt (by decide : ¬ ((7 : Int32) < (4 : Int32)))).2.2.1 43 rfl ?_
      refine own_iconst X0 hx (hb hby at_43) (1 : Int32) rfl 44 rfl ?_
      refine own_goto X0 hx (hb hby at_44) 48 (by decide) (by decide) ?_
      refine own_istore X0 hx (hb hby at_48) #[.val (.int x0), .val (.int x1), .val (.int (4 : Int32)), .val (.int (5 : Int32)), .val (.int (1 : Int32)), .val (.int (1 : Int32)), .unset] rfl 50 rfl ?_
      refine own_iload X0 hx (hb hby at_50) rfl 52 rfl ?_
      refine own_ifY X0 hx (hb hby at_52) ((if0 _ _).trans (feq (by decide : ¬ ((1 : Int32) = (0 : Int32)))).2) 60 (by decide) (by decide) ?_
      refine own_iconst X0 hx (hb hby at_60) (1 : Int32) rfl 61 rfl ?_
      refine own_goto X0 hx (hb hby at_61) 65 (by decide) (by decide) ?_
      refine own_istore X0 hx (hb hby at_65) #[.val (.int x0), .val (.int x1), .val (.int (4 : Int32)), .val (.int (5 : Int32)), .val (.int (1 : Int32)), .val (.int (1 : Int32)), .val (.int (1 : Int32))] rfl 67 rfl ?_
      refine own_iload_n X0 hx (hb hby at_67) rfl 68 rfl ?_
      refine own_pureS X0 hx hZ hown (own_w hw 1 rfl) (own_w hw 2 rfl) (own_w hw 3 rfl) (own_w hw 4 rfl) (by decide) [(.int (4 : Int32))] [] 0 (rm_role_41 l Z a0 hw []  h0 n0 H) (by decide) (by decide) rfl rfl e0 (by rw [hml]; rfl) (lenOf pd_0 rfl) (Nat.le_of_eq rfl) (hb hby at_68) 71 rfl rfl (by decide) (by decide) fun T182 X182 e182 => ?_
      refine own_iload_n X182 hx (hb hby at_71) rfl 72 rfl ?_
      refine own_pureS X182 hx hZ hown (own_w hw 8 rfl) (own_w hw 9 rfl) (own_w hw 3 rfl) (own_w hw 10 rfl) (by decide) [(.int (5 : Int32))] [(.ref w_Role_VIRTUAL_SUPPLY)] 1 (rm_quantity_17 l Z a0 hw []  h0 n0 H) (by decide) (by decide) rfl rfl e182 (by rw [hml]; rfl) (lenOf pd_1 rfl) (Nat.le_of_eq rfl) (hb hby at_72) 75 rfl rfl (by decide) (by decide) fun T184 X184 e184 => ?_
      refine own_pureV X184 hx hZ hown (own_w hw 14 rfl) (own_w hw 15 rfl) (notFace_of_selects (args := #[]) (mvT hZ (own_w hw 17 rfl))) (own_w hw 17 rfl) (own_w hw 16 rfl) (own_w hw 6 rfl) (own_w hw 18 rfl) (by decide) w_Role_VIRTUAL_SUPPLY [(.ref w_Quantity_BID)] [] 0 (rm_spansHour_47 l Z a0 hw []  h0 n0 H) (by decide) (by decide) rfl rfl e184 E_w_Role_VIRTUAL_SUPPLY (by rw [hml]; rfl) (lenOf pd_3 rfl) (Nat.le_of_eq rfl) (hb hby at_75) 78 rfl rfl (by decide) (by decide) fun T186 X186 e186 => ?_
      refine own_iload X186 hx (hb hby at_78) rfl 80 rfl ?_
      refine own_icmpN X186 hx (hb hby at_80) (teq (by decide : (1 : Int32) = (1 : Int32))).2 83 rfl ?_
      refine own_iconst X186 hx (hb hby at_83) (1 : Int32) rfl 84 rfl ?_
      refine own_goto X186 hx (hb hby at_84) 88 (by decide) (by decide) ?_
      exact own_retZ X186 hx hk hret (hb hby at_88) rfl ⟨rfl, Fr.nil _⟩ (by decide) (by decide)
  · rw [q1]
    refine own_istore_n X0 hx (hb hby at_7) #[.val (.int x0), .val (.int x1), .val (.int (5 : Int32)), .unset, .unset, .unset, .unset] rfl 8 rfl ?_
    refine own_iload_n X0 hx (hb hby at_8) rfl 9 rfl ?_
    refine own_ldc X0 hx hZ hown (own_w hw 0 rfl) (hb hby at_9) 11 rfl ?_
    refine own_iand X0 hx (hb hby at_11) 12 rfl ?_
    refine own_bipush X0 hx (hb hby at_12) (6 : Int32) rfl 14 rfl ?_
    refine own_irem X0 hx (hb hby at_14) (by decide) 15 rfl ?_
    rcases own_mod6 x1 with q187 | q187 | q187 | q187 | q187 | q187
    · rw [q187]
      refine own_istore_n X0 hx (hb hby at_15) #[.val (.int x0), .val (.int x1), .val (.int (5 : Int32)), .val (.int (0 : Int32)), .unset, .unset, .unset] rfl 16 rfl ?_
      refine own_iload_n X0 hx (hb hby at_16) rfl 17 rfl ?_
      refine own_ifY X0 hx (hb hby at_17) ((if0 _ _).trans (teq (by decide : (0 : Int32) = (0 : Int32))).1) 25 (by decide) (by decide) ?_
      refine own_iconst X0 hx (hb hby at_25) (1 : Int32) rfl 26 rfl ?_
      refine own_goto X0 hx (hb hby at_26) 30 (by decide) (by decide) ?_
      refine own_istore X0 hx (hb hby at_30) #[.val (.int x0), .val (.int x1), .val (.int (5 : Int32)), .val (.int (0 : Int32)), .val (.int (1 : Int32)), .unset, .unset] rfl 32 rfl ?_
      refine own_iload_n X0 hx (hb hby at_32) rfl 33 rfl ?_
      refine own_iconst X0 hx (hb hby at_33) (4 : Int32) rfl 34 rfl ?_
      refine own_icmpN X0 hx (hb hby at_34) (flt (by decide : ¬ ((5 : Int32) < (4 : Int32)))).1 37 rfl ?_
      refine own_iload_n X0 hx (hb hby at_37) rfl 38 rfl ?_
      refine own_bipush X0 hx (hb hby at_38) (7 : Int32) rfl 40 rfl ?_
      refine own_icmpN X0 hx (hb hby at_40) (flt (by decide : ¬ ((7 : Int32) < (5 : Int32)))).2.2.1 43 rfl ?_
      refine own_iconst X0 hx (hb hby at_43) (1 : Int32) rfl 44 rfl ?_
      refine own_goto X0 hx (hb hby at_44) 48 (by decide) (by decide) ?_
      refine own_istore X0 hx (hb hby at_48) #[.val (.int x0), .val (.int x1), .val (.int (5 : Int32)), .val (.int (0 : Int32)), .val (.int (1 : Int32)), .val (.int (1 : Int32)), .unset] rfl 50 rfl ?_
      refine own_iload X0 hx (hb hby at_50) rfl 52 rfl ?_
      refine own_ifY X0 hx (hb hby at_52) ((if0 _ _).trans (feq (by decide : ¬ ((1 : Int32) = (0 : Int32)))).2) 60 (by decide) (by decide) ?_
      refine own_iconst X0 hx (hb hby at_60) (1 : Int32) rfl 61 rfl ?_
      refine own_goto X0 hx (hb hby at_61) 65 (by decide) (by decide) ?_
      refine own_istore X0 hx (hb hby at_65) #[.val (.int x0), .val (.int x1), .val (.int (5 : Int32)), .val (.int (0 : Int32)), .val (.int (1 : Int32)), .val (.int (1 : Int32)), .val (.int (1 : Int32))] rfl 67 rfl ?_
      refine own_iload_n X0 hx (hb hby at_67) rfl 68 rfl ?_
      refine own_pureS X0 hx hZ hown (own_w hw 1 rfl) (own_w hw 2 rfl) (own_w hw 3 rfl) (own_w hw 4 rfl) (by decide) [(.int (5 : Int32))] [] 0 (rm_role_48 l Z a0 hw []  h0 n0 H) (by decide) (by decide) rfl rfl e0 (by rw [hml]; rfl) (lenOf pd_0 rfl) (Nat.le_of_eq rfl) (hb hby at_68) 71 rfl rfl (by decide) (by decide) fun T189 X189 e189 => ?_
      refine own_iload_n X189 hx (hb hby at_71) rfl 72 rfl ?_
      refine own_pureS X189 hx hZ hown (own_w hw 8 rfl) (own_w hw 9 rfl) (own_w hw 3 rfl) (own_w hw 10 rfl) (by decide) [(.int (0 : Int32))] [(.ref w_Role_VIRTUAL_LOAD)] 1 (rm_quantity_2 l Z a0 hw []  h0 n0 H) (by decide) (by decide) rfl rfl e189 (by rw [hml]; rfl) (lenOf pd_1 rfl) (Nat.le_of_eq rfl) (hb hby at_72) 75 rfl rfl (by decide) (by decide) fun T191 X191 e191 => ?_
      refine own_pureV X191 hx hZ hown (own_w hw 14 rfl) (own_w hw 15 rfl) (notFace_of_selects (args := #[]) (mvT hZ (own_w hw 17 rfl))) (own_w hw 17 rfl) (own_w hw 16 rfl) (own_w hw 6 rfl) (own_w hw 18 rfl) (by decide) w_Role_VIRTUAL_LOAD [(.ref w_Quantity_DA)] [] 0 (rm_spansHour_49 l Z a0 hw []  h0 n0 H) (by decide) (by decide) rfl rfl e191 E_w_Role_VIRTUAL_LOAD (by rw [hml]; rfl) (lenOf pd_3 rfl) (Nat.le_of_eq rfl) (hb hby at_75) 78 rfl rfl (by decide) (by decide) fun T193 X193 e193 => ?_
      refine own_iload X193 hx (hb hby at_78) rfl 80 rfl ?_
      refine own_icmpN X193 hx (hb hby at_80) (teq (by decide : (1 : Int32) = (1 : Int32))).2 83 rfl ?_
      refine own_iconst X193 hx (hb hby at_83) (1 : Int32) rfl 84 rfl ?_
      refine own_goto X193 hx (hb hby at_84) 88 (by decide) (by decide) ?_
      exact own_retZ X193 hx hk hret (hb hby at_88) rfl ⟨rfl, Fr.nil _⟩ (by decide) (by decide)
    · rw [q187]
      refine own_istore_n X0 hx (hb hby at_15) #[.val (.int x0), .val (.int x1), .val (.int (5 : Int32)), .val (.int (1 : Int32)), .unset, .unset, .unset] rfl 16 rfl ?_
      refine own_iload_n X0 hx (hb hby at_16) rfl 17 rfl ?_
      refine own_ifN X0 hx (hb hby at_17) ((if0 _ _).trans (feq (by decide : ¬ ((1 : Int32) = (0 : Int32)))).1) 20 rfl ?_
      refine own_iload_n X0 hx (hb hby at_20) rfl 21 rfl ?_
      refine own_iconst X0 hx (hb hby at_21) (5 : Int32) rfl 22 rfl ?_
      refine own_icmpY X0 hx (hb hby at_22) (feq (by decide : ¬ ((1 : Int32) = (5 : Int32)))).2 29 (by decide) (by decide) ?_
      refine own_iconst X0 hx (hb hby at_29) (0 : Int32) rfl 30 rfl ?_
      refine own_istore X0 hx (hb hby at_30) #[.val (.int x0), .val (.int x1), .val (.int (5 : Int32)), .val (.int (1 : Int32)), .val (.int (0 : Int32)), .unset, .unset] rfl 32 rfl ?_
      refine own_iload_n X0 hx (hb hby at_32) rfl 33 rfl ?_
      refine own_iconst X0 hx (hb hby at_33) (4 : Int32) rfl 34 rfl ?_
      refine own_icmpN X0 hx (hb hby at_34) (flt (by decide : ¬ ((5 : Int32) < (4 : Int32)))).1 37 rfl ?_
      refine own_iload_n X0 hx (hb hby at_37) rfl 38 rfl ?_
      refine own_bipush X0 hx (hb hby at_38) (7 : Int32) rfl 40 rfl ?_
      refine own_icmpN X0 hx (hb hby at_40) (flt (by decide : ¬ ((7 : Int32) < (5 : Int32)))).2.2.1 43 rfl ?_
      refine own_iconst X0 hx (hb hby at_43) (1 : Int32) rfl 44 rfl ?_
      refine own_goto X0 hx (hb hby at_44) 48 (by decide) (by decide) ?_
      refine own_istore X0 hx (hb hby at_48) #[.val (.int x0), .val (.int x1), .val (.int (5 : Int32)), .val (.int (1 : Int32)), .val (.int (0 : Int32)), .val (.int (1 : Int32)), .unset] rfl 50 rfl ?_
      refine own_iload X0 hx (hb hby at_50) rfl 52 rfl ?_
      refine own_ifN X0 hx (hb hby at_52) ((if0 _ _).trans (teq (by decide : (0 : Int32) = (0 : Int32))).2) 55 rfl ?_
      refine own_iload X0 hx (hb hby at_55) rfl 57 rfl ?_
      refine own_ifN X0 hx (hb hby at_57) ((if0 _ _).trans (feq (by decide : ¬ ((1 : Int32) = (0 : Int32)))).1) 60 rfl ?_
      refine own_iconst X0 hx (hb hby at_60) (1 : Int32) rfl 61 rfl ?_
      refine own_goto X0 hx (hb hby at_61) 65 (by decide) (by decide) ?_
      refine own_istore X0 hx (hb hby at_65) #[.val (.int x0), .val (.int x1), .val (.int (5 : Int32)), .val (.int (1 : Int32)), .val (.int (0 : Int32)), .val (.int (1 : Int32)), .val (.int (1 : Int32))] rfl 67 rfl ?_
      refine own_iload_n X0 hx (hb hby at_67) rfl 68 rfl ?_
      refine own_pureS X0 hx hZ hown (own_w hw 1 rfl) (own_w hw 2 rfl) (own_w hw 3 rfl) (own_w hw 4 rfl) (by decide) [(.int (5 : Int32))] [] 0 (rm_role_48 l Z a0 hw []  h0 n0 H) (by decide) (by decide) rfl rfl e0 (by rw [hml]; rfl) (lenOf pd_0 rfl) (Nat.le_of_eq rfl) (hb hby at_68) 71 rfl rfl (by decide) (by decide) fun T195 X195 e195 => ?_
      refine own_iload_n X195 hx (hb hby at_71) rfl 72 rfl ?_
      refine own_pureS X195 hx hZ hown (own_w hw 8 rfl) (own_w hw 9 rfl) (own_w hw 3 rfl) (own_w hw 10 rfl) (by decide) [(.int (1 : Int32))] [(.ref w_Role_VIRTUAL_LOAD)] 1 (rm_quantity_5 l Z a0 hw []  h0 n0 H) (by decide) (by decide) rfl rfl e195 (by rw [hml]; rfl) (lenOf pd_1 rfl) (Nat.le_of_eq rfl) (hb hby at_72) 75 rfl rfl (by decide) (by decide) fun T197 X197 e197 => ?_
      refine own_pureV X197 hx hZ hown (own_w hw 14 rfl) (own_w hw 15 rfl) (notFace_of_selects (args := #[]) (mvT hZ (own_w hw 17 rfl))) (own_w hw 17 rfl) (own_w hw 16 rfl) (own_w hw 6 rfl) (own_w hw 18 rfl) (by decide) w_Role_VIRTUAL_LOAD [(.ref w_Quantity_RT)] [] 0 (rm_spansHour_50 l Z a0 hw []  h0 n0 H) (by decide) (by decide) rfl rfl e197 E_w_Role_VIRTUAL_LOAD (by rw [hml]; rfl) (lenOf pd_3 rfl) (Nat.le_of_eq rfl) (hb hby at_75) 78 rfl rfl (by decide) (by decide) fun T199 X199 e199 => ?_
      refine own_iload X199 hx (hb hby at_78) rfl 80 rfl ?_
      refine own_icmpN X199 hx (hb hby at_80) (teq (by decide : (1 : Int32) = (1 : Int32))).2 83 rfl ?_
      refine own_iconst X199 hx (hb hby at_83) (1 : Int32) rfl 84 rfl ?_
      refine own_goto X199 hx (hb hby at_84) 88 (by decide) (by decide) ?_
      exact own_retZ X199 hx hk hret (hb hby at_88) rfl ⟨rfl, Fr.nil _⟩ (by decide) (by decide)
    · rw [q187]
      refine own_istore_n X0 hx (hb hby at_15) #[.val (.int x0), .val (.int x1), .val (.int (5 : Int32)), .val (.int (2 : Int32)), .unset, .unset, .unset] rfl 16 rfl ?_
      refine own_iload_n X0 hx (hb hby at_16) rfl 17 rfl ?_
      refine own_ifN X0 hx (hb hby at_17) ((if0 _ _).trans (feq (by decide : ¬ ((2 : Int32) = (0 : Int32)))).1) 20 rfl ?_
      refine own_iload_n X0 hx (hb hby at_20) rfl 21 rfl ?_
      refine own_iconst X0 hx (hb hby at_21) (5 : Int32) rfl 22 rfl ?_
      refine own_icmpY X0 hx (hb hby at_22) (feq (by decide : ¬ ((2 : Int32) = (5 : Int32)))).2 29 (by decide) (by decide) ?_
      refine own_iconst X0 hx (hb hby at_29) (0 : Int32) rfl 30 rfl ?_
      refine own_istore X0 hx (hb hby at_30) #[.val (.int x0), .val (.int x1), .val (.int (5 : Int32)), .val (.int (2 : Int32)), .val (.int (0 : Int32)), .unset, .unset] rfl 32 rfl ?_
      refine own_iload_n X0 hx (hb hby at_32) rfl 33 rfl ?_
      refine own_iconst X0 hx (hb hby at_33) (4 : Int32) rfl 34 rfl ?_
      refine own_icmpN X0 hx (hb hby at_34) (flt (by decide : ¬ ((5 : Int32) < (4 : Int32)))).1 37 rfl ?_
      refine own_iload_n X0 hx (hb hby at_37) rfl 38 rfl ?_
      refine own_bipush X0 hx (hb hby at_38) (7 : Int32) rfl 40 rfl ?_
      refine own_icmpN X0 hx (hb hby at_40) (flt (by decide : ¬ ((7 : Int32) < (5 : Int32)))).2.2.1 43 rfl ?_
      refine own_iconst X0 hx (hb hby at_43) (1 : Int32) rfl 44 rfl ?_
      refine own_goto X0 hx (hb hby at_44) 48 (by decide) (by decide) ?_
      refine own_istore X0 hx (hb hby at_48) #[.val (.int x0), .val (.int x1), .val (.int (5 : Int32)), .val (.int (2 : Int32)), .val (.int (0 : Int32)), .val (.int (1 : Int32)), .unset] rfl 50 rfl ?_
      refine own_iload X0 hx (hb hby at_50) rfl 52 rfl ?_
      refine own_ifN X0 hx (hb hby at_52) ((if0 _ _).trans (teq (by decide : (0 : Int32) = (0 : Int32))).2) 55 rfl ?_
      refine own_iload X0 hx (hb hby at_55) rfl 57 rfl ?_
      refine own_ifN X0 hx (hb hby at_57) ((if0 _ _).trans (feq (by decide : ¬ ((1 : Int32) = (0 : Int32)))).1) 60 rfl ?_
      refine own_iconst X0 hx (hb hby at_60) (1 : Int32) rfl 61 rfl ?_
      refine own_goto X0 hx (hb hby at_61) 65 (by decide) (by decide) ?_
      refine own_istore X0 hx (hb hby at_65) #[.val (.int x0), .val (.int x1), .val (.int (5 : Int32)), .val (.int (2 : Int32)), .val (.int (0 : Int32)), .val (.int (1 : Int32)), .val (.int (1 : Int32))] rfl 67 rfl ?_
      refine own_iload_n X0 hx (hb hby at_67) rfl 68 rfl ?_
      refine own_pureS X0 hx hZ hown (own_w hw 1 rfl) (own_w hw 2 rfl) (own_w hw 3 rfl) (own_w hw 4 rfl) (by decide) [(.int (5 : Int32))] [] 0 (rm_role_48 l Z a0 hw []  h0 n0 H) (by decide) (by decide) rfl rfl e0 (by rw [hml]; rfl) (lenOf pd_0 rfl) (Nat.le_of_eq rfl) (hb hby at_68) 71 rfl rfl (by decide) (by decide) fun T201 X201 e201 => ?_
      refine own_iload_n X201 hx (hb hby at_71) rfl 72 rfl ?_
      refine own_pureS X201 hx hZ hown (own_w hw 8 rfl) (own_w hw 9 rfl) (own_w hw 3 rfl) (own_w hw 10 rfl) (by decide) [(.int (2 : Int32))] [(.ref w_Role_VIRTUAL_LOAD)] 1 (rm_quantity_8 l Z a0 hw []  h0 n0 H) (by decide) (by decide) rfl rfl e201 (by rw [hml]; rfl) (lenOf pd_1 rfl) (Nat.le_of_eq rfl) (hb hby at_72) 75 rfl rfl (by decide) (by decide) fun T203 X203 e203 => ?_
      refine own_pureV X203 hx hZ hown (own_w hw 14 rfl) (own_w hw 15 rfl) (notFace_of_selects (args := #[]) (mvT hZ (own_w hw 17 rfl))) (own_w hw 17 rfl) (own_w hw 16 rfl) (own_w hw 6 rfl) (own_w hw 18 rfl) (by decide) w_Role_VIRTUAL_LOAD [(.ref w_Quantity_ACTUAL)] [] 0 (rm_spansHour_51 l Z a0 hw []  h0 n0 H) (by decide) (by decide) rfl rfl e203 E_w_Role_VIRTUAL_LOAD (by rw [hml]; rfl) (lenOf pd_3 rfl) (Nat.le_of_eq rfl) (hb hby at_75) 78 rfl rfl (by decide) (by decide) fun T205 X205 e205 => ?_
      refine own_iload X205 hx (hb hby at_78) rfl 80 rfl ?_
      refine own_icmpN X205 hx (hb hby at_80) (teq (by decide : (1 : Int32) = (1 : Int32))).2 83 rfl ?_
      refine own_iconst X205 hx (hb hby at_83) (1 : Int32) rfl 84 rfl ?_
      refine own_goto X205 hx (hb hby at_84) 88 (by decide) (by decide) ?_
      exact own_retZ X205 hx hk hret (hb hby at_88) rfl ⟨rfl, Fr.nil _⟩ (by decide) (by decide)
    · rw [q187]
      refine own_istore_n X0 hx (hb hby at_15) #[.val (.int x0), .val (.int x1), .val (.int (5 : Int32)), .val (.int (3 : Int32)), .unset, .unset, .unset] rfl 16 rfl ?_
      refine own_iload_n X0 hx (hb hby at_16) rfl 17 rfl ?_
      refine own_ifN X0 hx (hb hby at_17) ((if0 _ _).trans (feq (by decide : ¬ ((3 : Int32) = (0 : Int32)))).1) 20 rfl ?_
      refine own_iload_n X0 hx (hb hby at_20) rfl 21 rfl ?_
      refine own_iconst X0 hx (hb hby at_21) (5 : Int32) rfl 22 rfl ?_
      refine own_icmpY X0 hx (hb hby at_22) (feq (by decide : ¬ ((3 : Int32) = (5 : Int32)))).2 29 (by decide) (by decide) ?_
      refine own_iconst X0 hx (hb hby at_29) (0 : Int32) rfl 30 rfl ?_
      refine own_istore X0 hx (hb hby at_30) #[.val (.int x0), .val (.int x1), .val (.int (5 : Int32)), .val (.int (3 : Int32)), .val (.int (0 : Int32)), .unset, .unset] rfl 32 rfl ?_
      refine own_iload_n X0 hx (hb hby at_32) rfl 33 rfl ?_
      refine own_iconst X0 hx (hb hby at_33) (4 : Int32) rfl 34 rfl ?_
      refine own_icmpN X0 hx (hb hby at_34) (flt (by decide : ¬ ((5 : Int32) < (4 : Int32)))).1 37 rfl ?_
      refine own_iload_n X0 hx (hb hby at_37) rfl 38 rfl ?_
      refine own_bipush X0 hx (hb hby at_38) (7 : Int32) rfl 40 rfl ?_
      refine own_icmpN X0 hx (hb hby at_40) (flt (by decide : ¬ ((7 : Int32) < (5 : Int32)))).2.2.1 43 rfl ?_
      refine own_iconst X0 hx (hb hby at_43) (1 : Int32) rfl 44 rfl ?_
      refine own_goto X0 hx (hb hby at_44) 48 (by decide) (by decide) ?_
      refine own_istore X0 hx (hb hby at_48) #[.val (.int x0), .val (.int x1), .val (.int (5 : Int32)), .val (.int (3 : Int32)), .val (.int (0 : Int32)), .val (.int (1 : Int32)), .unset] rfl 50 rfl ?_
      refine own_iload X0 hx (hb hby at_50) rfl 52 rfl ?_
      refine own_ifN X0 hx (hb hby at_52) ((if0 _ _).trans (teq (by decide : (0 : Int32) = (0 : Int32))).2) 55 rfl ?_
      refine own_iload X0 hx (hb hby at_55) rfl 57 rfl ?_
      refine own_ifN X0 hx (hb hby at_57) ((if0 _ _).trans (feq (by decide : ¬ ((1 : Int32) = (0 : Int32)))).1) 60 rfl ?_
      refine own_iconst X0 hx (hb hby at_60) (1 : Int32) rfl 61 rfl ?_
      refine own_goto X0 hx (hb hby at_61) 65 (by decide) (by decide) ?_
      refine own_istore X0 hx (hb hby at_65) #[.val (.int x0), .val (.int x1), .val (.int (5 : Int32)), .val (.int (3 : Int32)), .val (.int (0 : Int32)), .val (.int (1 : Int32)), .val (.int (1 : Int32))] rfl 67 rfl ?_
      refine own_iload_n X0 hx (hb hby at_67) rfl 68 rfl ?_
      refine own_pureS X0 hx hZ hown (own_w hw 1 rfl) (own_w hw 2 rfl) (own_w hw 3 rfl) (own_w hw 4 rfl) (by decide) [(.int (5 : Int32))] [] 0 (rm_role_48 l Z a0 hw []  h0 n0 H) (by decide) (by decide) rfl rfl e0 (by rw [hml]; rfl) (lenOf pd_0 rfl) (Nat.le_of_eq rfl) (hb hby at_68) 71 rfl rfl (by decide) (by decide) fun T207 X207 e207 => ?_
      refine own_iload_n X207 hx (hb hby at_71) rfl 72 rfl ?_
      refine own_pureS X207 hx hZ hown (own_w hw 8 rfl) (own_w hw 9 rfl) (own_w hw 3 rfl) (own_w hw 10 rfl) (by decide) [(.int (3 : Int32))] [(.ref w_Role_VIRTUAL_LOAD)] 1 (rm_quantity_11 l Z a0 hw []  h0 n0 H) (by decide) (by decide) rfl rfl e207 (by rw [hml]; rfl) (lenOf pd_1 rfl) (Nat.le_of_eq rfl) (hb hby at_72) 75 rfl rfl (by decide) (by decide) fun T209 X209 e209 => ?_
      refine own_pureV X209 hx hZ hown (own_w hw 14 rfl) (own_w hw 15 rfl) (notFace_of_selects (args := #[]) (mvT hZ (own_w hw 17 rfl))) (own_w hw 17 rfl) (own_w hw 16 rfl) (own_w hw 6 rfl) (own_w hw 18 rfl) (by decide) w_Role_VIRTUAL_LOAD [(.ref w_Quantity_MOVEMENT)] [] 0 (rm_spansHour_52 l Z a0 hw []  h0 n0 H) (by decide) (by decide) rfl rfl e209 E_w_Role_VIRTUAL_LOAD (by rw [hml]; rfl) (lenOf pd_3 rfl) (Nat.le_of_eq rfl) (hb hby at_75) 78 rfl rfl (by decide) (by decide) fun T211 X211 e211 => ?_
      refine own_iload X211 hx (hb hby at_78) rfl 80 rfl ?_
      refine own_icmpN X211 hx (hb hby at_80) (teq (by decide : (1 : Int32) = (1 : Int32))).2 83 rfl ?_
      refine own_iconst X211 hx (hb hby at_83) (1 : Int32) rfl 84 rfl ?_
      refine own_goto X211 hx (hb hby at_84) 88 (by decide) (by decide) ?_
      exact own_retZ X211 hx hk hret (hb hby at_88) rfl ⟨rfl, Fr.nil _⟩ (by decide) (by decide)
    · rw [q187]
      refine own_istore_n X0 hx (hb hby at_15) #[.val (.int x0), .val (.int x1), .val (.int (5 : Int32)), .val (.int (4 : Int32)), .unset, .unset, .unset] rfl 16 rfl ?_
      refine own_iload_n X0 hx (hb hby at_16) rfl 17 rfl ?_
      refine own_ifN X0 hx (hb hby at_17) ((if0 _ _).trans (feq (by decide : ¬ ((4 : Int32) = (0 : Int32)))).1) 20 rfl ?_
      refine own_iload_n X0 hx (hb hby at_20) rfl 21 rfl ?_
      refine own_iconst X0 hx (hb hby at_21) (5 : Int32) rfl 22 rfl ?_
      refine own_icmpY X0 hx (hb hby at_22) (feq (by decide : ¬ ((4 : Int32) = (5 : Int32)))).2 29 (by decide) (by decide) ?_
      refine own_iconst X0 hx (hb hby at_29) (0 : Int32) rfl 30 rfl ?_
      refine own_istore X0 hx (hb hby at_30) #[.val (.int x0), .val (.int x1), .val (.int (5 : Int32)), .val (.int (4 : Int32)), .val (.int (0 : Int32)), .unset, .unset] rfl 32 rfl ?_
      refine own_iload_n X0 hx (hb hby at_32) rfl 33 rfl ?_
      refine own_iconst X0 hx (hb hby at_33) (4 : Int32) rfl 34 rfl ?_
      refine own_icmpN X0 hx (hb hby at_34) (flt (by decide : ¬ ((5 : Int32) < (4 : Int32)))).1 37 rfl ?_
      refine own_iload_n X0 hx (hb hby at_37) rfl 38 rfl ?_
      refine own_bipush X0 hx (hb hby at_38) (7 : Int32) rfl 40 rfl ?_
      refine own_icmpN X0 hx (hb hby at_40) (flt (by decide : ¬ ((7 : Int32) < (5 : Int32)))).2.2.1 43 rfl ?_
      refine own_iconst X0 hx (hb hby at_43) (1 : Int32) rfl 44 rfl ?_
      refine own_goto X0 hx (hb hby at_44) 48 (by decide) (by decide) ?_
      refine own_istore X0 hx (hb hby at_48) #[.val (.int x0), .val (.int x1), .val (.int (5 : Int32)), .val (.int (4 : Int32)), .val (.int (0 : Int32)), .val (.int (1 : Int32)), .unset] rfl 50 rfl ?_
      refine own_iload X0 hx (hb hby at_50) rfl 52 rfl ?_
      refine own_ifN X0 hx (hb hby at_52) ((if0 _ _).trans (teq (by decide : (0 : Int32) = (0 : Int32))).2) 55 rfl ?_
      refine own_iload X0 hx (hb hby at_55) rfl 57 rfl ?_
      refine own_ifN X0 hx (hb hby at_57) ((if0 _ _).trans (feq (by decide : ¬ ((1 : Int32) = (0 : Int32)))).1) 60 rfl ?_
      refine own_iconst X0 hx (hb hby at_60) (1 : Int32) rfl 61 rfl ?_
      refine own_goto X0 hx (hb hby at_61) 65 (by decide) (by decide) ?_
      refine own_istore X0 hx (hb hby at_65) #[.val (.int x0), .val (.int x1), .val (.int (5 : Int32)), .val (.int (4 : Int32)), .val (.int (0 : Int32)), .val (.int (1 : Int32)), .val (.int (1 : Int32))] rfl 67 rfl ?_
      refine own_iload_n X0 hx (hb hby at_67) rfl 68 rfl ?_
      refine own_pureS X0 hx hZ hown (own_w hw 1 rfl) (own_w hw 2 rfl) (own_w hw 3 rfl) (own_w hw 4 rfl) (by decide) [(.int (5 : Int32))] [] 0 (rm_role_48 l Z a0 hw []  h0 n0 H) (by decide) (by decide) rfl rfl e0 (by rw [hml]; rfl) (lenOf pd_0 rfl) (Nat.le_of_eq rfl) (hb hby at_68) 71 rfl rfl (by decide) (by decide) fun T213 X213 e213 => ?_
      refine own_iload_n X213 hx (hb hby at_71) rfl 72 rfl ?_
      refine own_pureS X213 hx hZ hown (own_w hw 8 rfl) (own_w hw 9 rfl) (own_w hw 3 rfl) (own_w hw 10 rfl) (by decide) [(.int (4 : Int32))] [(.ref w_Role_VIRTUAL_LOAD)] 1 (rm_quantity_14 l Z a0 hw []  h0 n0 H) (by decide) (by decide) rfl rfl e213 (by rw [hml]; rfl) (lenOf pd_1 rfl) (Nat.le_of_eq rfl) (hb hby at_72) 75 rfl rfl (by decide) (by decide) fun T215 X215 e215 => ?_
      refine own_pureV X215 hx hZ hown (own_w hw 14 rfl) (own_w hw 15 rfl) (notFace_of_selects (args := #[]) (mvT hZ (own_w hw 17 rfl))) (own_w hw 17 rfl) (own_w hw 16 rfl) (own_w hw 6 rfl) (own_w hw 18 rfl) (by decide) w_Role_VIRTUAL_LOAD [(.ref w_Quantity_PERFORMANCE)] [] 0 (rm_spansHour_53 l Z a0 hw []  h0 n0 H) (by decide) (by decide) rfl rfl e215 E_w_Role_VIRTUAL_LOAD (by rw [hml]; rfl) (lenOf pd_3 rfl) (Nat.le_of_eq rfl) (hb hby at_75) 78 rfl rfl (by decide) (by decide) fun T217 X217 e217 => ?_
      refine own_iload X217 hx (hb hby at_78) rfl 80 rfl ?_
      refine own_icmpN X217 hx (hb hby at_80) (teq (by decide : (1 : Int32) = (1 : Int32))).2 83 rfl ?_
      refine own_iconst X217 hx (hb hby at_83) (1 : Int32) rfl 84 rfl ?_
      refine own_goto X217 hx (hb hby at_84) 88 (by decide) (by decide) ?_
      exact own_retZ X217 hx hk hret (hb hby at_88) rfl ⟨rfl, Fr.nil _⟩ (by decide) (by decide)
    · rw [q187]
      refine own_istore_n X0 hx (hb hby at_15) #[.val (.int x0), .val (.int x1), .val (.int (5 : Int32)), .val (.int (5 : Int32)), .unset, .unset, .unset] rfl 16 rfl ?_
      refine own_iload_n X0 hx (hb hby at_16) rfl 17 rfl ?_
      refine own_ifN X0 hx (hb hby at_17) ((if0 _ _).trans (feq (by decide : ¬ ((5 : Int32) = (0 : Int32)))).1) 20 rfl ?_
      refine own_iload_n X0 hx (hb hby at_20) rfl 21 rfl ?_
      refine own_iconst X0 hx (hb hby at_21) (5 : Int32) rfl 22 rfl ?_
      refine own_icmpN X0 hx (hb hby at_22) (teq (by decide : (5 : Int32) = (5 : Int32))).2 25 rfl ?_
      refine own_iconst X0 hx (hb hby at_25) (1 : Int32) rfl 26 rfl ?_
      refine own_goto X0 hx (hb hby at_26) 30 (by decide) (by decide) ?_
      refine own_istore X0 hx (hb hby at_30) #[.val (.int x0), .val (.int x1), .val (.int (5 : Int32)), .val (.int (5 : Int32)), .val (.int (1 : Int32)), .unset, .unset] rfl 32 rfl ?_
      refine own_iload_n X0 hx (hb hby at_32) rfl 33 rfl ?_
      refine own_iconst X0 hx (hb hby at_33) (4 : Int32) rfl 34 rfl ?_
      refine own_icmpN X0 hx (hb hby at_34) (flt (by decide : ¬ ((5 : Int32) < (4 : Int32)))).1 37 rfl ?_
      refine own_iload_n X0 hx (hb hby at_37) rfl 38 rfl ?_
      refine own_bipush X0 hx (hb hby at_38) (7 : Int32) rfl 40 rfl ?_
      refine own_icmpN X0 hx (hb hby at_40) (flt (by decide : ¬ ((7 : Int32) < (5 : Int32)))).2.2.1 43 rfl ?_
      refine own_iconst X0 hx (hb hby at_43) (1 : Int32) rfl 44 rfl ?_
      refine own_goto X0 hx (hb hby at_44) 48 (by decide) (by decide) ?_
      refine own_istore X0 hx (hb hby at_48) #[.val (.int x0), .val (.int x1), .val (.int (5 : Int32)), .val (.int (5 : Int32)), .val (.int (1 : Int32)), .val (.int (1 : Int32)), .unset] rfl 50 rfl ?_
      refine own_iload X0 hx (hb hby at_50) rfl 52 rfl ?_
      refine own_ifY X0 hx (hb hby at_52) ((if0 _ _).trans (feq (by decide : ¬ ((1 : Int32) = (0 : Int32)))).2) 60 (by decide) (by decide) ?_
      refine own_iconst X0 hx (hb hby at_60) (1 : Int32) rfl 61 rfl ?_
      refine own_goto X0 hx (hb hby at_61) 65 (by decide) (by decide) ?_
      refine own_istore X0 hx (hb hby at_65) #[.val (.int x0), .val (.int x1), .val (.int (5 : Int32)), .val (.int (5 : Int32)), .val (.int (1 : Int32)), .val (.int (1 : Int32)), .val (.int (1 : Int32))] rfl 67 rfl ?_
      refine own_iload_n X0 hx (hb hby at_67) rfl 68 rfl ?_
      refine own_pureS X0 hx hZ hown (own_w hw 1 rfl) (own_w hw 2 rfl) (own_w hw 3 rfl) (own_w hw 4 rfl) (by decide) [(.int (5 : Int32))] [] 0 (rm_role_48 l Z a0 hw []  h0 n0 H) (by decide) (by decide) rfl rfl e0 (by rw [hml]; rfl) (lenOf pd_0 rfl) (Nat.le_of_eq rfl) (hb hby at_68) 71 rfl rfl (by decide) (by decide) fun T219 X219 e219 => ?_
      refine own_iload_n X219 hx (hb hby at_71) rfl 72 rfl ?_
      refine own_pureS X219 hx hZ hown (own_w hw 8 rfl) (own_w hw 9 rfl) (own_w hw 3 rfl) (own_w hw 10 rfl) (by decide) [(.int (5 : Int32))] [(.ref w_Role_VIRTUAL_LOAD)] 1 (rm_quantity_17 l Z a0 hw []  h0 n0 H) (by decide) (by decide) rfl rfl e219 (by rw [hml]; rfl) (lenOf pd_1 rfl) (Nat.le_of_eq rfl) (hb hby at_72) 75 rfl rfl (by decide) (by decide) fun T221 X221 e221 => ?_
      refine own_pureV X221 hx hZ hown (own_w hw 14 rfl) (own_w hw 15 rfl) (notFace_of_selects (args := #[]) (mvT hZ (own_w hw 17 rfl))) (own_w hw 17 rfl) (own_w hw 16 rfl) (own_w hw 6 rfl) (own_w hw 18 rfl) (by decide) w_Role_VIRTUAL_LOAD [(.ref w_Quantity_BID)] [] 0 (rm_spansHour_54 l Z a0 hw []  h0 n0 H) (by decide) (by decide) rfl rfl e221 E_w_Role_VIRTUAL_LOAD (by rw [hml]; rfl) (lenOf pd_3 rfl) (Nat.le_of_eq rfl) (hb hby at_75) 78 rfl rfl (by decide) (by decide) fun T223 X223 e223 => ?_
      refine own_iload X223 hx (hb hby at_78) rfl 80 rfl ?_
      refine own_icmpN X223 hx (hb hby at_80) (teq (by decide : (1 : Int32) = (1 : Int32))).2 83 rfl ?_
      refine own_iconst X223 hx (hb hby at_83) (1 : Int32) rfl 84 rfl ?_
      refine own_goto X223 hx (hb hby at_84) 88 (by decide) (by decide) ?_
      exact own_retZ X223 hx hk hret (hb hby at_88) rfl ⟨rfl, Fr.nil _⟩ (by decide) (by decide)
  · rw [q1]
    refine own_istore_n X0 hx (hb hby at_7) #[.val (.int x0), .val (.int x1), .val (.int (6 : Int32)), .unset, .unset, .unset, .unset] rfl 8 rfl ?_
    refine own_iload_n X0 hx (hb hby at_8) rfl 9 rfl ?_
    refine own_ldc X0 hx hZ hown (own_w hw 0 rfl) (hb hby at_9) 11 rfl ?_
    refine own_iand X0 hx (hb hby at_11) 12 rfl ?_
    refine own_bipush X0 hx (hb hby at_12) (6 : Int32) rfl 14 rfl ?_
    refine own_irem X0 hx (hb hby at_14) (by decide) 15 rfl ?_
    rcases own_mod6 x1 with q224 | q224 | q224 | q224 | q224 | q224
    · rw [q224]
      refine own_istore_n X0 hx (hb hby at_15) #[.val (.int x0), .val (.int x1), .val (.int (6 : Int32)), .val (.int (0 : Int32)), .unset, .unset, .unset] rfl 16 rfl ?_
      refine own_iload_n X0 hx (hb hby at_16) rfl 17 rfl ?_
      refine own_ifY X0 hx (hb hby at_17) ((if0 _ _).trans (teq (by decide : (0 : Int32) = (0 : Int32))).1) 25 (by decide) (by decide) ?_
      refine own_iconst X0 hx (hb hby at_25) (1 : Int32) rfl 26 rfl ?_
      refine own_goto X0 hx (hb hby at_26) 30 (by decide) (by decide) ?_
      refine own_istore X0 hx (hb hby at_30) #[.val (.int x0), .val (.int x1), .val (.int (6 : Int32)), .val (.int (0 : Int32)), .val (.int (1 : Int32)), .unset, .unset] rfl 32 rfl ?_
      refine own_iload_n X0 hx (hb hby at_32) rfl 33 rfl ?_
      refine own_iconst X0 hx (hb hby at_33) (4 : Int32) rfl 34 rfl ?_
      refine own_icmpN X0 hx (hb hby at_34) (flt (by decide : ¬ ((6 : Int32) < (4 : Int32)))).1 37 rfl ?_
      refine own_iload_n X0 hx (hb hby at_37) rfl 38 rfl ?_
      refine own_bipush X0 hx (hb hby at_38) (7 : Int32) rfl 40 rfl ?_
      refine own_icmpN X0 hx (hb hby at_40) (flt (by decide : ¬ ((7 : Int32) < (6 : Int32)))).2.2.1 43 rfl ?_
      refine own_iconst X0 hx (hb hby at_43) (1 : Int32) rfl 44 rfl ?_
      refine own_goto X0 hx (hb hby at_44) 48 (by decide) (by decide) ?_
      refine own_istore X0 hx (hb hby at_48) #[.val (.int x0), .val (.int x1), .val (.int (6 : Int32)), .val (.int (0 : Int32)), .val (.int (1 : Int32)), .val (.int (1 : Int32)), .unset] rfl 50 rfl ?_
      refine own_iload X0 hx (hb hby at_50) rfl 52 rfl ?_
      refine own_ifY X0 hx (hb hby at_52) ((if0 _ _).trans (feq (by decide : ¬ ((1 : Int32) = (0 : Int32)))).2) 60 (by decide) (by decide) ?_
      refine own_iconst X0 hx (hb hby at_60) (1 : Int32) rfl 61 rfl ?_
      refine own_goto X0 hx (hb hby at_61) 65 (by decide) (by decide) ?_
      refine own_istore X0 hx (hb hby at_65) #[.val (.int x0), .val (.int x1), .val (.int (6 : Int32)), .val (.int (0 : Int32)), .val (.int (1 : Int32)), .val (.int (1 : Int32)), .val (.int (1 : Int32))] rfl 67 rfl ?_
      refine own_iload_n X0 hx (hb hby at_67) rfl 68 rfl ?_
      refine own_pureS X0 hx hZ hown (own_w hw 1 rfl) (own_w hw 2 rfl) (own_w hw 3 rfl) (own_w hw 4 rfl) (by decide) [(.int (6 : Int32))] [] 0 (rm_role_55 l Z a0 hw []  h0 n0 H) (by decide) (by decide) rfl rfl e0 (by rw [hml]; rfl) (lenOf pd_0 rfl) (Nat.le_of_eq rfl) (hb hby at_68) 71 rfl rfl (by decide) (by decide) fun T226 X226 e226 => ?_
      refine own_iload_n X226 hx (hb hby at_71) rfl 72 rfl ?_
      refine own_pureS X226 hx hZ hown (own_w hw 8 rfl) (own_w hw 9 rfl) (own_w hw 3 rfl) (own_w hw 10 rfl) (by decide) [(.int (0 : Int32))] [(.ref w_Role_HUB_POI)] 1 (rm_quantity_2 l Z a0 hw []  h0 n0 H) (by decide) (by decide) rfl rfl e226 (by rw [hml]; rfl) (lenOf pd_1 rfl) (Nat.le_of_eq rfl) (hb hby at_72) 75 rfl rfl (by decide) (by decide) fun T228 X228 e228 => ?_
      refine own_pureV X228 hx hZ hown (own_w hw 14 rfl) (own_w hw 15 rfl) (notFace_of_selects (args := #[]) (mvT hZ (own_w hw 17 rfl))) (own_w hw 17 rfl) (own_w hw 16 rfl) (own_w hw 6 rfl) (own_w hw 18 rfl) (by decide) w_Role_HUB_POI [(.ref w_Quantity_DA)] [] 0 (rm_spansHour_56 l Z a0 hw []  h0 n0 H) (by decide) (by decide) rfl rfl e228 E_w_Role_HUB_POI (by rw [hml]; rfl) (lenOf pd_3 rfl) (Nat.le_of_eq rfl) (hb hby at_75) 78 rfl rfl (by decide) (by decide) fun T230 X230 e230 => ?_
      refine own_iload X230 hx (hb hby at_78) rfl 80 rfl ?_
      refine own_icmpN X230 hx (hb hby at_80) (teq (by decide : (1 : Int32) = (1 : Int32))).2 83 rfl ?_
      refine own_iconst X230 hx (hb hby at_83) (1 : Int32) rfl 84 rfl ?_
      refine own_goto X230 hx (hb hby at_84) 88 (by decide) (by decide) ?_
      exact own_retZ X230 hx hk hret (hb hby at_88) rfl ⟨rfl, Fr.nil _⟩ (by decide) (by decide)
    · rw [q224]
      refine own_istore_n X0 hx (hb hby at_15) #[.val (.int x0), .val (.int x1), .val (.int (6 : Int32)), .val (.int (1 : Int32)), .unset, .unset, .unset] rfl 16 rfl ?_
      refine own_iload_n X0 hx (hb hby at_16) rfl 17 rfl ?_
      refine own_ifN X0 hx (hb hby at_17) ((if0 _ _).trans (feq (by decide : ¬ ((1 : Int32) = (0 : Int32)))).1) 20 rfl ?_
      refine own_iload_n X0 hx (hb hby at_20) rfl 21 rfl ?_
      refine own_iconst X0 hx (hb hby at_21) (5 : Int32) rfl 22 rfl ?_
      refine own_icmpY X0 hx (hb hby at_22) (feq (by decide : ¬ ((1 : Int32) = (5 : Int32)))).2 29 (by decide) (by decide) ?_
      refine own_iconst X0 hx (hb hby at_29) (0 : Int32) rfl 30 rfl ?_
      refine own_istore X0 hx (hb hby at_30) #[.val (.int x0), .val (.int x1), .val (.int (6 : Int32)), .val (.int (1 : Int32)), .val (.int (0 : Int32)), .unset, .unset] rfl 32 rfl ?_
      refine own_iload_n X0 hx (hb hby at_32) rfl 33 rfl ?_
      refine own_iconst X0 hx (hb hby at_33) (4 : Int32) rfl 34 rfl ?_
      refine own_icmpN X0 hx (hb hby at_34) (flt (by decide : ¬ ((6 : Int32) < (4 : Int32)))).1 37 rfl ?_
      refine own_iload_n X0 hx (hb hby at_37) rfl 38 rfl ?_
      refine own_bipush X0 hx (hb hby at_38) (7 : Int32) rfl 40 rfl ?_
      refine own_icmpN X0 hx (hb hby at_40) (flt (by decide : ¬ ((7 : Int32) < (6 : Int32)))).2.2.1 43 rfl ?_
      refine own_iconst X0 hx (hb hby at_43) (1 : Int32) rfl 44 rfl ?_
      refine own_goto X0 hx (hb hby at_44) 48 (by decide) (by decide) ?_
      refine own_istore X0 hx (hb hby at_48) #[.val (.int x0), .val (.int x1), .val (.int (6 : Int32)), .val (.int (1 : Int32)), .val (.int (0 : Int32)), .val (.int (1 : Int32)), .unset] rfl 50 rfl ?_
      refine own_iload X0 hx (hb hby at_50) rfl 52 rfl ?_
      refine own_ifN X0 hx (hb hby at_52) ((if0 _ _).trans (teq (by decide : (0 : Int32) = (0 : Int32))).2) 55 rfl ?_
      refine own_iload X0 hx (hb hby at_55) rfl 57 rfl ?_
      refine own_ifN X0 hx (hb hby at_57) ((if0 _ _).trans (feq (by decide : ¬ ((1 : Int32) = (0 : Int32)))).1) 60 rfl ?_
      refine own_iconst X0 hx (hb hby at_60) (1 : Int32) rfl 61 rfl ?_
      refine own_goto X0 hx (hb hby at_61) 65 (by decide) (by decide) ?_
      refine own_istore X0 hx (hb hby at_65) #[.val (.int x0), .val (.int x1), .val (.int (6 : Int32)), .val (.int (1 : Int32)), .val (.int (0 : Int32)), .val (.int (1 : Int32)), .val (.int (1 : Int32))] rfl 67 rfl ?_
      refine own_iload_n X0 hx (hb hby at_67) rfl 68 rfl ?_
      refine own_pureS X0 hx hZ hown (own_w hw 1 rfl) (own_w hw 2 rfl) (own_w hw 3 rfl) (own_w hw 4 rfl) (by decide) [(.int (6 : Int32))] [] 0 (rm_role_55 l Z a0 hw []  h0 n0 H) (by decide) (by decide) rfl rfl e0 (by rw [hml]; rfl) (lenOf pd_0 rfl) (Nat.le_of_eq rfl) (hb hby at_68) 71 rfl rfl (by decide) (by decide) fun T232 X232 e232 => ?_
      refine own_iload_n X232 hx (hb hby at_71) rfl 72 rfl ?_
      refine own_pureS X232 hx hZ hown (own_w hw 8 rfl) (own_w hw 9 rfl) (own_w hw 3 rfl) (own_w hw 10 rfl) (by decide) [(.int (1 : Int32))] [(.ref w_Role_HUB_POI)] 1 (rm_quantity_5 l Z a0 hw []  h0 n0 H) (by decide) (by decide) rfl rfl e232 (by rw [hml]; rfl) (lenOf pd_1 rfl) (Nat.le_of_eq rfl) (hb hby at_72) 75 rfl rfl (by decide) (by decide) fun T234 X234 e234 => ?_
      refine own_pureV X234 hx hZ hown (own_w hw 14 rfl) (own_w hw 15 rfl) (notFace_of_selects (args := #[]) (mvT hZ (own_w hw 17 rfl))) (own_w hw 17 rfl) (own_w hw 16 rfl) (own_w hw 6 rfl) (own_w hw 18 rfl) (by decide) w_Role_HUB_POI [(.ref w_Quantity_RT)] [] 0 (rm_spansHour_57 l Z a0 hw []  h0 n0 H) (by decide) (by decide) rfl rfl e234 E_w_Role_HUB_POI (by rw [hml]; rfl) (lenOf pd_3 rfl) (Nat.le_of_eq rfl) (hb hby at_75) 78 rfl rfl (by decide) (by decide) fun T236 X236 e236 => ?_
      refine own_iload X236 hx (hb hby at_78) rfl 80 rfl ?_
      refine own_icmpN X236 hx (hb hby at_80) (teq (by decide : (1 : Int32) = (1 : Int32))).2 83 rfl ?_
      refine own_iconst X236 hx (hb hby at_83) (1 : Int32) rfl 84 rfl ?_
      refine own_goto X236 hx (hb hby at_84) 88 (by decide) (by decide) ?_
      exact own_retZ X236 hx hk hret (hb hby at_88) rfl ⟨rfl, Fr.nil _⟩ (by decide) (by decide)
    · rw [q224]
      refine own_istore_n X0 hx (hb hby at_15) #[.val (.int x0), .val (.int x1), .val (.int (6 : Int32)), .val (.int (2 : Int32)), .unset, .unset, .unset] rfl 16 rfl ?_
      refine own_iload_n X0 hx (hb hby at_16) rfl 17 rfl ?_
      refine own_ifN X0 hx (hb hby at_17) ((if0 _ _).trans (feq (by decide : ¬ ((2 : Int32) = (0 : Int32)))).1) 20 rfl ?_
      refine own_iload_n X0 hx (hb hby at_20) rfl 21 rfl ?_
      refine own_iconst X0 hx (hb hby at_21) (5 : Int32) rfl 22 rfl ?_
      refine own_icmpY X0 hx (hb hby at_22) (feq (by decide : ¬ ((2 : Int32) = (5 : Int32)))).2 29 (by decide) (by decide) ?_
      refine own_iconst X0 hx (hb hby at_29) (0 : Int32) rfl 30 rfl ?_
      refine own_istore X0 hx (hb hby at_30) #[.val (.int x0), .val (.int x1), .val (.int (6 : Int32)), .val (.int (2 : Int32)), .val (.int (0 : Int32)), .unset, .unset] rfl 32 rfl ?_
      refine own_iload_n X0 hx (hb hby at_32) rfl 33 rfl ?_
      refine own_iconst X0 hx (hb hby at_33) (4 : Int32) rfl 34 rfl ?_
      refine own_icmpN X0 hx (hb hby at_34) (flt (by decide : ¬ ((6 : Int32) < (4 : Int32)))).1 37 rfl ?_
      refine own_iload_n X0 hx (hb hby at_37) rfl 38 rfl ?_
      refine own_bipush X0 hx (hb hby at_38) (7 : Int32) rfl 40 rfl ?_
      refine own_icmpN X0 hx (hb hby at_40) (flt (by decide : ¬ ((7 : Int32) < (6 : Int32)))).2.2.1 43 rfl ?_
      refine own_iconst X0 hx (hb hby at_43) (1 : Int32) rfl 44 rfl ?_
      refine own_goto X0 hx (hb hby at_44) 48 (by decide) (by decide) ?_
      refine own_istore X0 hx (hb hby at_48) #[.val (.int x0), .val (.int x1), .val (.int (6 : Int32)), .val (.int (2 : Int32)), .val (.int (0 : Int32)), .val (.int (1 : Int32)), .unset] rfl 50 rfl ?_
      refine own_iload X0 hx (hb hby at_50) rfl 52 rfl ?_
      refine own_ifN X0 hx (hb hby at_52) ((if0 _ _).trans (teq (by decide : (0 : Int32) = (0 : Int32))).2) 55 rfl ?_
      refine own_iload X0 hx (hb hby at_55) rfl 57 rfl ?_
      refine own_ifN X0 hx (hb hby at_57) ((if0 _ _).trans (feq (by decide : ¬ ((1 : Int32) = (0 : Int32)))).1) 60 rfl ?_
      refine own_iconst X0 hx (hb hby at_60) (1 : Int32) rfl 61 rfl ?_
      refine own_goto X0 hx (hb hby at_61) 65 (by decide) (by decide) ?_
      refine own_istore X0 hx (hb hby at_65) #[.val (.int x0), .val (.int x1), .val (.int (6 : Int32)), .val (.int (2 : Int32)), .val (.int (0 : Int32)), .val (.int (1 : Int32)), .val (.int (1 : Int32))] rfl 67 rfl ?_
      refine own_iload_n X0 hx (hb hby at_67) rfl 68 rfl ?_
      refine own_pureS X0 hx hZ hown (own_w hw 1 rfl) (own_w hw 2 rfl) (own_w hw 3 rfl) (own_w hw 4 rfl) (by decide) [(.int (6 : Int32))] [] 0 (rm_role_55 l Z a0 hw []  h0 n0 H) (by decide) (by decide) rfl rfl e0 (by rw [hml]; rfl) (lenOf pd_0 rfl) (Nat.le_of_eq rfl) (hb hby at_68) 71 rfl rfl (by decide) (by decide) fun T238 X238 e238 => ?_
      refine own_iload_n X238 hx (hb hby at_71) rfl 72 rfl ?_
      refine own_pureS X238 hx hZ hown (own_w hw 8 rfl) (own_w hw 9 rfl) (own_w hw 3 rfl) (own_w hw 10 rfl) (by decide) [(.int (2 : Int32))] [(.ref w_Role_HUB_POI)] 1 (rm_quantity_8 l Z a0 hw []  h0 n0 H) (by decide) (by decide) rfl rfl e238 (by rw [hml]; rfl) (lenOf pd_1 rfl) (Nat.le_of_eq rfl) (hb hby at_72) 75 rfl rfl (by decide) (by decide) fun T240 X240 e240 => ?_
      refine own_pureV X240 hx hZ hown (own_w hw 14 rfl) (own_w hw 15 rfl) (notFace_of_selects (args := #[]) (mvT hZ (own_w hw 17 rfl))) (own_w hw 17 rfl) (own_w hw 16 rfl) (own_w hw 6 rfl) (own_w hw 18 rfl) (by decide) w_Role_HUB_POI [(.ref w_Quantity_ACTUAL)] [] 0 (rm_spansHour_58 l Z a0 hw []  h0 n0 H) (by decide) (by decide) rfl rfl e240 E_w_Role_HUB_POI (by rw [hml]; rfl) (lenOf pd_3 rfl) (Nat.le_of_eq rfl) (hb hby at_75) 78 rfl rfl (by decide) (by decide) fun T242 X242 e242 => ?_
      refine own_iload X242 hx (hb hby at_78) rfl 80 rfl ?_
      refine own_icmpN X242 hx (hb hby at_80) (teq (by decide : (1 : Int32) = (1 : Int32))).2 83 rfl ?_
      refine own_iconst X242 hx (hb hby at_83) (1 : Int32) rfl 84 rfl ?_
      refine own_goto X242 hx (hb hby at_84) 88 (by decide) (by decide) ?_
      exact own_retZ X242 hx hk hret (hb hby at_88) rfl ⟨rfl, Fr.nil _⟩ (by decide) (by decide)
    · rw [q224]
      refine own_istore_n X0 hx (hb hby at_15) #[.val (.int x0), .val (.int x1), .val (.int (6 : Int32)), .val (.int (3 : Int32)), .unset, .unset, .unset] rfl 16 rfl ?_
      refine own_iload_n X0 hx (hb hby at_16) rfl 17 rfl ?_
      refine own_ifN X0 hx (hb hby at_17) ((if0 _ _).trans (feq (by decide : ¬ ((3 : Int32) = (0 : Int32)))).1) 20 rfl ?_
      refine own_iload_n X0 hx (hb hby at_20) rfl 21 rfl ?_
      refine own_iconst X0 hx (hb hby at_21) (5 : Int32) rfl 22 rfl ?_
      refine own_icmpY X0 hx (hb hby at_22) (feq (by decide : ¬ ((3 : Int32) = (5 : Int32)))).2 29 (by decide) (by decide) ?_
      refine own_iconst X0 hx (hb hby at_29) (0 : Int32) rfl 30 rfl ?_
      refine own_istore X0 hx (hb hby at_30) #[.val (.int x0), .val (.int x1), .val (.int (6 : Int32)), .val (.int (3 : Int32)), .val (.int (0 : Int32)), .unset, .unset] rfl 32 rfl ?_
      refine own_iload_n X0 hx (hb hby at_32) rfl 33 rfl ?_
      refine own_iconst X0 hx (hb hby at_33) (4 : Int32) rfl 34 rfl ?_
      refine own_icmpN X0 hx (hb hby at_34) (flt (by decide : ¬ ((6 : Int32) < (4 : Int32)))).1 37 rfl ?_
      refine own_iload_n X0 hx (hb hby at_37) rfl 38 rfl ?_
      refine own_bipush X0 hx (hb hby at_38) (7 : Int32) rfl 40 rfl ?_
      refine own_icmpN X0 hx (hb hby at_40) (flt (by decide : ¬ ((7 : Int32) < (6 : Int32)))).2.2.1 43 rfl ?_
      refine own_iconst X0 hx (hb hby at_43) (1 : Int32) rfl 44 rfl ?_
      refine own_goto X0 hx (hb hby at_44) 48 (by decide) (by decide) ?_
      refine own_istore X0 hx (hb hby at_48) #[.val (.int x0), .val (.int x1), .val (.int (6 : Int32)), .val (.int (3 : Int32)), .val (.int (0 : Int32)), .val (.int (1 : Int32)), .unset] rfl 50 rfl ?_
      refine own_iload X0 hx (hb hby at_50) rfl 52 rfl ?_
      refine own_ifN X0 hx (hb hby at_52) ((if0 _ _).trans (teq (by decide : (0 : Int32) = (0 : Int32))).2) 55 rfl ?_
      refine own_iload X0 hx (hb hby at_55) rfl 57 rfl ?_
      refine own_ifN X0 hx (hb hby at_57) ((if0 _ _).trans (feq (by decide : ¬ ((1 : Int32) = (0 : Int32)))).1) 60 rfl ?_
      refine own_iconst X0 hx (hb hby at_60) (1 : Int32) rfl 61 rfl ?_
      refine own_goto X0 hx (hb hby at_61) 65 (by decide) (by decide) ?_
      refine own_istore X0 hx (hb hby at_65) #[.val (.int x0), .val (.int x1), .val (.int (6 : Int32)), .val (.int (3 : Int32)), .val (.int (0 : Int32)), .val (.int (1 : Int32)), .val (.int (1 : Int32))] rfl 67 rfl ?_
      refine own_iload_n X0 hx (hb hby at_67) rfl 68 rfl ?_
      refine own_pureS X0 hx hZ hown (own_w hw 1 rfl) (own_w hw 2 rfl) (own_w hw 3 rfl) (own_w hw 4 rfl) (by decide) [(.int (6 : Int32))] [] 0 (rm_role_55 l Z a0 hw []  h0 n0 H) (by decide) (by decide) rfl rfl e0 (by rw [hml]; rfl) (lenOf pd_0 rfl) (Nat.le_of_eq rfl) (hb hby at_68) 71 rfl rfl (by decide) (by decide) fun T244 X244 e244 => ?_
      refine own_iload_n X244 hx (hb hby at_71) rfl 72 rfl ?_
      refine own_pureS X244 hx hZ hown (own_w hw 8 rfl) (own_w hw 9 rfl) (own_w hw 3 rfl) (own_w hw 10 rfl) (by decide) [(.int (3 : Int32))] [(.ref w_Role_HUB_POI)] 1 (rm_quantity_11 l Z a0 hw []  h0 n0 H) (by decide) (by decide) rfl rfl e244 (by rw [hml]; rfl) (lenOf pd_1 rfl) (Nat.le_of_eq rfl) (hb hby at_72) 75 rfl rfl (by decide) (by decide) fun T246 X246 e246 => ?_
      refine own_pureV X246 hx hZ hown (own_w hw 14 rfl) (own_w hw 15 rfl) (notFace_of_selects (args := #[]) (mvT hZ (own_w hw 17 rfl))) (own_w hw 17 rfl) (own_w hw 16 rfl) (own_w hw 6 rfl) (own_w hw 18 rfl) (by decide) w_Role_HUB_POI [(.ref w_Quantity_MOVEMENT)] [] 0 (rm_spansHour_59 l Z a0 hw []  h0 n0 H) (by decide) (by decide) rfl rfl e246 E_w_Role_HUB_POI (by rw [hml]; rfl) (lenOf pd_3 rfl) (Nat.le_of_eq rfl) (hb hby at_75) 78 rfl rfl (by decide) (by decide) fun T248 X248 e248 => ?_
      refine own_iload X248 hx (hb hby at_78) rfl 80 rfl ?_
      refine own_icmpN X248 hx (hb hby at_80) (teq (by decide : (1 : Int32) = (1 : Int32))).2 83 rfl ?_
      refine own_iconst X248 hx (hb hby at_83) (1 : Int32) rfl 84 rfl ?_
      refine own_goto X248 hx (hb hby at_84) 88 (by decide) (by decide) ?_
      exact own_retZ X248 hx hk hret (hb hby at_88) rfl ⟨rfl, Fr.nil _⟩ (by decide) (by decide)
    · rw [q224]
      refine own_istore_n X0 hx (hb hby at_15) #[.val (.int x0), .val (.int x1), .val (.int (6 : Int32)), .val (.int (4 : Int32)), .unset, .unset, .unset] rfl 16 rfl ?_
      refine own_iload_n X0 hx (hb hby at_16) rfl 17 rfl ?_
      refine own_ifN X0 hx (hb hby at_17) ((if0 _ _).trans (feq (by decide : ¬ ((4 : Int32) = (0 : Int32)))).1) 20 rfl ?_
      refine own_iload_n X0 hx (hb hby at_20) rfl 21 rfl ?_
      refine own_iconst X0 hx (hb hby at_21) (5 : Int32) rfl 22 rfl ?_
      refine own_icmpY X0 hx (hb hby at_22) (feq (by decide : ¬ ((4 : Int32) = (5 : Int32)))).2 29 (by decide) (by decide) ?_
      refine own_iconst X0 hx (hb hby at_29) (0 : Int32) rfl 30 rfl ?_
      refine own_istore X0 hx (hb hby at_30) #[.val (.int x0), .val (.int x1), .val (.int (6 : Int32)), .val (.int (4 : Int32)), .val (.int (0 : Int32)), .unset, .unset] rfl 32 rfl ?_
      refine own_iload_n X0 hx (hb hby at_32) rfl 33 rfl ?_
      refine own_iconst X0 hx (hb hby at_33) (4 : Int32) rfl 34 rfl ?_
      refine own_icmpN X0 hx (hb hby at_34) (flt (by decide : ¬ ((6 : Int32) < (4 : Int32)))).1 37 rfl ?_
      refine own_iload_n X0 hx (hb hby at_37) rfl 38 rfl ?_
      refine own_bipush X0 hx (hb hby at_38) (7 : Int32) rfl 40 rfl ?_
      refine own_icmpN X0 hx (hb hby at_40) (flt (by decide : ¬ ((7 : Int32) < (6 : Int32)))).2.2.1 43 rfl ?_
      refine own_iconst X0 hx (hb hby at_43) (1 : Int32) rfl 44 rfl ?_
      refine own_goto X0 hx (hb hby at_44) 48 (by decide) (by decide) ?_
      refine own_istore X0 hx (hb hby at_48) #[.val (.int x0), .val (.int x1), .val (.int (6 : Int32)), .val (.int (4 : Int32)), .val (.int (0 : Int32)), .val (.int (1 : Int32)), .unset] rfl 50 rfl ?_
      refine own_iload X0 hx (hb hby at_50) rfl 52 rfl ?_
      refine own_ifN X0 hx (hb hby at_52) ((if0 _ _).trans (teq (by decide : (0 : Int32) = (0 : Int32))).2) 55 rfl ?_
      refine own_iload X0 hx (hb hby at_55) rfl 57 rfl ?_
      refine own_ifN X0 hx (hb hby at_57) ((if0 _ _).trans (feq (by decide : ¬ ((1 : Int32) = (0 : Int32)))).1) 60 rfl ?_
      refine own_iconst X0 hx (hb hby at_60) (1 : Int32) rfl 61 rfl ?_
      refine own_goto X0 hx (hb hby at_61) 65 (by decide) (by decide) ?_
      refine own_istore X0 hx (hb hby at_65) #[.val (.int x0), .val (.int x1), .val (.int (6 : Int32)), .val (.int (4 : Int32)), .val (.int (0 : Int32)), .val (.int (1 : Int32)), .val (.int (1 : Int32))] rfl 67 rfl ?_
      refine own_iload_n X0 hx (hb hby at_67) rfl 68 rfl ?_
      refine own_pureS X0 hx hZ hown (own_w hw 1 rfl) (own_w hw 2 rfl) (own_w hw 3 rfl) (own_w hw 4 rfl) (by decide) [(.int (6 : Int32))] [] 0 (rm_role_55 l Z a0 hw []  h0 n0 H) (by decide) (by decide) rfl rfl e0 (by rw [hml]; rfl) (lenOf pd_0 rfl) (Nat.le_of_eq rfl) (hb hby at_68) 71 rfl rfl (by decide) (by decide) fun T250 X250 e250 => ?_
      refine own_iload_n X250 hx (hb hby at_71) rfl 72 rfl ?_
      refine own_pureS X250 hx hZ hown (own_w hw 8 rfl) (own_w hw 9 rfl) (own_w hw 3 rfl) (own_w hw 10 rfl) (by decide) [(.int (4 : Int32))] [(.ref w_Role_HUB_POI)] 1 (rm_quantity_14 l Z a0 hw []  h0 n0 H) (by decide) (by decide) rfl rfl e250 (by rw [hml]; rfl) (lenOf pd_1 rfl) (Nat.le_of_eq rfl) (hb hby at_72) 75 rfl rfl (by decide) (by decide) fun T252 X252 e252 => ?_
      refine own_pureV X252 hx hZ hown (own_w hw 14 rfl) (own_w hw 15 rfl) (notFace_of_selects (args := #[]) (mvT hZ (own_w hw 17 rfl))) (own_w hw 17 rfl) (own_w hw 16 rfl) (own_w hw 6 rfl) (own_w hw 18 rfl) (by decide) w_Role_HUB_POI [(.ref w_Quantity_PERFORMANCE)] [] 0 (rm_spansHour_60 l Z a0 hw []  h0 n0 H) (by decide) (by decide) rfl rfl e252 E_w_Role_HUB_POI (by rw [hml]; rfl) (lenOf pd_3 rfl) (Nat.le_of_eq rfl) (hb hby at_75) 78 rfl rfl (by decide) (by decide) fun T254 X254 e254 => ?_
      refine own_iload X254 hx (hb hby at_78) rfl 80 rfl ?_
      refine own_icmpN X254 hx (hb hby at_80) (teq (by decide : (1 : Int32) = (1 : Int32))).2 83 rfl ?_
      refine own_iconst X254 hx (hb hby at_83) (1 : Int32) rfl 84 rfl ?_
      refine own_goto X254 hx (hb hby at_84) 88 (by decide) (by decide) ?_
      exact own_retZ X254 hx hk hret (hb hby at_88) rfl ⟨rfl, Fr.nil _⟩ (by decide) (by decide)
    · rw [q224]
      refine own_istore_n X0 hx (hb hby at_15) #[.val (.int x0), .val (.int x1), .val (.int (6 : Int32)), .val (.int (5 : Int32)), .unset, .unset, .unset] rfl 16 rfl ?_
      refine own_iload_n X0 hx (hb hby at_16) rfl 17 rfl ?_
      refine own_ifN X0 hx (hb hby at_17) ((if0 _ _).trans (feq (by decide : ¬ ((5 : Int32) = (0 : Int32)))).1) 20 rfl ?_
      refine own_iload_n X0 hx (hb hby at_20) rfl 21 rfl ?_
      refine own_iconst X0 hx (hb hby at_21) (5 : Int32) rfl 22 rfl ?_
      refine own_icmpN X0 hx (hb hby at_22) (teq (by decide : (5 : Int32) = (5 : Int32))).2 25 rfl ?_
      refine own_iconst X0 hx (hb hby at_25) (1 : Int32) rfl 26 rfl ?_
      refine own_goto X0 hx (hb hby at_26) 30 (by decide) (by decide) ?_
      refine own_istore X0 hx (hb hby at_30) #[.val (.int x0), .val (.int x1), .val (.int (6 : Int32)), .val (.int (5 : Int32)), .val (.int (1 : Int32)), .unset, .unset] rfl 32 rfl ?_
      refine own_iload_n X0 hx (hb hby at_32) rfl 33 rfl ?_
      refine own_iconst X0 hx (hb hby at_33) (4 : Int32) rfl 34 rfl ?_
      refine own_icmpN X0 hx (hb hby at_34) (flt (by decide : ¬ ((6 : Int32) < (4 : Int32)))).1 37 rfl ?_
      refine own_iload_n X0 hx (hb hby at_37) rfl 38 rfl ?_
      refine own_bipush X0 hx (hb hby at_38) (7 : Int32) rfl 40 rfl ?_
      refine own_icmpN X0 hx (hb hby at_40) (flt (by decide : ¬ ((7 : Int32) < (6 : Int32)))).2.2.1 43 rfl ?_
      refine own_iconst X0 hx (hb hby at_43) (1 : Int32) rfl 44 rfl ?_
      refine own_goto X0 hx (hb hby at_44) 48 (by decide) (by decide) ?_
      refine own_istore X0 hx (hb hby at_48) #[.val (.int x0), .val (.int x1), .val (.int (6 : Int32)), .val (.int (5 : Int32)), .val (.int (1 : Int32)), .val (.int (1 : Int32)), .unset] rfl 50 rfl ?_
      refine own_iload X0 hx (hb hby at_50) rfl 52 rfl ?_
      refine own_ifY X0 hx (hb hby at_52) ((if0 _ _).trans (feq (by decide : ¬ ((1 : Int32) = (0 : Int32)))).2) 60 (by decide) (by decide) ?_
      refine own_iconst X0 hx (hb hby at_60) (1 : Int32) rfl 61 rfl ?_
      refine own_goto X0 hx (hb hby at_61) 65 (by decide) (by decide) ?_
      refine own_istore X0 hx (hb hby at_65) #[.val (.int x0), .val (.int x1), .val (.int (6 : Int32)), .val (.int (5 : Int32)), .val (.int (1 : Int32)), .val (.int (1 : Int32)), .val (.int (1 : Int32))] rfl 67 rfl ?_
      refine own_iload_n X0 hx (hb hby at_67) rfl 68 rfl ?_
      refine own_pureS X0 hx hZ hown (own_w hw 1 rfl) (own_w hw 2 rfl) (own_w hw 3 rfl) (own_w hw 4 rfl) (by decide) [(.int (6 : Int32))] [] 0 (rm_role_55 l Z a0 hw []  h0 n0 H) (by decide) (by decide) rfl rfl e0 (by rw [hml]; rfl) (lenOf pd_0 rfl) (Nat.le_of_eq rfl) (hb hby at_68) 71 rfl rfl (by decide) (by decide) fun T256 X256 e256 => ?_
      refine own_iload_n X256 hx (hb hby at_71) rfl 72 rfl ?_
      refine own_pureS X256 hx hZ hown (own_w hw 8 rfl) (own_w hw 9 rfl) (own_w hw 3 rfl) (own_w hw 10 rfl) (by decide) [(.int (5 : Int32))] [(.ref w_Role_HUB_POI)] 1 (rm_quantity_17 l Z a0 hw []  h0 n0 H) (by decide) (by decide) rfl rfl e256 (by rw [hml]; rfl) (lenOf pd_1 rfl) (Nat.le_of_eq rfl) (hb hby at_72) 75 rfl rfl (by decide) (by decide) fun T258 X258 e258 => ?_
      refine own_pureV X258 hx hZ hown (own_w hw 14 rfl) (own_w hw 15 rfl) (notFace_of_selects (args := #[]) (mvT hZ (own_w hw 17 rfl))) (own_w hw 17 rfl) (own_w hw 16 rfl) (own_w hw 6 rfl) (own_w hw 18 rfl) (by decide) w_Role_HUB_POI [(.ref w_Quantity_BID)] [] 0 (rm_spansHour_61 l Z a0 hw []  h0 n0 H) (by decide) (by decide) rfl rfl e258 E_w_Role_HUB_POI (by rw [hml]; rfl) (lenOf pd_3 rfl) (Nat.le_of_eq rfl) (hb hby at_75) 78 rfl rfl (by decide) (by decide) fun T260 X260 e260 => ?_
      refine own_iload X260 hx (hb hby at_78) rfl 80 rfl ?_
      refine own_icmpN X260 hx (hb hby at_80) (teq (by decide : (1 : Int32) = (1 : Int32))).2 83 rfl ?_
      refine own_iconst X260 hx (hb hby at_83) (1 : Int32) rfl 84 rfl ?_
      refine own_goto X260 hx (hb hby at_84) 88 (by decide) (by decide) ?_
      exact own_retZ X260 hx hk hret (hb hby at_88) rfl ⟨rfl, Fr.nil _⟩ (by decide) (by decide)
  · rw [q1]
    refine own_istore_n X0 hx (hb hby at_7) #[.val (.int x0), .val (.int x1), .val (.int (7 : Int32)), .unset, .unset, .unset, .unset] rfl 8 rfl ?_
    refine own_iload_n X0 hx (hb hby at_8) rfl 9 rfl ?_
    refine own_ldc X0 hx hZ hown (own_w hw 0 rfl) (hb hby at_9) 11 rfl ?_
    refine own_iand X0 hx (hb hby at_11) 12 rfl ?_
    refine own_bipush X0 hx (hb hby at_12) (6 : Int32) rfl 14 rfl ?_
    refine own_irem X0 hx (hb hby at_14) (by decide) 15 rfl ?_
    rcases own_mod6 x1 with q261 | q261 | q261 | q261 | q261 | q261
    · rw [q261]
      refine own_istore_n X0 hx (hb hby at_15) #[.val (.int x0), .val (.int x1), .val (.int (7 : Int32)), .val (.int (0 : Int32)), .unset, .unset, .unset] rfl 16 rfl ?_
      refine own_iload_n X0 hx (hb hby at_16) rfl 17 rfl ?_
      refine own_ifY X0 hx (hb hby at_17) ((if0 _ _).trans (teq (by decide : (0 : Int32) = (0 : Int32))).1) 25 (by decide) (by decide) ?_
      refine own_iconst X0 hx (hb hby at_25) (1 : Int32) rfl 26 rfl ?_
      refine own_goto X0 hx (hb hby at_26) 30 (by decide) (by decide) ?_
      refine own_istore X0 hx (hb hby at_30) #[.val (.int x0), .val (.int x1), .val (.int (7 : Int32)), .val (.int (0 : Int32)), .val (.int (1 : Int32)), .unset, .unset] rfl 32 rfl ?_
      refine own_iload_n X0 hx (hb hby at_32) rfl 33 rfl ?_
      refine own_iconst X0 hx (hb hby at_33) (4 : Int32) rfl 34 rfl ?_
      refine own_icmpN X0 hx (hb hby at_34) (flt (by decide : ¬ ((7 : Int32) < (4 : Int32)))).1 37 rfl ?_
      refine own_iload_n X0 hx (hb hby at_37) rfl 38 rfl ?_
      refine own_bipush X0 hx (hb hby at_38) (7 : Int32) rfl 40 rfl ?_
      refine own_icmpN X0 hx (hb hby at_40) (flt (by decide : ¬ ((7 : Int32) < (7 : Int32)))).2.2.1 43 rfl ?_
      refine own_iconst X0 hx (hb hby at_43) (1 : Int32) rfl 44 rfl ?_
      refine own_goto X0 hx (hb hby at_44) 48 (by decide) (by decide) ?_
      refine own_istore X0 hx (hb hby at_48) #[.val (.int x0), .val (.int x1), .val (.int (7 : Int32)), .val (.int (0 : Int32)), .val (.int (1 : Int32)), .val (.int (1 : Int32)), .unset] rfl 50 rfl ?_
      refine own_iload X0 hx (hb hby at_50) rfl 52 rfl ?_
      refine own_ifY X0 hx (hb hby at_52) ((if0 _ _).trans (feq (by decide : ¬ ((1 : Int32) = (0 : Int32)))).2) 60 (by decide) (by decide) ?_
      refine own_iconst X0 hx (hb hby at_60) (1 : Int32) rfl 61 rfl ?_
      refine own_goto X0 hx (hb hby at_61) 65 (by decide) (by decide) ?_
      refine own_istore X0 hx (hb hby at_65) #[.val (.int x0), .val (.int x1), .val (.int (7 : Int32)), .val (.int (0 : Int32)), .val (.int (1 : Int32)), .val (.int (1 : Int32)), .val (.int (1 : Int32))] rfl 67 rfl ?_
      refine own_iload_n X0 hx (hb hby at_67) rfl 68 rfl ?_
      refine own_pureS X0 hx hZ hown (own_w hw 1 rfl) (own_w hw 2 rfl) (own_w hw 3 rfl) (own_w hw 4 rfl) (by decide) [(.int (7 : Int32))] [] 0 (rm_role_62 l Z a0 hw []  h0 n0 H) (by decide) (by decide) rfl rfl e0 (by rw [hml]; rfl) (lenOf pd_0 rfl) (Nat.le_of_eq rfl) (hb hby at_68) 71 rfl rfl (by decide) (by decide) fun T263 X263 e263 => ?_
      refine own_iload_n X263 hx (hb hby at_71) rfl 72 rfl ?_
      refine own_pureS X263 hx hZ hown (own_w hw 8 rfl) (own_w hw 9 rfl) (own_w hw 3 rfl) (own_w hw 10 rfl) (by decide) [(.int (0 : Int32))] [(.ref w_Role_HUB_POW)] 1 (rm_quantity_2 l Z a0 hw []  h0 n0 H) (by decide) (by decide) rfl rfl e263 (by rw [hml]; rfl) (lenOf pd_1 rfl) (Nat.le_of_eq rfl) (hb hby at_72) 75 rfl rfl (by decide) (by decide) fun T265 X265 e265 => ?_
      refine own_pureV X265 hx hZ hown (own_w hw 14 rfl) (own_w hw 15 rfl) (notFace_of_selects (args := #[]) (mvT hZ (own_w hw 17 rfl))) (own_w hw 17 rfl) (own_w hw 16 rfl) (own_w hw 6 rfl) (own_w hw 18 rfl) (by decide) w_Role_HUB_POW [(.ref w_Quantity_DA)] [] 0 (rm_spansHour_63 l Z a0 hw []  h0 n0 H) (by decide) (by decide) rfl rfl e265 E_w_Role_HUB_POW (by rw [hml]; rfl) (lenOf pd_3 rfl) (Nat.le_of_eq rfl) (hb hby at_75) 78 rfl rfl (by decide) (by decide) fun T267 X267 e267 => ?_
      refine own_iload X267 hx (hb hby at_78) rfl 80 rfl ?_
      refine own_icmpN X267 hx (hb hby at_80) (teq (by decide : (1 : Int32) = (1 : Int32))).2 83 rfl ?_
      refine own_iconst X267 hx (hb hby at_83) (1 : Int32) rfl 84 rfl ?_
      refine own_goto X267 hx (hb hby at_84) 88 (by decide) (by decide) ?_
      exact own_retZ X267 hx hk hret (hb hby at_88) rfl ⟨rfl, Fr.nil _⟩ (by decide) (by decide)
    · rw [q261]
      refine own_istore_n X0 hx (hb hby at_15) #[.val (.int x0), .val (.int x1), .val (.int (7 : Int32)), .val (.int (1 : Int32)), .unset, .unset, .unset] rfl 16 rfl ?_
      refine own_iload_n X0 hx (hb hby at_16) rfl 17 rfl ?_
      refine own_ifN X0 hx (hb hby at_17) ((if0 _ _).trans (feq (by decide : ¬ ((1 : Int32) = (0 : Int32)))).1) 20 rfl ?_
      refine own_iload_n X0 hx (hb hby at_20) rfl 21 rfl ?_
      refine own_iconst X0 hx (hb hby at_21) (5 : Int32) rfl 22 rfl ?_
      refine own_icmpY X0 hx (hb hby at_22) (feq (by decide : ¬ ((1 : Int32) = (5 : Int32)))).2 29 (by decide) (by decide) ?_
      refine own_iconst X0 hx (hb hby at_29) (0 : Int32) rfl 30 rfl ?_
      refine own_istore X0 hx (hb hby at_30) #[.val (.int x0), .val (.int x1), .val (.int (7 : Int32)), .val (.int (1 : Int32)), .val (.int (0 : Int32)), .unset, .unset] rfl 32 rfl ?_
      refine own_iload_n X0 hx (hb hby at_32) rfl 33 rfl ?_
      refine own_iconst X0 hx (hb hby at_33) (4 : Int32) rfl 34 rfl ?_
      refine own_icmpN X0 hx (hb hby at_34) (flt (by decide : ¬ ((7 : Int32) < (4 : Int32)))).1 37 rfl ?_
      refine own_iload_n X0 hx (hb hby at_37) rfl 38 rfl ?_
      refine own_bipush X0 hx (hb hby at_38) (7 : Int32) rfl 40 rfl ?_
      refine own_icmpN X0 hx (hb hby at_40) (flt (by decide : ¬ ((7 : Int32) < (7 : Int32)))).2.2.1 43 rfl ?_
      refine own_iconst X0 hx (hb hby at_43) (1 : Int32) rfl 44 rfl ?_
      refine own_goto X0 hx (hb hby at_44) 48 (by decide) (by decide) ?_
      refine own_istore X0 hx (hb hby at_48) #[.val (.int x0), .val (.int x1), .val (.int (7 : Int32)), .val (.int (1 : Int32)), .val (.int (0 : Int32)), .val (.int (1 : Int32)), .unset] rfl 50 rfl ?_
      refine own_iload X0 hx (hb hby at_50) rfl 52 rfl ?_
      refine own_ifN X0 hx (hb hby at_52) ((if0 _ _).trans (teq (by decide : (0 : Int32) = (0 : Int32))).2) 55 rfl ?_
      refine own_iload X0 hx (hb hby at_55) rfl 57 rfl ?_
      refine own_ifN X0 hx (hb hby at_57) ((if0 _ _).trans (feq (by decide : ¬ ((1 : Int32) = (0 : Int32)))).1) 60 rfl ?_
      refine own_iconst X0 hx (hb hby at_60) (1 : Int32) rfl 61 rfl ?_
      refine own_goto X0 hx (hb hby at_61) 65 (by decide) (by decide) ?_
      refine own_istore X0 hx (hb hby at_65) #[.val (.int x0), .val (.int x1), .val (.int (7 : Int32)), .val (.int (1 : Int32)), .val (.int (0 : Int32)), .val (.int (1 : Int32)), .val (.int (1 : Int32))] rfl 67 rfl ?_
      refine own_iload_n X0 hx (hb hby at_67) rfl 68 rfl ?_
      refine own_pureS X0 hx hZ hown (own_w hw 1 rfl) (own_w hw 2 rfl) (own_w hw 3 rfl) (own_w hw 4 rfl) (by decide) [(.int (7 : Int32))] [] 0 (rm_role_62 l Z a0 hw []  h0 n0 H) (by decide) (by decide) rfl rfl e0 (by rw [hml]; rfl) (lenOf pd_0 rfl) (Nat.le_of_eq rfl) (hb hby at_68) 71 rfl rfl (by decide) (by decide) fun T269 X269 e269 => ?_
      refine own_iload_n X269 hx (hb hby at_71) rfl 72 rfl ?_
      refine own_pureS X269 hx hZ hown (own_w hw 8 rfl) (own_w hw 9 rfl) (own_w hw 3 rfl) (own_w hw 10 rfl) (by decide) [(.int (1 : Int32))] [(.ref w_Role_HUB_POW)] 1 (rm_quantity_5 l Z a0 hw []  h0 n0 H) (by decide) (by decide) rfl rfl e269 (by rw [hml]; rfl) (lenOf pd_1 rfl) (Nat.le_of_eq rfl) (hb hby at_72) 75 rfl rfl (by decide) (by decide) fun T271 X271 e271 => ?_
      refine own_pureV X271 hx hZ hown (own_w hw 14 rfl) (own_w hw 15 rfl) (notFace_of_selects (args := #[]) (mvT hZ (own_w hw 17 rfl))) (own_w hw 17 rfl) (own_w hw 16 rfl) (own_w hw 6 rfl) (own_w hw 18 rfl) (by decide) w_Role_HUB_POW [(.ref w_Quantity_RT)] [] 0 (rm_spansHour_64 l Z a0 hw []  h0 n0 H) (by decide) (by decide) rfl rfl e271 E_w_Role_HUB_POW (by rw [hml]; rfl) (lenOf pd_3 rfl) (Nat.le_of_eq rfl) (hb hby at_75) 78 rfl rfl (by decide) (by decide) fun T273 X273 e273 => ?_
      refine own_iload X273 hx (hb hby at_78) rfl 80 rfl ?_
      refine own_icmpN X273 hx (hb hby at_80) (teq (by decide : (1 : Int32) = (1 : Int32))).2 83 rfl ?_
      refine own_iconst X273 hx (hb hby at_83) (1 : Int32) rfl 84 rfl ?_
      refine own_goto X273 hx (hb hby at_84) 88 (by decide) (by decide) ?_
      exact own_retZ X273 hx hk hret (hb hby at_88) rfl ⟨rfl, Fr.nil _⟩ (by decide) (by decide)
    · rw [q261]
      refine own_istore_n X0 hx (hb hby at_15) #[.val (.int x0), .val (.int x1), .val (.int (7 : Int32)), .val (.int (2 : Int32)), .unset, .unset, .unset] rfl 16 rfl ?_
      refine own_iload_n X0 hx (hb hby at_16) rfl 17 rfl ?_
      refine own_ifN X0 hx (hb hby at_17) ((if0 _ _).trans (feq (by decide : ¬ ((2 : Int32) = (0 : Int32)))).1) 20 rfl ?_
      refine own_iload_n X0 hx (hb hby at_20) rfl 21 rfl ?_
      refine own_iconst X0 hx (hb hby at_21) (5 : Int32) rfl 22 rfl ?_
      refine own_icmpY X0 hx (hb hby at_22) (feq (by decide : ¬ ((2 : Int32) = (5 : Int32)))).2 29 (by decide) (by decide) ?_
      refine own_iconst X0 hx (hb hby at_29) (0 : Int32) rfl 30 rfl ?_
      refine own_istore X0 hx (hb hby at_30) #[.val (.int x0), .val (.int x1), .val (.int (7 : Int32)), .val (.int (2 : Int32)), .val (.int (0 : Int32)), .unset, .unset] rfl 32 rfl ?_
      refine own_iload_n X0 hx (hb hby at_32) rfl 33 rfl ?_
      refine own_iconst X0 hx (hb hby at_33) (4 : Int32) rfl 34 rfl ?_
      refine own_icmpN X0 hx (hb hby at_34) (flt (by decide : ¬ ((7 : Int32) < (4 : Int32)))).1 37 rfl ?_
      refine own_iload_n X0 hx (hb hby at_37) rfl 38 rfl ?_
      refine own_bipush X0 hx (hb hby at_38) (7 : Int32) rfl 40 rfl ?_
      refine own_icmpN X0 hx (hb hby at_40) (flt (by decide : ¬ ((7 : Int32) < (7 : Int32)))).2.2.1 43 rfl ?_
      refine own_iconst X0 hx (hb hby at_43) (1 : Int32) rfl 44 rfl ?_
      refine own_goto X0 hx (hb hby at_44) 48 (by decide) (by decide) ?_
      refine own_istore X0 hx (hb hby at_48) #[.val (.int x0), .val (.int x1), .val (.int (7 : Int32)), .val (.int (2 : Int32)), .val (.int (0 : Int32)), .val (.int (1 : Int32)), .unset] rfl 50 rfl ?_
      refine own_iload X0 hx (hb hby at_50) rfl 52 rfl ?_
      refine own_ifN X0 hx (hb hby at_52) ((if0 _ _).trans (teq (by decide : (0 : Int32) = (0 : Int32))).2) 55 rfl ?_
      refine own_iload X0 hx (hb hby at_55) rfl 57 rfl ?_
      refine own_ifN X0 hx (hb hby at_57) ((if0 _ _).trans (feq (by decide : ¬ ((1 : Int32) = (0 : Int32)))).1) 60 rfl ?_
      refine own_iconst X0 hx (hb hby at_60) (1 : Int32) rfl 61 rfl ?_
      refine own_goto X0 hx (hb hby at_61) 65 (by decide) (by decide) ?_
      refine own_istore X0 hx (hb hby at_65) #[.val (.int x0), .val (.int x1), .val (.int (7 : Int32)), .val (.int (2 : Int32)), .val (.int (0 : Int32)), .val (.int (1 : Int32)), .val (.int (1 : Int32))] rfl 67 rfl ?_
      refine own_iload_n X0 hx (hb hby at_67) rfl 68 rfl ?_
      refine own_pureS X0 hx hZ hown (own_w hw 1 rfl) (own_w hw 2 rfl) (own_w hw 3 rfl) (own_w hw 4 rfl) (by decide) [(.int (7 : Int32))] [] 0 (rm_role_62 l Z a0 hw []  h0 n0 H) (by decide) (by decide) rfl rfl e0 (by rw [hml]; rfl) (lenOf pd_0 rfl) (Nat.le_of_eq rfl) (hb hby at_68) 71 rfl rfl (by decide) (by decide) fun T275 X275 e275 => ?_
      refine own_iload_n X275 hx (hb hby at_71) rfl 72 rfl ?_
      refine own_pureS X275 hx hZ hown (own_w hw 8 rfl) (own_w hw 9 rfl) (own_w hw 3 rfl) (own_w hw 10 rfl) (by decide) [(.int (2 : Int32))] [(.ref w_Role_HUB_POW)] 1 (rm_quantity_8 l Z a0 hw []  h0 n0 H) (by decide) (by decide) rfl rfl e275 (by rw [hml]; rfl) (lenOf pd_1 rfl) (Nat.le_of_eq rfl) (hb hby at_72) 75 rfl rfl (by decide) (by decide) fun T277 X277 e277 => ?_
      refine own_pureV X277 hx hZ hown (own_w hw 14 rfl) (own_w hw 15 rfl) (notFace_of_selects (args := #[]) (mvT hZ (own_w hw 17 rfl))) (own_w hw 17 rfl) (own_w hw 16 rfl) (own_w hw 6 rfl) (own_w hw 18 rfl) (by decide) w_Role_HUB_POW [(.ref w_Quantity_ACTUAL)] [] 0 (rm_spansHour_65 l Z a0 hw []  h0 n0 H) (by decide) (by decide) rfl rfl e277 E_w_Role_HUB_POW (by rw [hml]; rfl) (lenOf pd_3 rfl) (Nat.le_of_eq rfl) (hb hby at_75) 78 rfl rfl (by decide) (by decide) fun T279 X279 e279 => ?_
      refine own_iload X279 hx (hb hby at_78) rfl 80 rfl ?_
      refine own_icmpN X279 hx (hb hby at_80) (teq (by decide : (1 : Int32) = (1 : Int32))).2 83 rfl ?_
      refine own_iconst X279 hx (hb hby at_83) (1 : Int32) rfl 84 rfl ?_
      refine own_goto X279 hx (hb hby at_84) 88 (by decide) (by decide) ?_
      exact own_retZ X279 hx hk hret (hb hby at_88) rfl ⟨rfl, Fr.nil _⟩ (by decide) (by decide)
    · rw [q261]
      refine own_istore_n X0 hx (hb hby at_15) #[.val (.int x0), .val (.int x1), .val (.int (7 : Int32)), .val (.int (3 : Int32)), .unset, .unset, .unset] rfl 16 rfl ?_
      refine own_iload_n X0 hx (hb hby at_16) rfl 17 rfl ?_
      refine own_ifN X0 hx (hb hby at_17) ((if0 _ _).trans (feq (by decide : ¬ ((3 : Int32) = (0 : Int32)))).1) 20 rfl ?_
      refine own_iload_n X0 hx (hb hby at_20) rfl 21 rfl ?_
      refine own_iconst X0 hx (hb hby at_21) (5 : Int32) rfl 22 rfl ?_
      refine own_icmpY X0 hx (hb hby at_22) (feq (by decide : ¬ ((3 : Int32) = (5 : Int32)))).2 29 (by decide) (by decide) ?_
      refine own_iconst X0 hx (hb hby at_29) (0 : Int32) rfl 30 rfl ?_
      refine own_istore X0 hx (hb hby at_30) #[.val (.int x0), .val (.int x1), .val (.int (7 : Int32)), .val (.int (3 : Int32)), .val (.int (0 : Int32)), .unset, .unset] rfl 32 rfl ?_
      refine own_iload_n X0 hx (hb hby at_32) rfl 33 rfl ?_
      refine own_iconst X0 hx (hb hby at_33) (4 : Int32) rfl 34 rfl ?_
      refine own_icmpN X0 hx (hb hby at_34) (flt (by decide : ¬ ((7 : Int32) < (4 : Int32)))).1 37 rfl ?_
      refine own_iload_n X0 hx (hb hby at_37) rfl 38 rfl ?_
      refine own_bipush X0 hx (hb hby at_38) (7 : Int32) rfl 40 rfl ?_
      refine own_icmpN X0 hx (hb hby at_40) (flt (by decide : ¬ ((7 : Int32) < (7 : Int32)))).2.2.1 43 rfl ?_
      refine own_iconst X0 hx (hb hby at_43) (1 : Int32) rfl 44 rfl ?_
      refine own_goto X0 hx (hb hby at_44) 48 (by decide) (by decide) ?_
      refine own_istore X0 hx (hb hby at_48) #[.val (.int x0), .val (.int x1), .val (.int (7 : Int32)), .val (.int (3 : Int32)), .val (.int (0 : Int32)), .val (.int (1 : Int32)), .unset] rfl 50 rfl ?_
      refine own_iload X0 hx (hb hby at_50) rfl 52 rfl ?_
      refine own_ifN X0 hx (hb hby at_52) ((if0 _ _).trans (teq (by decide : (0 : Int32) = (0 : Int32))).2) 55 rfl ?_
      refine own_iload X0 hx (hb hby at_55) rfl 57 rfl ?_
      refine own_ifN X0 hx (hb hby at_57) ((if0 _ _).trans (feq (by decide : ¬ ((1 : Int32) = (0 : Int32)))).1) 60 rfl ?_
      refine own_iconst X0 hx (hb hby at_60) (1 : Int32) rfl 61 rfl ?_
      refine own_goto X0 hx (hb hby at_61) 65 (by decide) (by decide) ?_
      refine own_istore X0 hx (hb hby at_65) #[.val (.int x0), .val (.int x1), .val (.int (7 : Int32)), .val (.int (3 : Int32)), .val (.int (0 : Int32)), .val (.int (1 : Int32)), .val (.int (1 : Int32))] rfl 67 rfl ?_
      refine own_iload_n X0 hx (hb hby at_67) rfl 68 rfl ?_
      refine own_pureS X0 hx hZ hown (own_w hw 1 rfl) (own_w hw 2 rfl) (own_w hw 3 rfl) (own_w hw 4 rfl) (by decide) [(.int (7 : Int32))] [] 0 (rm_role_62 l Z a0 hw []  h0 n0 H) (by decide) (by decide) rfl rfl e0 (by rw [hml]; rfl) (lenOf pd_0 rfl) (Nat.le_of_eq rfl) (hb hby at_68) 71 rfl rfl (by decide) (by decide) fun T281 X281 e281 => ?_
      refine own_iload_n X281 hx (hb hby at_71) rfl 72 rfl ?_
      refine own_pureS X281 hx hZ hown (own_w hw 8 rfl) (own_w hw 9 rfl) (own_w hw 3 rfl) (own_w hw 10 rfl) (by decide) [(.int (3 : Int32))] [(.ref w_Role_HUB_POW)] 1 (rm_quantity_11 l Z a0 hw []  h0 n0 H) (by decide) (by decide) rfl rfl e281 (by rw [hml]; rfl) (lenOf pd_1 rfl) (Nat.le_of_eq rfl) (hb hby at_72) 75 rfl rfl (by decide) (by decide) fun T283 X283 e283 => ?_
      refine own_pureV X283 hx hZ hown (own_w hw 14 rfl) (own_w hw 15 rfl) (notFace_of_selects (args := #[]) (mvT hZ (own_w hw 17 rfl))) (own_w hw 17 rfl) (own_w hw 16 rfl) (own_w hw 6 rfl) (own_w hw 18 rfl) (by decide) w_Role_HUB_POW [(.ref w_Quantity_MOVEMENT)] [] 0 (rm_spansHour_66 l Z a0 hw []  h0 n0 H) (by decide) (by decide) rfl rfl e283 E_w_Role_HUB_POW (by rw [hml]; rfl) (lenOf pd_3 rfl) (Nat.le_of_eq rfl) (hb hby at_75) 78 rfl rfl (by decide) (by decide) fun T285 X285 e285 => ?_
      refine own_iload X285 hx (hb hby at_78) rfl 80 rfl ?_
      refine own_icmpN X285 hx (hb hby at_80) (teq (by decide : (1 : Int32) = (1 : Int32))).2 83 rfl ?_
      refine own_iconst X285 hx (hb hby at_83) (1 : Int32) rfl 84 rfl ?_
      refine own_goto X285 hx (hb hby at_84) 88 (by decide) (by decide) ?_
      exact own_retZ X285 hx hk hret (hb hby at_88) rfl ⟨rfl, Fr.nil _⟩ (by decide) (by decide)
    · rw [q261]
      refine own_istore_n X0 hx (hb hby at_15) #[.val (.int x0), .val (.int x1), .val (.int (7 : Int32)), .val (.int (4 : Int32)), .unset, .unset, .unset] rfl 16 rfl ?_
      refine own_iload_n X0 hx (hb hby at_16) rfl 17 rfl ?_
      refine own_ifN X0 hx (hb hby at_17) ((if0 _ _).trans (feq (by decide : ¬ ((4 : Int32) = (0 : Int32)))).1) 20 rfl ?_
      refine own_iload_n X0 hx (hb hby at_20) rfl 21 rfl ?_
      refine own_iconst X0 hx (hb hby at_21) (5 : Int32) rfl 22 rfl ?_
      refine own_icmpY X0 hx (hb hby at_22) (feq (by decide : ¬ ((4 : Int32) = (5 : Int32)))).2 29 (by decide) (by decide) ?_
      refine own_iconst X0 hx (hb hby at_29) (0 : Int32) rfl 30 rfl ?_
      refine own_istore X0 hx (hb hby at_30) #[.val (.int x0), .val (.int x1), .val (.int (7 : Int32)), .val (.int (4 : Int32)), .val (.int (0 : Int32)), .unset, .unset] rfl 32 rfl ?_
      refine own_iload_n X0 hx (hb hby at_32) rfl 33 rfl ?_
      refine own_iconst X0 hx (hb hby at_33) (4 : Int32) rfl 34 rfl ?_
      refine own_icmpN X0 hx (hb hby at_34) (flt (by decide : ¬ ((7 : Int32) < (4 : Int32)))).1 37 rfl ?_
      refine own_iload_n X0 hx (hb hby at_37) rfl 38 rfl ?_
      refine own_bipush X0 hx (hb hby at_38) (7 : Int32) rfl 40 rfl ?_
      refine own_icmpN X0 hx (hb hby at_40) (flt (by decide : ¬ ((7 : Int32) < (7 : Int32)))).2.2.1 43 rfl ?_
      refine own_iconst X0 hx (hb hby at_43) (1 : Int32) rfl 44 rfl ?_
      refine own_goto X0 hx (hb hby at_44) 48 (by decide) (by decide) ?_
      refine own_istore X0 hx (hb hby at_48) #[.val (.int x0), .val (.int x1), .val (.int (7 : Int32)), .val (.int (4 : Int32)), .val (.int (0 : Int32)), .val (.int (1 : Int32)), .unset] rfl 50 rfl ?_
      refine own_iload X0 hx (hb hby at_50) rfl 52 rfl ?_
      refine own_ifN X0 hx (hb hby at_52) ((if0 _ _).trans (teq (by decide : (0 : Int32) = (0 : Int32))).2) 55 rfl ?_
      refine own_iload X0 hx (hb hby at_55) rfl 57 rfl ?_
      refine own_ifN X0 hx (hb hby at_57) ((if0 _ _).trans (feq (by decide : ¬ ((1 : Int32) = (0 : Int32)))).1) 60 rfl ?_
      refine own_iconst X0 hx (hb hby at_60) (1 : Int32) rfl 61 rfl ?_
      refine own_goto X0 hx (hb hby at_61) 65 (by decide) (by decide) ?_
      refine own_istore X0 hx (hb hby at_65) #[.val (.int x0), .val (.int x1), .val (.int (7 : Int32)), .val (.int (4 : Int32)), .val (.int (0 : Int32)), .val (.int (1 : Int32)), .val (.int (1 : Int32))] rfl 67 rfl ?_
      refine own_iload_n X0 hx (hb hby at_67) rfl 68 rfl ?_
      refine own_pureS X0 hx hZ hown (own_w hw 1 rfl) (own_w hw 2 rfl) (own_w hw 3 rfl) (own_w hw 4 rfl) (by decide) [(.int (7 : Int32))] [] 0 (rm_role_62 l Z a0 hw []  h0 n0 H) (by decide) (by decide) rfl rfl e0 (by rw [hml]; rfl) (lenOf pd_0 rfl) (Nat.le_of_eq rfl) (hb hby at_68) 71 rfl rfl (by decide) (by decide) fun T287 X287 e287 => ?_
      refine own_iload_n X287 hx (hb hby at_71) rfl 72 rfl ?_
      refine own_pureS X287 hx hZ hown (own_w hw 8 rfl) (own_w hw 9 rfl) (own_w hw 3 rfl) (own_w hw 10 rfl) (by decide) [(.int (4 : Int32))] [(.ref w_Role_HUB_POW)] 1 (rm_quantity_14 l Z a0 hw []  h0 n0 H) (by decide) (by decide) rfl rfl e287 (by rw [hml]; rfl) (lenOf pd_1 rfl) (Nat.le_of_eq rfl) (hb hby at_72) 75 rfl rfl (by decide) (by decide) fun T289 X289 e289 => ?_
      refine own_pureV X289 hx hZ hown (own_w hw 14 rfl) (own_w hw 15 rfl) (notFace_of_selects (args := #[]) (mvT hZ (own_w hw 17 rfl))) (own_w hw 17 rfl) (own_w hw 16 rfl) (own_w hw 6 rfl) (own_w hw 18 rfl) (by decide) w_Role_HUB_POW [(.ref w_Quantity_PERFORMANCE)] [] 0 (rm_spansHour_67 l Z a0 hw []  h0 n0 H) (by decide) (by decide) rfl rfl e289 E_w_Role_HUB_POW (by rw [hml]; rfl) (lenOf pd_3 rfl) (Nat.le_of_eq rfl) (hb hby at_75) 78 rfl rfl (by decide) (by decide) fun T291 X291 e291 => ?_
      refine own_iload X291 hx (hb hby at_78) rfl 80 rfl ?_
      refine own_icmpN X291 hx (hb hby at_80) (teq (by decide : (1 : Int32) = (1 : Int32))).2 83 rfl ?_
      refine own_iconst X291 hx (hb hby at_83) (1 : Int32) rfl 84 rfl ?_
      refine own_goto X291 hx (hb hby at_84) 88 (by decide) (by decide) ?_
      exact own_retZ X291 hx hk hret (hb hby at_88) rfl ⟨rfl, Fr.nil _⟩ (by decide) (by decide)
    · rw [q261]
      refine own_istore_n X0 hx (hb hby at_15) #[.val (.int x0), .val (.int x1), .val (.int (7 : Int32)), .val (.int (5 : Int32)), .unset, .unset, .unset] rfl 16 rfl ?_
      refine own_iload_n X0 hx (hb hby at_16) rfl 17 rfl ?_
      refine own_ifN X0 hx (hb hby at_17) ((if0 _ _).trans (feq (by decide : ¬ ((5 : Int32) = (0 : Int32)))).1) 20 rfl ?_
      refine own_iload_n X0 hx (hb hby at_20) rfl 21 rfl ?_
      refine own_iconst X0 hx (hb hby at_21) (5 : Int32) rfl 22 rfl ?_
      refine own_icmpN X0 hx (hb hby at_22) (teq (by decide : (5 : Int32) = (5 : Int32))).2 25 rfl ?_
      refine own_iconst X0 hx (hb hby at_25) (1 : Int32) rfl 26 rfl ?_
      refine own_goto X0 hx (hb hby at_26) 30 (by decide) (by decide) ?_
      refine own_istore X0 hx (hb hby at_30) #[.val (.int x0), .val (.int x1), .val (.int (7 : Int32)), .val (.int (5 : Int32)), .val (.int (1 : Int32)), .unset, .unset] rfl 32 rfl ?_
      refine own_iload_n X0 hx (hb hby at_32) rfl 33 rfl ?_
      refine own_iconst X0 hx (hb hby at_33) (4 : Int32) rfl 34 rfl ?_
      refine own_icmpN X0 hx (hb hby at_34) (flt (by decide : ¬ ((7 : Int32) < (4 : Int32)))).1 37 rfl ?_
      refine own_iload_n X0 hx (hb hby at_37) rfl 38 rfl ?_
      refine own_bipush X0 hx (hb hby at_38) (7 : Int32) rfl 40 rfl ?_
      refine own_icmpN X0 hx (hb hby at_40) (flt (by decide : ¬ ((7 : Int32) < (7 : Int32)))).2.2.1 43 rfl ?_
      refine own_iconst X0 hx (hb hby at_43) (1 : Int32) rfl 44 rfl ?_
      refine own_goto X0 hx (hb hby at_44) 48 (by decide) (by decide) ?_
      refine own_istore X0 hx (hb hby at_48) #[.val (.int x0), .val (.int x1), .val (.int (7 : Int32)), .val (.int (5 : Int32)), .val (.int (1 : Int32)), .val (.int (1 : Int32)), .unset] rfl 50 rfl ?_
      refine own_iload X0 hx (hb hby at_50) rfl 52 rfl ?_
      refine own_ifY X0 hx (hb hby at_52) ((if0 _ _).trans (feq (by decide : ¬ ((1 : Int32) = (0 : Int32)))).2) 60 (by decide) (by decide) ?_
      refine own_iconst X0 hx (hb hby at_60) (1 : Int32) rfl 61 rfl ?_
      refine own_goto X0 hx (hb hby at_61) 65 (by decide) (by decide) ?_
      refine own_istore X0 hx (hb hby at_65) #[.val (.int x0), .val (.int x1), .val (.int (7 : Int32)), .val (.int (5 : Int32)), .val (.int (1 : Int32)), .val (.int (1 : Int32)), .val (.int (1 : Int32))] rfl 67 rfl ?_
      refine own_iload_n X0 hx (hb hby at_67) rfl 68 rfl ?_
      refine own_pureS X0 hx hZ hown (own_w hw 1 rfl) (own_w hw 2 rfl) (own_w hw 3 rfl) (own_w hw 4 rfl) (by decide) [(.int (7 : Int32))] [] 0 (rm_role_62 l Z a0 hw []  h0 n0 H) (by decide) (by decide) rfl rfl e0 (by rw [hml]; rfl) (lenOf pd_0 rfl) (Nat.le_of_eq rfl) (hb hby at_68) 71 rfl rfl (by decide) (by decide) fun T293 X293 e293 => ?_
      refine own_iload_n X293 hx (hb hby at_71) rfl 72 rfl ?_
      refine own_pureS X293 hx hZ hown (own_w hw 8 rfl) (own_w hw 9 rfl) (own_w hw 3 rfl) (own_w hw 10 rfl) (by decide) [(.int (5 : Int32))] [(.ref w_Role_HUB_POW)] 1 (rm_quantity_17 l Z a0 hw []  h0 n0 H) (by decide) (by decide) rfl rfl e293 (by rw [hml]; rfl) (lenOf pd_1 rfl) (Nat.le_of_eq rfl) (hb hby at_72) 75 rfl rfl (by decide) (by decide) fun T295 X295 e295 => ?_
      refine own_pureV X295 hx hZ hown (own_w hw 14 rfl) (own_w hw 15 rfl) (notFace_of_selects (args := #[]) (mvT hZ (own_w hw 17 rfl))) (own_w hw 17 rfl) (own_w hw 16 rfl) (own_w hw 6 rfl) (own_w hw 18 rfl) (by decide) w_Role_HUB_POW [(.ref w_Quantity_BID)] [] 0 (rm_spansHour_68 l Z a0 hw []  h0 n0 H) (by decide) (by decide) rfl rfl e295 E_w_Role_HUB_POW (by rw [hml]; rfl) (lenOf pd_3 rfl) (Nat.le_of_eq rfl) (hb hby at_75) 78 rfl rfl (by decide) (by decide) fun T297 X297 e297 => ?_
      refine own_iload X297 hx (hb hby at_78) rfl 80 rfl ?_
      refine own_icmpN X297 hx (hb hby at_80) (teq (by decide : (1 : Int32) = (1 : Int32))).2 83 rfl ?_
      refine own_iconst X297 hx (hb hby at_83) (1 : Int32) rfl 84 rfl ?_
      refine own_goto X297 hx (hb hby at_84) 88 (by decide) (by decide) ?_
      exact own_retZ X297 hx hk hret (hb hby at_88) rfl ⟨rfl, Fr.nil _⟩ (by decide) (by decide)
  · rw [q1]
    refine own_istore_n X0 hx (hb hby at_7) #[.val (.int x0), .val (.int x1), .val (.int (8 : Int32)), .unset, .unset, .unset, .unset] rfl 8 rfl ?_
    refine own_iload_n X0 hx (hb hby at_8) rfl 9 rfl ?_
    refine own_ldc X0 hx hZ hown (own_w hw 0 rfl) (hb hby at_9) 11 rfl ?_
    refine own_iand X0 hx (hb hby at_11) 12 rfl ?_
    refine own_bipush X0 hx (hb hby at_12) (6 : Int32) rfl 14 rfl ?_
    refine own_irem X0 hx (hb hby at_14) (by decide) 15 rfl ?_
    rcases own_mod6 x1 with q298 | q298 | q298 | q298 | q298 | q298
    · rw [q298]
      refine own_istore_n X0 hx (hb hby at_15) #[.val (.int x0), .val (.int x1), .val (.int (8 : Int32)), .val (.int (0 : Int32)), .unset, .unset, .unset] rfl 16 rfl ?_
      refine own_iload_n X0 hx (hb hby at_16) rfl 17 rfl ?_
      refine own_ifY X0 hx (hb hby at_17) ((if0 _ _).trans (teq (by decide : (0 : Int32) = (0 : Int32))).1) 25 (by decide) (by decide) ?_
      refine own_iconst X0 hx (hb hby at_25) (1 : Int32) rfl 26 rfl ?_
      refine own_goto X0 hx (hb hby at_26) 30 (by decide) (by decide) ?_
      refine own_istore X0 hx (hb hby at_30) #[.val (.int x0), .val (.int x1), .val (.int (8 : Int32)), .val (.int (0 : Int32)), .val (.int (1 : Int32)), .unset, .unset] rfl 32 rfl ?_
      refine own_iload_n X0 hx (hb hby at_32) rfl 33 rfl ?_
      refine own_iconst X0 hx (hb hby at_33) (4 : Int32) rfl 34 rfl ?_
      refine own_icmpN X0 hx (hb hby at_34) (flt (by decide : ¬ ((8 : Int32) < (4 : Int32)))).1 37 rfl ?_
      refine own_iload_n X0 hx (hb hby at_37) rfl 38 rfl ?_
      refine own_bipush X0 hx (hb hby at_38) (7 : Int32) rfl 40 rfl ?_
      refine own_icmpY X0 hx (hb hby at_40) (tlt (by decide : (7 : Int32) < (8 : Int32))).2.2.1 47 (by decide) (by decide) ?_
      refine own_iconst X0 hx (hb hby at_47) (0 : Int32) rfl 48 rfl ?_
      refine own_istore X0 hx (hb hby at_48) #[.val (.int x0), .val (.int x1), .val (.int (8 : Int32)), .val (.int (0 : Int32)), .val (.int (1 : Int32)), .val (.int (0 : Int32)), .unset] rfl 50 rfl ?_
      refine own_iload X0 hx (hb hby at_50) rfl 52 rfl ?_
      refine own_ifY X0 hx (hb hby at_52) ((if0 _ _).trans (feq (by decide : ¬ ((1 : Int32) = (0 : Int32)))).2) 60 (by decide) (by decide) ?_
      refine own_iconst X0 hx (hb hby at_60) (1 : Int32) rfl 61 rfl ?_
      refine own_goto X0 hx (hb hby at_61) 65 (by decide) (by decide) ?_
      refine own_istore X0 hx (hb hby at_65) #[.val (.int x0), .val (.int x1), .val (.int (8 : Int32)), .val (.int (0 : Int32)), .val (.int (1 : Int32)), .val (.int (0 : Int32)), .val (.int (1 : Int32))] rfl 67 rfl ?_
      refine own_iload_n X0 hx (hb hby at_67) rfl 68 rfl ?_
      refine own_pureS X0 hx hZ hown (own_w hw 1 rfl) (own_w hw 2 rfl) (own_w hw 3 rfl) (own_w hw 4 rfl) (by decide) [(.int (8 : Int32))] [] 0 (rm_role_69 l Z a0 hw []  h0 n0 H) (by decide) (by decide) rfl rfl e0 (by rw [hml]; rfl) (lenOf pd_0 rfl) (Nat.le_of_eq rfl) (hb hby at_68) 71 rfl rfl (by decide) (by decide) fun T300 X300 e300 => ?_
      refine own_iload_n X300 hx (hb hby at_71) rfl 72 rfl ?_
      refine own_pureS X300 hx hZ hown (own_w hw 8 rfl) (own_w hw 9 rfl) (own_w hw 3 rfl) (own_w hw 10 rfl) (by decide) [(.int (0 : Int32))] [(.ref w_Role_REGULATION)] 1 (rm_quantity_2 l Z a0 hw []  h0 n0 H) (by decide) (by decide) rfl rfl e300 (by rw [hml]; rfl) (lenOf pd_1 rfl) (Nat.le_of_eq rfl) (hb hby at_72) 75 rfl rfl (by decide) (by decide) fun T302 X302 e302 => ?_
      refine own_pureV X302 hx hZ hown (own_w hw 14 rfl) (own_w hw 15 rfl) (notFace_of_selects (args := #[]) (mvT hZ (own_w hw 17 rfl))) (own_w hw 17 rfl) (own_w hw 16 rfl) (own_w hw 6 rfl) (own_w hw 18 rfl) (by decide) w_Role_REGULATION [(.ref w_Quantity_DA)] [] 0 (rm_spansHour_70 l Z a0 hw []  h0 n0 H) (by decide) (by decide) rfl rfl e302 E_w_Role_REGULATION (by rw [hml]; rfl) (lenOf pd_3 rfl) (Nat.le_of_eq rfl) (hb hby at_75) 78 rfl rfl (by decide) (by decide) fun T304 X304 e304 => ?_
      refine own_iload X304 hx (hb hby at_78) rfl 80 rfl ?_
      refine own_icmpN X304 hx (hb hby at_80) (teq (by decide : (1 : Int32) = (1 : Int32))).2 83 rfl ?_
      refine own_iconst X304 hx (hb hby at_83) (1 : Int32) rfl 84 rfl ?_
      refine own_goto X304 hx (hb hby at_84) 88 (by decide) (by decide) ?_
      exact own_retZ X304 hx hk hret (hb hby at_88) rfl ⟨rfl, Fr.nil _⟩ (by decide) (by decide)
    · rw [q298]
      refine own_istore_n X0 hx (hb hby at_15) #[.val (.int x0), .val (.int x1), .val (.int (8 : Int32)), .val (.int (1 : Int32)), .unset, .unset, .unset] rfl 16 rfl ?_
      refine own_iload_n X0 hx (hb hby at_16) rfl 17 rfl ?_
      refine own_ifN X0 hx (hb hby at_17) ((if0 _ _).trans (feq (by decide : ¬ ((1 : Int32) = (0 : Int32)))).1) 20 rfl ?_
      refine own_iload_n X0 hx (hb hby at_20) rfl 21 rfl ?_
      refine own_iconst X0 hx (hb hby at_21) (5 : Int32) rfl 22 rfl ?_
      refine own_icmpY X0 hx (hb hby at_22) (feq (by decide : ¬ ((1 : Int32) = (5 : Int32)))).2 29 (by decide) (by decide) ?_
      refine own_iconst X0 hx (hb hby at_29) (0 : Int32) rfl 30 rfl ?_
      refine own_istore X0 hx (hb hby at_30) #[.val (.int x0), .val (.int x1), .val (.int (8 : Int32)), .val (.int (1 : Int32)), .val (.int (0 : Int32)), .unset, .unset] rfl 32 rfl ?_
      refine own_iload_n X0 hx (hb hby at_32) rfl 33 rfl ?_
      refine own_iconst X0 hx (hb hby at_33) (4 : Int32) rfl 34 rfl ?_
      refine own_icmpN X0 hx (hb hby at_34) (flt (by decide : ¬ ((8 : Int32) < (4 : Int32)))).1 37 rfl ?_
      refine own_iload_n X0 hx (hb hby at_37) rfl 38 rfl ?_
      refine own_bipush X0 hx (hb hby at_38) (7 : Int32) rfl 40 rfl ?_
      refine own_icmpY X0 hx (hb hby at_40) (tlt (by decide : (7 : Int32) < (8 : Int32))).2.2.1 47 (by decide) (by decide) ?_
      refine own_iconst X0 hx (hb hby at_47) (0 : Int32) rfl 48 rfl ?_
      refine own_istore X0 hx (hb hby at_48) #[.val (.int x0), .val (.int x1), .val (.int (8 : Int32)), .val (.int (1 : Int32)), .val (.int (0 : Int32)), .val (.int (0 : Int32)), .unset] rfl 50 rfl ?_
      refine own_iload X0 hx (hb hby at_50) rfl 52 rfl ?_
      refine own_ifN X0 hx (hb hby at_52) ((if0 _ _).trans (teq (by decide : (0 : Int32) = (0 : Int32))).2) 55 rfl ?_
      refine own_iload X0 hx (hb hby at_55) rfl 57 rfl ?_
      refine own_ifY X0 hx (hb hby at_57) ((if0 _ _).trans (teq (by decide : (0 : Int32) = (0 : Int32))).1) 64 (by decide) (by decide) ?_
      refine own_iconst X0 hx (hb hby at_64) (0 : Int32) rfl 65 rfl ?_
      refine own_istore X0 hx (hb hby at_65) #[.val (.int x0), .val (.int x1), .val (.int (8 : Int32)), .val (.int (1 : Int32)), .val (.int (0 : Int32)), .val (.int (0 : Int32)), .val (.int (0 : Int32))] rfl 67 rfl ?_
      refine own_iload_n X0 hx (hb hby at_67) rfl 68 rfl ?_
      refine own_pureS X0 hx hZ hown (own_w hw 1 rfl) (own_w hw 2 rfl) (own_w hw 3 rfl) (own_w hw 4 rfl) (by decide) [(.int (8 : Int32))] [] 0 (rm_role_69 l Z a0 hw []  h0 n0 H) (by decide) (by decide) rfl rfl e0 (by rw [hml]; rfl) (lenOf pd_0 rfl) (Nat.le_of_eq rfl) (hb hby at_68) 71 rfl rfl (by decide) (by decide) fun T306 X306 e306 => ?_
      refine own_iload_n X306 hx (hb hby at_71) rfl 72 rfl ?_
      refine own_pureS X306 hx hZ hown (own_w hw 8 rfl) (own_w hw 9 rfl) (own_w hw 3 rfl) (own_w hw 10 rfl) (by decide) [(.int (1 : Int32))] [(.ref w_Role_REGULATION)] 1 (rm_quantity_5 l Z a0 hw []  h0 n0 H) (by decide) (by decide) rfl rfl e306 (by rw [hml]; rfl) (lenOf pd_1 rfl) (Nat.le_of_eq rfl) (hb hby at_72) 75 rfl rfl (by decide) (by decide) fun T308 X308 e308 => ?_
      refine own_pureV X308 hx hZ hown (own_w hw 14 rfl) (own_w hw 15 rfl) (notFace_of_selects (args := #[]) (mvT hZ (own_w hw 17 rfl))) (own_w hw 17 rfl) (own_w hw 16 rfl) (own_w hw 6 rfl) (own_w hw 18 rfl) (by decide) w_Role_REGULATION [(.ref w_Quantity_RT)] [] 0 (rm_spansHour_71 l Z a0 hw []  h0 n0 H) (by decide) (by decide) rfl rfl e308 E_w_Role_REGULATION (by rw [hml]; rfl) (lenOf pd_3 rfl) (Nat.le_of_eq rfl) (hb hby at_75) 78 rfl rfl (by decide) (by decide) fun T310 X310 e310 => ?_
      refine own_iload X310 hx (hb hby at_78) rfl 80 rfl ?_
      refine own_icmpN X310 hx (hb hby at_80) (teq (by decide : (0 : Int32) = (0 : Int32))).2 83 rfl ?_
      refine own_iconst X310 hx (hb hby at_83) (1 : Int32) rfl 84 rfl ?_
      refine own_goto X310 hx (hb hby at_84) 88 (by decide) (by decide) ?_
      exact own_retZ X310 hx hk hret (hb hby at_88) rfl ⟨rfl, Fr.nil _⟩ (by decide) (by decide)
    · rw [q298]
      refine own_istore_n X0 hx (hb hby at_15) #[.val (.int x0), .val (.int x1), .val (.int (8 : Int32)), .val (.int (2 : Int32)), .unset, .unset, .unset] rfl 16 rfl ?_
      refine own_iload_n X0 hx (hb hby at_16) rfl 17 rfl ?_
      refine own_ifN X0 hx (hb hby at_17) ((if0 _ _).trans (feq (by decide : ¬ ((2 : Int32) = (0 : Int32)))).1) 20 rfl ?_
      refine own_iload_n X0 hx (hb hby at_20) rfl 21 rfl ?_
      refine own_iconst X0 hx (hb hby at_21) (5 : Int32) rfl 22 rfl ?_
      refine own_icmpY X0 hx (hb hby at_22) (feq (by decide : ¬ ((2 : Int32) = (5 : Int32)))).2 29 (by decide) (by decide) ?_
      refine own_iconst X0 hx (hb hby at_29) (0 : Int32) rfl 30 rfl ?_
      refine own_istore X0 hx (hb hby at_30) #[.val (.int x0), .val (.int x1), .val (.int (8 : Int32)), .val (.int (2 : Int32)), .val (.int (0 : Int32)), .unset, .unset] rfl 32 rfl ?_
      refine own_iload_n X0 hx (hb hby at_32) rfl 33 rfl ?_
      refine own_iconst X0 hx (hb hby at_33) (4 : Int32) rfl 34 rfl ?_
      refine own_icmpN X0 hx (hb hby at_34) (flt (by decide : ¬ ((8 : Int32) < (4 : Int32)))).1 37 rfl ?_
      refine own_iload_n X0 hx (hb hby at_37) rfl 38 rfl ?_
      refine own_bipush X0 hx (hb hby at_38) (7 : Int32) rfl 40 rfl ?_
      refine own_icmpY X0 hx (hb hby at_40) (tlt (by decide : (7 : Int32) < (8 : Int32))).2.2.1 47 (by decide) (by decide) ?_
      refine own_iconst X0 hx (hb hby at_47) (0 : Int32) rfl 48 rfl ?_
      refine own_istore X0 hx (hb hby at_48) #[.val (.int x0), .val (.int x1), .val (.int (8 : Int32)), .val (.int (2 : Int32)), .val (.int (0 : Int32)), .val (.int (0 : Int32)), .unset] rfl 50 rfl ?_
      refine own_iload X0 hx (hb hby at_50) rfl 52 rfl ?_
      refine own_ifN X0 hx (hb hby at_52) ((if0 _ _).trans (teq (by decide : (0 : Int32) = (0 : Int32))).2) 55 rfl ?_
      refine own_iload X0 hx (hb hby at_55) rfl 57 rfl ?_
      refine own_ifY X0 hx (hb hby at_57) ((if0 _ _).trans (teq (by decide : (0 : Int32) = (0 : Int32))).1) 64 (by decide) (by decide) ?_
      refine own_iconst X0 hx (hb hby at_64) (0 : Int32) rfl 65 rfl ?_
      refine own_istore X0 hx (hb hby at_65) #[.val (.int x0), .val (.int x1), .val (.int (8 : Int32)), .val (.int (2 : Int32)), .val (.int (0 : Int32)), .val (.int (0 : Int32)), .val (.int (0 : Int32))] rfl 67 rfl ?_
      refine own_iload_n X0 hx (hb hby at_67) rfl 68 rfl ?_
      refine own_pureS X0 hx hZ hown (own_w hw 1 rfl) (own_w hw 2 rfl) (own_w hw 3 rfl) (own_w hw 4 rfl) (by decide) [(.int (8 : Int32))] [] 0 (rm_role_69 l Z a0 hw []  h0 n0 H) (by decide) (by decide) rfl rfl e0 (by rw [hml]; rfl) (lenOf pd_0 rfl) (Nat.le_of_eq rfl) (hb hby at_68) 71 rfl rfl (by decide) (by decide) fun T312 X312 e312 => ?_
      refine own_iload_n X312 hx (hb hby at_71) rfl 72 rfl ?_
      refine own_pureS X312 hx hZ hown (own_w hw 8 rfl) (own_w hw 9 rfl) (own_w hw 3 rfl) (own_w hw 10 rfl) (by decide) [(.int (2 : Int32))] [(.ref w_Role_REGULATION)] 1 (rm_quantity_8 l Z a0 hw []  h0 n0 H) (by decide) (by decide) rfl rfl e312 (by rw [hml]; rfl) (lenOf pd_1 rfl) (Nat.le_of_eq rfl) (hb hby at_72) 75 rfl rfl (by decide) (by decide) fun T314 X314 e314 => ?_
      refine own_pureV X314 hx hZ hown (own_w hw 14 rfl) (own_w hw 15 rfl) (notFace_of_selects (args := #[]) (mvT hZ (own_w hw 17 rfl))) (own_w hw 17 rfl) (own_w hw 16 rfl) (own_w hw 6 rfl) (own_w hw 18 rfl) (by decide) w_Role_REGULATION [(.ref w_Quantity_ACTUAL)] [] 0 (rm_spansHour_72 l Z a0 hw []  h0 n0 H) (by decide) (by decide) rfl rfl e314 E_w_Role_REGULATION (by rw [hml]; rfl) (lenOf pd_3 rfl) (Nat.le_of_eq rfl) (hb hby at_75) 78 rfl rfl (by decide) (by decide) fun T316 X316 e316 => ?_
      refine own_iload X316 hx (hb hby at_78) rfl 80 rfl ?_
      refine own_icmpN X316 hx (hb hby at_80) (teq (by decide : (0 : Int32) = (0 : Int32))).2 83 rfl ?_
      refine own_iconst X316 hx (hb hby at_83) (1 : Int32) rfl 84 rfl ?_
      refine own_goto X316 hx (hb hby at_84) 88 (by decide) (by decide) ?_
      exact own_retZ X316 hx hk hret (hb hby at_88) rfl ⟨rfl, Fr.nil _⟩ (by decide) (by decide)
    · rw [q298]
      refine own_istore_n X0 hx (hb hby at_15) #[.val (.int x0), .val (.int x1), .val (.int (8 : Int32)), .val (.int (3 : Int32)), .unset, .unset, .unset] rfl 16 rfl ?_
      refine own_iload_n X0 hx (hb hby at_16) rfl 17 rfl ?_
      refine own_ifN X0 hx (hb hby at_17) ((if0 _ _).trans (feq (by decide : ¬ ((3 : Int32) = (0 : Int32)))).1) 20 rfl ?_
      refine own_iload_n X0 hx (hb hby at_20) rfl 21 rfl ?_
      refine own_iconst X0 hx (hb hby at_21) (5 : Int32) rfl 22 rfl ?_
      refine own_icmpY X0 hx (hb hby at_22) (feq (by decide : ¬ ((3 : Int32) = (5 : Int32)))).2 29 (by decide) (by decide) ?_
      refine own_iconst X0 hx (hb hby at_29) (0 : Int32) rfl 30 rfl ?_
      refine own_istore X0 hx (hb hby at_30) #[.val (.int x0), .val (.int x1), .val (.int (8 : Int32)), .val (.int (3 : Int32)), .val (.int (0 : Int32)), .unset, .unset] rfl 32 rfl ?_
      refine own_iload_n X0 hx (hb hby at_32) rfl 33 rfl ?_
      refine own_iconst X0 hx (hb hby at_33) (4 : Int32) rfl 34 rfl ?_
      refine own_icmpN X0 hx (hb hby at_34) (flt (by decide : ¬ ((8 : Int32) < (4 : Int32)))).1 37 rfl ?_
      refine own_iload_n X0 hx (hb hby at_37) rfl 38 rfl ?_
      refine own_bipush X0 hx (hb hby at_38) (7 : Int32) rfl 40 rfl ?_
      refine own_icmpY X0 hx (hb hby at_40) (tlt (by decide : (7 : Int32) < (8 : Int32))).2.2.1 47 (by decide) (by decide) ?_
      refine own_iconst X0 hx (hb hby at_47) (0 : Int32) rfl 48 rfl ?_
      refine own_istore X0 hx (hb hby at_48) #[.val (.int x0), .val (.int x1), .val (.int (8 : Int32)), .val (.int (3 : Int32)), .val (.int (0 : Int32)), .val (.int (0 : Int32)), .unset] rfl 50 rfl ?_
      refine own_iload X0 hx (hb hby at_50) rfl 52 rfl ?_
      refine own_ifN X0 hx (hb hby at_52) ((if0 _ _).trans (teq (by decide : (0 : Int32) = (0 : Int32))).2) 55 rfl ?_
      refine own_iload X0 hx (hb hby at_55) rfl 57 rfl ?_
      refine own_ifY X0 hx (hb hby at_57) ((if0 _ _).trans (teq (by decide : (0 : Int32) = (0 : Int32))).1) 64 (by decide) (by decide) ?_
      refine own_iconst X0 hx (hb hby at_64) (0 : Int32) rfl 65 rfl ?_
      refine own_istore X0 hx (hb hby at_65) #[.val (.int x0), .val (.int x1), .val (.int (8 : Int32)), .val (.int (3 : Int32)), .val (.int (0 : Int32)), .val (.int (0 : Int32)), .val (.int (0 : Int32))] rfl 67 rfl ?_
      refine own_iload_n X0 hx (hb hby at_67) rfl 68 rfl ?_
      refine own_pureS X0 hx hZ hown (own_w hw 1 rfl) (own_w hw 2 rfl) (own_w hw 3 rfl) (own_w hw 4 rfl) (by decide) [(.int (8 : Int32))] [] 0 (rm_role_69 l Z a0 hw []  h0 n0 H) (by decide) (by decide) rfl rfl e0 (by rw [hml]; rfl) (lenOf pd_0 rfl) (Nat.le_of_eq rfl) (hb hby at_68) 71 rfl rfl (by decide) (by decide) fun T318 X318 e318 => ?_
      refine own_iload_n X318 hx (hb hby at_71) rfl 72 rfl ?_
      refine own_pureS X318 hx hZ hown (own_w hw 8 rfl) (own_w hw 9 rfl) (own_w hw 3 rfl) (own_w hw 10 rfl) (by decide) [(.int (3 : Int32))] [(.ref w_Role_REGULATION)] 1 (rm_quantity_11 l Z a0 hw []  h0 n0 H) (by decide) (by decide) rfl rfl e318 (by rw [hml]; rfl) (lenOf pd_1 rfl) (Nat.le_of_eq rfl) (hb hby at_72) 75 rfl rfl (by decide) (by decide) fun T320 X320 e320 => ?_
      refine own_pureV X320 hx hZ hown (own_w hw 14 rfl) (own_w hw 15 rfl) (notFace_of_selects (args := #[]) (mvT hZ (own_w hw 17 rfl))) (own_w hw 17 rfl) (own_w hw 16 rfl) (own_w hw 6 rfl) (own_w hw 18 rfl) (by decide) w_Role_REGULATION [(.ref w_Quantity_MOVEMENT)] [] 0 (rm_spansHour_73 l Z a0 hw []  h0 n0 H) (by decide) (by decide) rfl rfl e320 E_w_Role_REGULATION (by rw [hml]; rfl) (lenOf pd_3 rfl) (Nat.le_of_eq rfl) (hb hby at_75) 78 rfl rfl (by decide) (by decide) fun T322 X322 e322 => ?_
      refine own_iload X322 hx (hb hby at_78) rfl 80 rfl ?_
      refine own_icmpN X322 hx (hb hby at_80) (teq (by decide : (0 : Int32) = (0 : Int32))).2 83 rfl ?_
      refine own_iconst X322 hx (hb hby at_83) (1 : Int32) rfl 84 rfl ?_
      refine own_goto X322 hx (hb hby at_84) 88 (by decide) (by decide) ?_
      exact own_retZ X322 hx hk hret (hb hby at_88) rfl ⟨rfl, Fr.nil _⟩ (by decide) (by decide)
    · rw [q298]
      refine own_istore_n X0 hx (hb hby at_15) #[.val (.int x0), .val (.int x1), .val (.int (8 : Int32)), .val (.int (4 : Int32)), .unset, .unset, .unset] rfl 16 rfl ?_
      refine own_iload_n X0 hx (hb hby at_16) rfl 17 rfl ?_
      refine own_ifN X0 hx (hb hby at_17) ((if0 _ _).trans (feq (by decide : ¬ ((4 : Int32) = (0 : Int32)))).1) 20 rfl ?_
      refine own_iload_n X0 hx (hb hby at_20) rfl 21 rfl ?_
      refine own_iconst X0 hx (hb hby at_21) (5 : Int32) rfl 22 rfl ?_
      refine own_icmpY X0 hx (hb hby at_22) (feq (by decide : ¬ ((4 : Int32) = (5 : Int32)))).2 29 (by decide) (by decide) ?_
      refine own_iconst X0 hx (hb hby at_29) (0 : Int32) rfl 30 rfl ?_
      refine own_istore X0 hx (hb hby at_30) #[.val (.int x0), .val (.int x1), .val (.int (8 : Int32)), .val (.int (4 : Int32)), .val (.int (0 : Int32)), .unset, .unset] rfl 32 rfl ?_
      refine own_iload_n X0 hx (hb hby at_32) rfl 33 rfl ?_
      refine own_iconst X0 hx (hb hby at_33) (4 : Int32) rfl 34 rfl ?_
      refine own_icmpN X0 hx (hb hby at_34) (flt (by decide : ¬ ((8 : Int32) < (4 : Int32)))).1 37 rfl ?_
      refine own_iload_n X0 hx (hb hby at_37) rfl 38 rfl ?_
      refine own_bipush X0 hx (hb hby at_38) (7 : Int32) rfl 40 rfl ?_
      refine own_icmpY X0 hx (hb hby at_40) (tlt (by decide : (7 : Int32) < (8 : Int32))).2.2.1 47 (by decide) (by decide) ?_
      refine own_iconst X0 hx (hb hby at_47) (0 : Int32) rfl 48 rfl ?_
      refine own_istore X0 hx (hb hby at_48) #[.val (.int x0), .val (.int x1), .val (.int (8 : Int32)), .val (.int (4 : Int32)), .val (.int (0 : Int32)), .val (.int (0 : Int32)), .unset] rfl 50 rfl ?_
      refine own_iload X0 hx (hb hby at_50) rfl 52 rfl ?_
      refine own_ifN X0 hx (hb hby at_52) ((if0 _ _).trans (teq (by decide : (0 : Int32) = (0 : Int32))).2) 55 rfl ?_
      refine own_iload X0 hx (hb hby at_55) rfl 57 rfl ?_
      refine own_ifY X0 hx (hb hby at_57) ((if0 _ _).trans (teq (by decide : (0 : Int32) = (0 : Int32))).1) 64 (by decide) (by decide) ?_
      refine own_iconst X0 hx (hb hby at_64) (0 : Int32) rfl 65 rfl ?_
      refine own_istore X0 hx (hb hby at_65) #[.val (.int x0), .val (.int x1), .val (.int (8 : Int32)), .val (.int (4 : Int32)), .val (.int (0 : Int32)), .val (.int (0 : Int32)), .val (.int (0 : Int32))] rfl 67 rfl ?_
      refine own_iload_n X0 hx (hb hby at_67) rfl 68 rfl ?_
      refine own_pureS X0 hx hZ hown (own_w hw 1 rfl) (own_w hw 2 rfl) (own_w hw 3 rfl) (own_w hw 4 rfl) (by decide) [(.int (8 : Int32))] [] 0 (rm_role_69 l Z a0 hw []  h0 n0 H) (by decide) (by decide) rfl rfl e0 (by rw [hml]; rfl) (lenOf pd_0 rfl) (Nat.le_of_eq rfl) (hb hby at_68) 71 rfl rfl (by decide) (by decide) fun T324 X324 e324 => ?_
      refine own_iload_n X324 hx (hb hby at_71) rfl 72 rfl ?_
      refine own_pureS X324 hx hZ hown (own_w hw 8 rfl) (own_w hw 9 rfl) (own_w hw 3 rfl) (own_w hw 10 rfl) (by decide) [(.int (4 : Int32))] [(.ref w_Role_REGULATION)] 1 (rm_quantity_14 l Z a0 hw []  h0 n0 H) (by decide) (by decide) rfl rfl e324 (by rw [hml]; rfl) (lenOf pd_1 rfl) (Nat.le_of_eq rfl) (hb hby at_72) 75 rfl rfl (by decide) (by decide) fun T326 X326 e326 => ?_
      refine own_pureV X326 hx hZ hown (own_w hw 14 rfl) (own_w hw 15 rfl) (notFace_of_selects (args := #[]) (mvT hZ (own_w hw 17 rfl))) (own_w hw 17 rfl) (own_w hw 16 rfl) (own_w hw 6 rfl) (own_w hw 18 rfl) (by decide) w_Role_REGULATION [(.ref w_Quantity_PERFORMANCE)] [] 0 (rm_spansHour_74 l Z a0 hw []  h0 n0 H) (by decide) (by decide) rfl rfl e326 E_w_Role_REGULATION (by rw [hml]; rfl) (lenOf pd_3 rfl) (Nat.le_of_eq rfl) (hb hby at_75) 78 rfl rfl (by decide) (by decide) fun T328 X328 e328 => ?_
      refine own_iload X328 hx (hb hby at_78) rfl 80 rfl ?_
      refine own_icmpN X328 hx (hb hby at_80) (teq (by decide : (0 : Int32) = (0 : Int32))).2 83 rfl ?_
      refine own_iconst X328 hx (hb hby at_83) (1 : Int32) rfl 84 rfl ?_
      refine own_goto X328 hx (hb hby at_84) 88 (by decide) (by decide) ?_
      exact own_retZ X328 hx hk hret (hb hby at_88) rfl ⟨rfl, Fr.nil _⟩ (by decide) (by decide)
    · rw [q298]
      refine own_istore_n X0 hx (hb hby at_15) #[.val (.int x0), .val (.int x1), .val (.int (8 : Int32)), .val (.int (5 : Int32)), .unset, .unset, .unset] rfl 16 rfl ?_
      refine own_iload_n X0 hx (hb hby at_16) rfl 17 rfl ?_
      refine own_ifN X0 hx (hb hby at_17) ((if0 _ _).trans (feq (by decide : ¬ ((5 : Int32) = (0 : Int32)))).1) 20 rfl ?_
      refine own_iload_n X0 hx (hb hby at_20) rfl 21 rfl ?_
      refine own_iconst X0 hx (hb hby at_21) (5 : Int32) rfl 22 rfl ?_
      refine own_icmpN X0 hx (hb hby at_22) (teq (by decide : (5 : Int32) = (5 : Int32))).2 25 rfl ?_
      refine own_iconst X0 hx (hb hby at_25) (1 : Int32) rfl 26 rfl ?_
      refine own_goto X0 hx (hb hby at_26) 30 (by decide) (by decide) ?_
      refine own_istore X0 hx (hb hby at_30) #[.val (.int x0), .val (.int x1), .val (.int (8 : Int32)), .val (.int (5 : Int32)), .val (.int (1 : Int32)), .unset, .unset] rfl 32 rfl ?_
      refine own_iload_n X0 hx (hb hby at_32) rfl 33 rfl ?_
      refine own_iconst X0 hx (hb hby at_33) (4 : Int32) rfl 34 rfl ?_
      refine own_icmpN X0 hx (hb hby at_34) (flt (by decide : ¬ ((8 : Int32) < (4 : Int32)))).1 37 rfl ?_
      refine own_iload_n X0 hx (hb hby at_37) rfl 38 rfl ?_
      refine own_bipush X0 hx (hb hby at_38) (7 : Int32) rfl 40 rfl ?_
      refine own_icmpY X0 hx (hb hby at_40) (tlt (by decide : (7 : Int32) < (8 : Int32))).2.2.1 47 (by decide) (by decide) ?_
      refine own_iconst X0 hx (hb hby at_47) (0 : Int32) rfl 48 rfl ?_
      refine own_istore X0 hx (hb hby at_48) #[.val (.int x0), .val (.int x1), .val (.int (8 : Int32)), .val (.int (5 : Int32)), .val (.int (1 : Int32)), .val (.int (0 : Int32)), .unset] rfl 50 rfl ?_
      refine own_iload X0 hx (hb hby at_50) rfl 52 rfl ?_
      refine own_ifY X0 hx (hb hby at_52) ((if0 _ _).trans (feq (by decide : ¬ ((1 : Int32) = (0 : Int32)))).2) 60 (by decide) (by decide) ?_
      refine own_iconst X0 hx (hb hby at_60) (1 : Int32) rfl 61 rfl ?_
      refine own_goto X0 hx (hb hby at_61) 65 (by decide) (by decide) ?_
      refine own_istore X0 hx (hb hby at_65) #[.val (.int x0), .val (.int x1), .val (.int (8 : Int32)), .val (.int (5 : Int32)), .val (.int (1 : Int32)), .val (.int (0 : Int32)), .val (.int (1 : Int32))] rfl 67 rfl ?_
      refine own_iload_n X0 hx (hb hby at_67) rfl 68 rfl ?_
      refine own_pureS X0 hx hZ hown (own_w hw 1 rfl) (own_w hw 2 rfl) (own_w hw 3 rfl) (own_w hw 4 rfl) (by decide) [(.int (8 : Int32))] [] 0 (rm_role_69 l Z a0 hw []  h0 n0 H) (by decide) (by decide) rfl rfl e0 (by rw [hml]; rfl) (lenOf pd_0 rfl) (Nat.le_of_eq rfl) (hb hby at_68) 71 rfl rfl (by decide) (by decide) fun T330 X330 e330 => ?_
      refine own_iload_n X330 hx (hb hby at_71) rfl 72 rfl ?_
      refine own_pureS X330 hx hZ hown (own_w hw 8 rfl) (own_w hw 9 rfl) (own_w hw 3 rfl) (own_w hw 10 rfl) (by decide) [(.int (5 : Int32))] [(.ref w_Role_REGULATION)] 1 (rm_quantity_17 l Z a0 hw []  h0 n0 H) (by decide) (by decide) rfl rfl e330 (by rw [hml]; rfl) (lenOf pd_1 rfl) (Nat.le_of_eq rfl) (hb hby at_72) 75 rfl rfl (by decide) (by decide) fun T332 X332 e332 => ?_
      refine own_pureV X332 hx hZ hown (own_w hw 14 rfl) (own_w hw 15 rfl) (notFace_of_selects (args := #[]) (mvT hZ (own_w hw 17 rfl))) (own_w hw 17 rfl) (own_w hw 16 rfl) (own_w hw 6 rfl) (own_w hw 18 rfl) (by decide) w_Role_REGULATION [(.ref w_Quantity_BID)] [] 0 (rm_spansHour_75 l Z a0 hw []  h0 n0 H) (by decide) (by decide) rfl rfl e332 E_w_Role_REGULATION (by rw [hml]; rfl) (lenOf pd_3 rfl) (Nat.le_of_eq rfl) (hb hby at_75) 78 rfl rfl (by decide) (by decide) fun T334 X334 e334 => ?_
      refine own_iload X334 hx (hb hby at_78) rfl 80 rfl ?_
      refine own_icmpN X334 hx (hb hby at_80) (teq (by decide : (1 : Int32) = (1 : Int32))).2 83 rfl ?_
      refine own_iconst X334 hx (hb hby at_83) (1 : Int32) rfl 84 rfl ?_
      refine own_goto X334 hx (hb hby at_84) 88 (by decide) (by decide) ?_
      exact own_retZ X334 hx hk hret (hb hby at_88) rfl ⟨rfl, Fr.nil _⟩ (by decide) (by decide)
set_option maxRecDepth 65536 in
set_option maxHeartbeats 40000000 in
theorem comes_1 {Post : Tables → Env → Array Value → State → Outcome → State → Prop} (hpost : ∀ tb e args s v u, (limb_1_1.after args s (.returned v) u = true ∧ limb_1_2.after args s (.returned v) u = true ∧ True) → FrameEnd s (.returned v) u (Jvm.fieldLocs frame_1_writes args s ++ Jvm.arrayLocs frame_1_arrays args s ++ Jvm.staticLocs frame_1_statics s) 0 0 → Post tb e args s (.returned v) u) :
    ArmFor flags0 classFile x code maxLocals ret World_1 tables_1 room_1 Calls_1 rest_1 Pre_1 Post := by
  intro l hfl _ _ p e ha hc hk s m args below hf hA hF happ hP
  obtain ⟨hcalls, hrest, hpre⟩ := hP
  obtain ⟨-, -, -, hnamed, -, -, -, hat⟩ := (Spec.applies_iff hf).mp happ
  obtain ⟨hg, hn⟩ := and_e (Cond.before_iff.mp (show (Jvm.Cond.and given_1 narrow_1).before args s = true from hpre))
  obtain ⟨hn101a, hn101b⟩ := and_e hg
  obtain ⟨hn102a, hn102b⟩ := and_e hn101b
  obtain ⟨w0, w1, rfl⟩ : ∃ w0 w1 : Value, args = #[w0, w1] := by
    have hs : args.size = 2 := by simpa [Cond.value, given_1] using hn101a
    obtain ⟨L⟩ := args
    match L, hs with
    | [w0, w1], _ => exact ⟨w0, w1, rfl⟩
  have hw := fun d (hd : d ∈ tables_1) => atoms_spec (ws := Jvm.Cond.code x code maxLocals ret :: tables_1) hat d (List.mem_cons_of_mem _ hd)
  have hfit : Fit s := fun {y c} hc i hi => by
    obtain ⟨ha, rfl⟩ := Array.getElem?_eq_some_iff.mp hc
    have q := List.all_eq_true.mp ((Array.all_eq_true_iff_forall_mem.mp hF) _ (Array.getElem_mem ha)) i (List.mem_range.mpr hi)
    simpa [Array.getElem?_eq_getElem hi] using q
  obtain ⟨i0, ei0⟩ := is_v hn102a
  obtain rfl : w0 = (.int i0) := Option.some.inj ei0
  obtain ⟨i1, ei1⟩ := is_v hn102b
  obtain rfl : w1 = (.int i1) := Option.some.inj ei1
  obtain ⟨hn1a, hn1b⟩ := and_e hn
  obtain ⟨hn2a, hn2b⟩ := and_e hn1b
  obtain ⟨hn3a, hn3b⟩ := and_e hn2b
  obtain ⟨hn4a, hn4b⟩ := and_e hn3b
  obtain ⟨hn5a, hn5b⟩ := and_e hn4b
  obtain ⟨hn6a, hn6b⟩ := and_e hn5b
  obtain ⟨hn7a, hn7b⟩ := and_e hn6b
  obtain ⟨hn8a, hn8b⟩ := and_e hn7b
  obtain ⟨hn9a, hn9b⟩ := and_e hn8b
  obtain ⟨hn10a, hn10b⟩ := and_e hn9b
  obtain ⟨hn11a, hn11b⟩ := and_e hn10b
  obtain ⟨hn12a, hn12b⟩ := and_e hn11b
  obtain ⟨hn13a, hn13b⟩ := and_e hn12b
  obtain ⟨hn14a, hn14b⟩ := and_e hn13b
  obtain ⟨hn15a, hn15b⟩ := and_e hn14b
  obtain ⟨hn16a, hn16b⟩ := and_e hn15b
  obtain ⟨hn17a, hn17b⟩ := and_e hn16b
  obtain ⟨hn18a, hn18b⟩ := and_e hn17b
  obtain ⟨hn19a, hn19b⟩ := and_e hn18b
  obtain ⟨hn20a, hn20b⟩ := and_e hn19b
  obtain ⟨hn21a, hn21b⟩ := and_e hn20b
  obtain ⟨hn22a, hn22b⟩ := and_e hn21b
  obtain ⟨hn23a, hn23b⟩ := and_e hn22b
  obtain ⟨hn24a, hn24b⟩ := and_e hn23b
  obtain ⟨hn25a, hn25b⟩ := and_e hn24b
  obtain ⟨hn26a, hn26b⟩ := and_e hn25b
  obtain ⟨hn27a, hn27b⟩ := and_e hn26b
  obtain ⟨hn28a, hn28b⟩ := and_e hn27b
  obtain ⟨hn29a, hn29b⟩ := and_e hn28b
  obtain ⟨hn30a, hn30b⟩ := and_e hn29b
  obtain ⟨hn31a, hn31b⟩ := and_e hn30b
  obtain ⟨hn32a, hn32b⟩ := and_e hn31b
  obtain ⟨hn33a, hn33b⟩ := and_e hn32b
  obtain ⟨w_Role_LOAD, ev_w_Role_LOAD⟩ := exa_v hn1a
  have S_w_Role_LOAD := Sta.start ev_w_Role_LOAD (Or.inr ⟨(own_w hw 6 rfl), (own_w hw 7 rfl)⟩)
  have E_w_Role_LOAD := Exa.start ev_w_Role_LOAD hn1a
  obtain ⟨w_Quantity_MOVEMENT, ev_w_Quantity_MOVEMENT⟩ := exa_v hn2a
  have S_w_Quantity_MOVEMENT := Sta.start ev_w_Quantity_MOVEMENT (Or.inr ⟨(own_w hw 12 rfl), (own_w hw 13 rfl)⟩)
  have E_w_Quantity_MOVEMENT := Exa.start ev_w_Quantity_MOVEMENT hn2a
  obtain ⟨w_Role_Period_INTERVAL, ev_w_Role_Period_INTERVAL⟩ := exa_v hn4a
  have S_w_Role_Period_INTERVAL := Sta.start ev_w_Role_Period_INTERVAL (Or.inr ⟨(own_w hw 28 rfl), (own_w hw 29 rfl)⟩)
  have E_w_Role_Period_INTERVAL := Exa.start ev_w_Role_Period_INTERVAL hn4a
  obtain ⟨w_Role_Period_HOUR, ev_w_Role_Period_HOUR⟩ := exa_v hn6a
  have S_w_Role_Period_HOUR := Sta.start ev_w_Role_Period_HOUR (Or.inr ⟨(own_w hw 28 rfl), (own_w hw 31 rfl)⟩)
  have E_w_Role_Period_HOUR := Exa.start ev_w_Role_Period_HOUR hn6a
  obtain ⟨w_Role_VIRTUAL_LOAD, ev_w_Role_VIRTUAL_LOAD⟩ := exa_v hn9a
  have S_w_Role_VIRTUAL_LOAD := Sta.start ev_w_Role_VIRTUAL_LOAD (Or.inr ⟨(own_w hw 6 rfl), (own_w hw 33 rfl)⟩)
  have E_w_Role_VIRTUAL_LOAD := Exa.start ev_w_Role_VIRTUAL_LOAD hn9a
  obtain ⟨w_Quantity_RT, ev_w_Quantity_RT⟩ := exa_v hn10a
  have S_w_Quantity_RT := Sta.start ev_w_Quantity_RT (Or.inr ⟨(own_w hw 12 rfl), (own_w hw 35 rfl)⟩)
  have E_w_Quantity_RT := Exa.start ev_w_Quantity_RT hn10a
  obtain ⟨w_Quantity_BID, ev_w_Quantity_BID⟩ := exa_v hn13a
  have S_w_Quantity_BID := Sta.start ev_w_Quantity_BID (Or.inr ⟨(own_w hw 12 rfl), (own_w hw 37 rfl)⟩)
  have E_w_Quantity_BID := Exa.start ev_w_Quantity_BID hn13a
  obtain ⟨w_Quantity_ACTUAL, ev_w_Quantity_ACTUAL⟩ := exa_v hn15a
  have S_w_Quantity_ACTUAL := Sta.start ev_w_Quantity_ACTUAL (Or.inr ⟨(own_w hw 12 rfl), (own_w hw 39 rfl)⟩)
  have E_w_Quantity_ACTUAL := Exa.start ev_w_Quantity_ACTUAL hn15a
  obtain ⟨w_Role_VIRTUAL_SUPPLY, ev_w_Role_VIRTUAL_SUPPLY⟩ := exa_v hn17a
  have S_w_Role_VIRTUAL_SUPPLY := Sta.start ev_w_Role_VIRTUAL_SUPPLY (Or.inr ⟨(own_w hw 6 rfl), (own_w hw 41 rfl)⟩)
  have E_w_Role_VIRTUAL_SUPPLY := Exa.start ev_w_Role_VIRTUAL_SUPPLY hn17a
  obtain ⟨w_Quantity_DA, ev_w_Quantity_DA⟩ := exa_v hn18a
  have S_w_Quantity_DA := Sta.start ev_w_Quantity_DA (Or.inr ⟨(own_w hw 12 rfl), (own_w hw 43 rfl)⟩)
  have E_w_Quantity_DA := Exa.start ev_w_Quantity_DA hn18a
  obtain ⟨w_Role_SUPPLIER, ev_w_Role_SUPPLIER⟩ := exa_v hn20a
  have S_w_Role_SUPPLIER := Sta.start ev_w_Role_SUPPLIER (Or.inr ⟨(own_w hw 6 rfl), (own_w hw 45 rfl)⟩)
  have E_w_Role_SUPPLIER := Exa.start ev_w_Role_SUPPLIER hn20a
  obtain ⟨w_Role_HUB_POI, ev_w_Role_HUB_POI⟩ := exa_v hn22a
  have S_w_Role_HUB_POI := Sta.start ev_w_Role_HUB_POI (Or.inr ⟨(own_w hw 6 rfl), (own_w hw 47 rfl)⟩)
  have E_w_Role_HUB_POI := Exa.start ev_w_Role_HUB_POI hn22a
  obtain ⟨w_Quantity_PERFORMANCE, ev_w_Quantity_PERFORMANCE⟩ := exa_v hn23a
  have S_w_Quantity_PERFORMANCE := Sta.start ev_w_Quantity_PERFORMANCE (Or.inr ⟨(own_w hw 12 rfl), (own_w hw 49 rfl)⟩)
  have E_w_Quantity_PERFORMANCE := Exa.start ev_w_Quantity_PERFORMANCE hn23a
  obtain ⟨w_Role_REGULATION, ev_w_Role_REGULATION⟩ := exa_v hn26a
  have S_w_Role_REGULATION := Sta.start ev_w_Role_REGULATION (Or.inr ⟨(own_w hw 6 rfl), (own_w hw 51 rfl)⟩)
  have E_w_Role_REGULATION := Exa.start ev_w_Role_REGULATION hn26a
  obtain ⟨w_Role_EXPORT, ev_w_Role_EXPORT⟩ := exa_v hn28a
  have S_w_Role_EXPORT := Sta.start ev_w_Role_EXPORT (Or.inr ⟨(own_w hw 6 rfl), (own_w hw 53 rfl)⟩)
  have E_w_Role_EXPORT := Exa.start ev_w_Role_EXPORT hn28a
  obtain ⟨w_Role_IMPORT, ev_w_Role_IMPORT⟩ := exa_v hn29a
  have S_w_Role_IMPORT := Sta.start ev_w_Role_IMPORT (Or.inr ⟨(own_w hw 6 rfl), (own_w hw 55 rfl)⟩)
  have E_w_Role_IMPORT := Exa.start ev_w_Role_IMPORT hn29a
  obtain ⟨w_Role_HUB_POW, ev_w_Role_HUB_POW⟩ := exa_v hn33a
  have S_w_Role_HUB_POW := Sta.start ev_w_Role_HUB_POW (Or.inr ⟨(own_w hw 6 rfl), (own_w hw 57 rfl)⟩)
  have E_w_Role_HUB_POW := Exa.start ev_w_Role_HUB_POW hn33a
  have F_w_Quantity_MOVEMENT_hourly := own_fldI ev_w_Quantity_MOVEMENT hn3a
  have F_w_Role_LOAD_period := own_fldR ev_w_Role_LOAD ev_w_Role_Period_INTERVAL hn5a
  have F_w_Role_Period_INTERVAL_ordinal := own_fldI ev_w_Role_Period_INTERVAL hn7a
  have F_w_Role_Period_HOUR_ordinal := own_fldI ev_w_Role_Period_HOUR hn8a
  have F_w_Quantity_RT_hourly := own_fldI ev_w_Quantity_RT hn11a
  have F_w_Role_VIRTUAL_LOAD_period := own_fldR ev_w_Role_VIRTUAL_LOAD ev_w_Role_Period_HOUR hn12a
  have F_w_Quantity_BID_hourly := own_fldI ev_w_Quantity_BID hn14a
  have F_w_Quantity_ACTUAL_hourly := own_fldI ev_w_Quantity_ACTUAL hn16a
  have F_w_Quantity_DA_hourly := own_fldI ev_w_Quantity_DA hn19a
  have F_w_Role_SUPPLIER_period := own_fldR ev_w_Role_SUPPLIER ev_w_Role_Period_INTERVAL hn21a
  have F_w_Quantity_PERFORMANCE_hourly := own_fldI ev_w_Quantity_PERFORMANCE hn24a
  have F_w_Role_HUB_POI_period := own_fldR ev_w_Role_HUB_POI ev_w_Role_Period_HOUR hn25a
  have F_w_Role_REGULATION_period := own_fldR ev_w_Role_REGULATION ev_w_Role_Period_INTERVAL hn27a
  have F_w_Role_IMPORT_period := own_fldR ev_w_Role_IMPORT ev_w_Role_Period_INTERVAL hn30a
  have F_w_Role_EXPORT_period := own_fldR ev_w_Role_EXPORT ev_w_Role_Period_INTERVAL hn31a
  have F_w_Role_VIRTUAL_SUPPLY_period := own_fldR ev_w_Role_VIRTUAL_SUPPLY ev_w_Role_Period_HOUR hn32a
  have F_w_Role_HUB_POW_period := own_fldR ev_w_Role_HUB_POW ev_w_Role_Period_HOUR hn33b
  have ne_w_Role_Period_HOUR_w_Role_Period_INTERVAL : w_Role_Period_HOUR ≠ w_Role_Period_INTERVAL := Fld.ne F_w_Role_Period_HOUR_ordinal F_w_Role_Period_INTERVAL_ordinal (by intro q; cases q)
  obtain ⟨n, o, h1, h2, h3, _, L, rfl, ⟨rfl, N⟩, hq⟩ := rm0 l s _ hw tables_1 i0 i1 s.heap s.heap.size (show own_C s s.heap w_Role_LOAD w_Quantity_MOVEMENT w_Role_Period_INTERVAL w_Role_Period_HOUR w_Role_VIRTUAL_LOAD w_Quantity_RT w_Quantity_BID w_Quantity_ACTUAL w_Role_VIRTUAL_SUPPLY w_Quantity_DA w_Role_SUPPLIER w_Role_HUB_POI w_Quantity_PERFORMANCE w_Role_REGULATION w_Role_EXPORT w_Role_IMPORT w_Role_HUB_POW from ⟨S_w_Role_LOAD, E_w_Role_LOAD, S_w_Quantity_MOVEMENT, E_w_Quantity_MOVEMENT, S_w_Role_Period_INTERVAL, E_w_Role_Period_INTERVAL, S_w_Role_Period_HOUR, E_w_Role_Period_HOUR, S_w_Role_VIRTUAL_LOAD, E_w_Role_VIRTUAL_LOAD, S_w_Quantity_RT, E_w_Quantity_RT, S_w_Quantity_BID, E_w_Quantity_BID, S_w_Quantity_ACTUAL, E_w_Quantity_ACTUAL, S_w_Role_VIRTUAL_SUPPLY, E_w_Role_VIRTUAL_SUPPLY, S_w_Quantity_DA, E_w_Quantity_DA, S_w_Role_SUPPLIER, E_w_Role_SUPPLIER, S_w_Role_HUB_POI, E_w_Role_HUB_POI, S_w_Quantity_PERFORMANCE, E_w_Quantity_PERFORMANCE, S_w_Role_REGULATION, E_w_Role_REGULATION, S_w_Role_EXPORT, E_w_Role_EXPORT, S_w_Role_IMPORT, E_w_Role_IMPORT, S_w_Role_HUB_POW, E_w_Role_HUB_POW, F_w_Quantity_MOVEMENT_hourly, F_w_Role_LOAD_period, F_w_Role_Period_INTERVAL_ordinal, F_w_Role_Period_HOUR_ordinal, F_w_Quantity_RT_hourly, F_w_Role_VIRTUAL_LOAD_period, F_w_Quantity_BID_hourly, F_w_Quantity_ACTUAL_hourly, F_w_Quantity_DA_hourly, F_w_Role_SUPPLIER_period, F_w_Quantity_PERFORMANCE_hourly, F_w_Role_HUB_POI_period, F_w_Role_REGULATION_period, F_w_Role_IMPORT_period, F_w_Role_EXPORT_period, F_w_Role_VIRTUAL_SUPPLY_period, F_w_Role_HUB_POW_period, ne_w_Role_Period_HOUR_w_Role_Period_INTERVAL⟩) p e ha hc hk s m _ below hf ((Spec.applies_iff_loose hf).mp happ).1 ⟨rfl, State.Warmed39.refl s, rfl⟩ trivial
  refine ⟨n, _, h1, h2, h3, hpost _ _ _ _ _ _ ⟨Cond.after_iff.mpr rfl, Cond.after_iff.mpr (eq_i res_at (Term.int_eval (1)) rfl), trivial⟩ ⟨hq.1, hq.2.1, (hq.2.2.sift fun y hy => Or.inr (N y hy)).mono (by decide) (by decide)⟩⟩
theorem main_1_1 : Claimed_1_1 := comes_1 fun _ _ _ _ _ _ h hF => ⟨h.1, hF⟩
theorem main_1_2 : Claimed_1_2 := comes_1 fun _ _ _ _ _ _ h hF => ⟨h.2.1, hF⟩
end Jvm.Pilot.@@N@@
namespace Jvm.Pilot.@@N@@
open Jvm Jvm.ClassFile Sem Op Lib Jvm.Free Jvm.Stand Jvm.Pilot.@@N@@.Jvm.D
/-! MADE BY PROGRAM (witnessworld.py) out of the Statement's table words and the real class files: 14 classes; the members and pool entries that the words name. The judged class is class 1, her method 3. -/
namespace start1
open Jvm.ClassFile
def u (s : String) : CpInfo := .utf8 (stringToUtf16 s)
/-- a pool by its gaps: so many unusable entries, then the entry; so many at the end -/
def gap : Nat → List CpInfo → List CpInfo
  | 0, r => r
  | n + 1, r => .unusable :: gap n r
def poolList (es : List (Nat × CpInfo)) (last : Nat) : List CpInfo := es.foldr (fun e r => gap e.1 (e.2 :: r)) (gap last [])
def pool (es : List (Nat × CpInfo)) (last : Nat) : Array CpInfo := ⟨poolList es last⟩
def fileOf (pool : Array CpInfo) (this : Nat) (attrs : Array Attribute := #[]) (ms : Array MethodInfo := #[]) (fl : Nat := 33) (sup : Nat := 0) (ifs : Array Nat := #[]) (fds : Array FieldInfo := #[]) : ClassFile where
  minorVersion := 0
  majorVersion := 65
  constantPool := pool
  accessFlags := fl
  thisClass := this
  superClass := sup
  interfaces := ifs
  fields := fds
  methods := ms
  attributes := attrs
def plain (name : String) (sup : Option ClassId) : Class where
  name := name
  kind := .ordinary
  loader := none
  accessFlags := 33
  super := sup
  interfaces := #[]
  cf := none
  fields := #[]
  methods := #[]
  instanceTypes := #[]
  staticTypes := #[]
  resolved := #[]
  callSites := []
  init := .initialized
  statics := none
  mirror := none

def pool0 : Array CpInfo := pool [(5, u "<init>"), (0, u "()V"), (1, .class_ 10), (1, u "java/lang/Object")] 113

def k0m0 : Method := { name := "<init>", desc := "()V", sig := { parameters := [], returnType := none }, accessFlags := 1, code := none }
/-- java/lang/Object -/
def k0 : Class := { plain "java/lang/Object" none with
  accessFlags := 33
  interfaces := #[]
  cf := some (fileOf pool0 8 #[] #[{ accessFlags := 1, nameIndex := 5, descriptorIndex := 6, attributes := #[] }] 33 0 #[] #[])
  fields := #[]
  methods := #[k0m0]
  instanceTypes := #[]
  staticTypes := #[]
  resolved := Array.replicate 124 none
  statics := none }

def pool1 : Array CpInfo := pool [(2, .class_ 4), (1, u "java/lang/Object"), (0, u "<init>"), (0, u "()V"), (0, .fieldref 8 9), (0, .class_ 10), (0, .nameAndType 11 12), (0, u "com/example/gridledger/gridledger/positions/Role"), (0, u "LOAD"), (0, u "Lcom/example/gridledger/gridledger/positions/Role;"), (0, .fieldref 8 14), (0, .nameAndType 15 12), (0, u "SUPPLIER"), (0, .fieldref 8 17), (0, .nameAndType 18 12), (0, u "IMPORT"), (0, .fieldref 8 20), (0, .nameAndType 21 12), (0, u "EXPORT"), (0, .fieldref 8 23), (0, .nameAndType 24 12), (0, u "VIRTUAL_SUPPLY"), (0, .fieldref 8 26), (0, .nameAndType 27 12), (0, u "VIRTUAL_LOAD"), (0, .fieldref 8 29), (0, .nameAndType 30 12), (0, u "HUB_POI"), (0, .fieldref 8 32), (0, .nameAndType 33 12), (0, u "HUB_POW"), (0, .fieldref 8 35), (0, .nameAndType 36 12), (0, u "REGULATION"), (0, .fieldref 38 39), (0, .class_ 40), (0, .nameAndType 41 42), (0, u "com/example/gridledger/gridledger/positions/Quantity"), (0, u "DA"), (0, u "Lcom/example/gridledger/gridledger/positions/Quantity;"), (0, .fieldref 38 44), (0, .nameAndType 45 42), (0, u "RT"), (0, .fieldref 38 47), (0, .nameAndType 48 42), (0, u "ACTUAL"), (0, .fieldref 38 50), (0, .nameAndType 51 42), (0, u "MOVEMENT"), (0, .fieldref 38 53), (0, .nameAndType 54 42), (0, u "PERFORMANCE"), (0, .fieldref 38 56), (0, .nameAndType 57 42), (0, u "BID"), (0, .integer 2147483647), (0, .methodref 60 61), (0, .class_ 62), (0, .nameAndType 63 64), (0, u "com/example/gridledger/gridledger/positions/RoleSpansHourPinLaw"), (0, u "role"), (0, u "(I)Lcom/example/gridledger/gridledger/positions/Role;"), (0, .methodref 60 66), (0, .nameAndType 67 68), (0, u "quantity"), (0, u "(I)Lcom/example/gridledger/gridledger/positions/Quantity;"), (0, .methodref 8 70), (0, .nameAndType 71 72), (0, u "spansHour"), (0, u "(Lcom/example/gridledger/gridledger/positions/Quantity;)Z"), (3, u "law"), (0, u "(II)Z")] 2

def k1m0 : Method := { name := "<init>", desc := "()V", sig := { parameters := [], returnType := none }, accessFlags := 1, code := none }
def k1c1 : Code := { maxStack := 2, maxLocals := 1, code := method_2_code, exceptionTable := #[], attributes := #[] }
def k1m1 : Method := { name := "role", desc := "(I)Lcom/example/gridledger/gridledger/positions/Role;", sig := { parameters := [.int], returnType := some (.object "com/example/gridledger/gridledger/positions/Role") }, accessFlags := 10, code := some k1c1 }
def k1c2 : Code := { maxStack := 2, maxLocals := 1, code := method_3_code, exceptionTable := #[], attributes := #[] }
def k1m2 : Method := { name := "quantity", desc := "(I)Lcom/example/gridledger/gridledger/positions/Quantity;", sig := { parameters := [.int], returnType := some (.object "com/example/gridledger/gridledger/positions/Quantity") }, accessFlags := 10, code := some k1c2 }
def k1c3 : Code := { maxStack := 2, maxLocals := 7, code := code, exceptionTable := #[], attributes := #[] }
def k1m3 : Method := { name := "law", desc := "(II)Z", sig := { parameters := [.int, .int], returnType := some .boolean }, accessFlags := 9, code := some k1c3 }
/-- com/example/gridledger/gridledger/positions/RoleSpansHourPinLaw -/
def k1 : Class := { plain "com/example/gridledger/gridledger/positions/RoleSpansHourPinLaw" (some 0) with
  accessFlags := 49
  interfaces := #[]
  cf := some (fileOf pool1 60 #[] #[{ accessFlags := 1, nameIndex := 5, descriptorIndex := 6, attributes := #[] }, { accessFlags := 10, nameIndex := 63, descriptorIndex := 64, attributes := #[] }, { accessFlags := 10, nameIndex := 67, descriptorIndex := 68, attributes := #[] }, { accessFlags := 9, nameIndex := 76, descriptorIndex := 77, attributes := #[] }] 49 2 #[] #[])
  fields := #[]
  methods := #[k1m0, k1m1, k1m2, k1m3]
  instanceTypes := #[]
  staticTypes := #[]
  resolved := Array.replicate 80 none
  statics := none }

def pool2 : Array CpInfo := pool [(1, .class_ 2), (0, u "java/lang/constant/Constable"), (0, .class_ 4), (0, u "java/lang/Object")] 6

/-- java/lang/constant/Constable -/
def k2 : Class := { plain "java/lang/constant/Constable" (some 0) with
  accessFlags := 1537
  interfaces := #[]
  cf := some (fileOf pool2 1 #[] #[] 1537 3 #[] #[])
  fields := #[]
  methods := #[]
  instanceTypes := #[]
  staticTypes := #[]
  resolved := Array.replicate 11 none
  statics := none }

def pool3 : Array CpInfo := pool [(1, .class_ 2), (0, u "java/lang/Comparable"), (0, .class_ 4), (0, u "java/lang/Object")] 7

/-- java/lang/Comparable -/
def k3 : Class := { plain "java/lang/Comparable" (some 0) with
  accessFlags := 1537
  interfaces := #[]
  cf := some (fileOf pool3 1 #[] #[] 1537 3 #[] #[])
  fields := #[]
  methods := #[]
  instanceTypes := #[]
  staticTypes := #[]
  resolved := Array.replicate 12 none
  statics := none }

def pool4 : Array CpInfo := pool [(1, .class_ 2), (0, u "java/io/Serializable"), (0, .class_ 4), (0, u "java/lang/Object")] 2

/-- java/io/Serializable -/
def k4 : Class := { plain "java/io/Serializable" (some 0) with
  accessFlags := 1537
  interfaces := #[]
  cf := some (fileOf pool4 1 #[] #[] 1537 3 #[] #[])
  fields := #[]
  methods := #[]
  instanceTypes := #[]
  staticTypes := #[]
  resolved := Array.replicate 7 none
  statics := none }

def pool5 : Array CpInfo := pool [(2, .class_ 4), (1, u "java/lang/Enum"), (0, u "name"), (0, u "Ljava/lang/String;"), (2, u "ordinal"), (0, u "I"), (1, .class_ 14), (1, u "java/lang/Object"), (4, u "hash"), (86, .class_ 108), (1, u "java/lang/Enum$EnumDesc"), (2, .class_ 112), (0, u "java/lang/constant/Constable"), (0, .class_ 114), (0, u "java/lang/Comparable"), (0, .class_ 116), (0, u "java/io/Serializable")] 87

/-- java/lang/Enum -/
def k5 : Class := { plain "java/lang/Enum" (some 0) with
  accessFlags := 1057
  interfaces := #[2, 3, 4]
  cf := some (fileOf pool5 2 #[.nestMembers #[106]] #[] 1057 12 #[111, 113, 115] #[{ accessFlags := 18, nameIndex := 5, descriptorIndex := 6, attributes := #[] }, { accessFlags := 18, nameIndex := 9, descriptorIndex := 10, attributes := #[] }, { accessFlags := 2, nameIndex := 19, descriptorIndex := 10, attributes := #[] }])
  fields := #[{ name := "name", type := (.object "java/lang/String"), accessFlags := 18, slot := 0, constantValue := 0 }, { name := "ordinal", type := .int, accessFlags := 18, slot := 1, constantValue := 0 }, { name := "hash", type := .int, accessFlags := 2, slot := 2, constantValue := 0 }]
  methods := #[]
  instanceTypes := #[(.object "java/lang/String"), .int, .int]
  staticTypes := #[]
  resolved := Array.replicate 204 none
  statics := none }

def pool6 : Array CpInfo := pool [(1, .class_ 2), (0, u "com/example/gridledger/gridledger/positions/Role"), (2, u "LOAD"), (0, u "Lcom/example/gridledger/gridledger/positions/Role;"), (2, u "SUPPLIER"), (2, u "IMPORT"), (2, u "EXPORT"), (2, u "VIRTUAL_SUPPLY"), (2, u "VIRTUAL_LOAD"), (2, u "HUB_POI"), (2, u "HUB_POW"), (2, u "REGULATION"), (2, u "$VALUES"), (0, u "[Lcom/example/gridledger/gridledger/positions/Role;"), (6, .class_ 43), (1, u "java/lang/Enum"), (8, u "label"), (0, u "Ljava/lang/String;"), (2, u "service"), (0, u "Lcom/example/gridledger/gridledger/positions/Role$Service;"), (0, .fieldref 1 59), (0, .nameAndType 60 61), (0, u "period"), (0, u "Lcom/example/gridledger/gridledger/positions/Role$Period;"), (2, u "settled"), (0, u "Lcom/example/gridledger/gridledger/positions/Quantity;"), (8, u "quantities"), (0, u "Ljava/util/Set;"), (0, .class_ 77), (0, u "com/example/gridledger/gridledger/positions/Quantity"), (38, u "intervalQuantities"), (0, .methodref 76 118), (0, .nameAndType 119 120), (0, u "hourly"), (0, u "()Z"), (0, .fieldref 122 123), (0, .class_ 124), (0, .nameAndType 125 61), (0, u "com/example/gridledger/gridledger/positions/Role$Period"), (0, u "HOUR"), (2, u "spansHour"), (0, u "(Lcom/example/gridledger/gridledger/positions/Quantity;)Z"), (4, .class_ 136), (1, u "com/example/gridledger/gridledger/positions/Role$Service")] 120

def k6c0 : Code := { maxStack := 2, maxLocals := 2, code := prog_41_method_10_code, exceptionTable := #[], attributes := #[] }
def k6m0 : Method := { name := "spansHour", desc := "(Lcom/example/gridledger/gridledger/positions/Quantity;)Z", sig := { parameters := [(.object "com/example/gridledger/gridledger/positions/Quantity")], returnType := some .boolean }, accessFlags := 1, code := some k6c0 }
/-- com/example/gridledger/gridledger/positions/Role -/
def k6 : Class := { plain "com/example/gridledger/gridledger/positions/Role" (some 5) with
  accessFlags := 16433
  interfaces := #[]
  cf := some (fileOf pool6 1 #[.nestMembers #[122, 134]] #[{ accessFlags := 1, nameIndex := 128, descriptorIndex := 129, attributes := #[] }] 16433 41 #[] #[{ accessFlags := 16409, nameIndex := 5, descriptorIndex := 6, attributes := #[] }, { accessFlags := 16409, nameIndex := 9, descriptorIndex := 6, attributes := #[] }, { accessFlags := 16409, nameIndex := 12, descriptorIndex := 6, attributes := #[] }, { accessFlags := 16409, nameIndex := 15, descriptorIndex := 6, attributes := #[] }, { accessFlags := 16409, nameIndex := 18, descriptorIndex := 6, attributes := #[] }, { accessFlags := 16409, nameIndex := 21, descriptorIndex := 6, attributes := #[] }, { accessFlags := 16409, nameIndex := 24, descriptorIndex := 6, attributes := #[] }, { accessFlags := 16409, nameIndex := 27, descriptorIndex := 6, attributes := #[] }, { accessFlags := 16409, nameIndex := 30, descriptorIndex := 6, attributes := #[] }, { accessFlags := 18, nameIndex := 52, descriptorIndex := 53, attributes := #[] }, { accessFlags := 18, nameIndex := 56, descriptorIndex := 57, attributes := #[] }, { accessFlags := 18, nameIndex := 60, descriptorIndex := 61, attributes := #[] }, { accessFlags := 18, nameIndex := 64, descriptorIndex := 65, attributes := #[] }, { accessFlags := 18, nameIndex := 74, descriptorIndex := 75, attributes := #[] }, { accessFlags := 18, nameIndex := 116, descriptorIndex := 75, attributes := #[] }, { accessFlags := 4122, nameIndex := 33, descriptorIndex := 34, attributes := #[] }])
  fields := #[{ name := "LOAD", type := (.object "com/example/gridledger/gridledger/positions/Role"), accessFlags := 16409, slot := 0, constantValue := 0 }, { name := "SUPPLIER", type := (.object "com/example/gridledger/gridledger/positions/Role"), accessFlags := 16409, slot := 1, constantValue := 0 }, { name := "IMPORT", type := (.object "com/example/gridledger/gridledger/positions/Role"), accessFlags := 16409, slot := 2, constantValue := 0 }, { name := "EXPORT", type := (.object "com/example/gridledger/gridledger/positions/Role"), accessFlags := 16409, slot := 3, constantValue := 0 }, { name := "VIRTUAL_SUPPLY", type := (.object "com/example/gridledger/gridledger/positions/Role"), accessFlags := 16409, slot := 4, constantValue := 0 }, { name := "VIRTUAL_LOAD", type := (.object "com/example/gridledger/gridledger/positions/Role"), accessFlags := 16409, slot := 5, constantValue := 0 }, { name := "HUB_POI", type := (.object "com/example/gridledger/gridledger/positions/Role"), accessFlags := 16409, slot := 6, constantValue := 0 }, { name := "HUB_POW", type := (.object "com/example/gridledger/gridledger/positions/Role"), accessFlags := 16409, slot := 7, constantValue := 0 }, { name := "REGULATION", type := (.object "com/example/gridledger/gridledger/positions/Role"), accessFlags := 16409, slot := 8, constantValue := 0 }, { name := "label", type := (.object "java/lang/String"), accessFlags := 18, slot := 3, constantValue := 0 }, { name := "service", type := (.object "com/example/gridledger/gridledger/positions/Role$Service"), accessFlags := 18, slot := 4, constantValue := 0 }, { name := "period", type := (.object "com/example/gridledger/gridledger/positions/Role$Period"), accessFlags := 18, slot := 5, constantValue := 0 }, { name := "settled", type := (.object "com/example/gridledger/gridledger/positions/Quantity"), accessFlags := 18, slot := 6, constantValue := 0 }, { name := "quantities", type := (.object "java/util/Set"), accessFlags := 18, slot := 7, constantValue := 0 }, { name := "intervalQuantities", type := (.object "java/util/Set"), accessFlags := 18, slot := 8, constantValue := 0 }, { name := "$VALUES", type := (.array (.object "com/example/gridledger/gridledger/positions/Role")), accessFlags := 4122, slot := 9, constantValue := 0 }]
  methods := #[k6m0]
  instanceTypes := #[(.object "java/lang/String"), .int, .int, (.object "java/lang/String"), (.object "com/example/gridledger/gridledger/positions/Role$Service"), (.object "com/example/gridledger/gridledger/positions/Role$Period"), (.object "com/example/gridledger/gridledger/positions/Quantity"), (.object "java/util/Set"), (.object "java/util/Set")]
  staticTypes := #[(.object "com/example/gridledger/gridledger/positions/Role"), (.object "com/example/gridledger/gridledger/positions/Role"), (.object "com/example/gridledger/gridledger/positions/Role"), (.object "com/example/gridledger/gridledger/positions/Role"), (.object "com/example/gridledger/gridledger/positions/Role"), (.object "com/example/gridledger/gridledger/positions/Role"), (.object "com/example/gridledger/gridledger/positions/Role"), (.object "com/example/gridledger/gridledger/positions/Role"), (.object "com/example/gridledger/gridledger/positions/Role"), (.array (.object "com/example/gridledger/gridledger/positions/Role"))]
  resolved := Array.replicate 257 none
  statics := some 0 }

def pool7 : Array CpInfo := pool [(1, .class_ 2), (0, u "com/example/gridledger/gridledger/positions/Quantity"), (2, u "DA"), (0, u "Lcom/example/gridledger/gridledger/positions/Quantity;"), (2, u "RT"), (2, u "ACTUAL"), (2, u "MOVEMENT"), (2, u "PERFORMANCE"), (2, u "BID"), (2, u "$VALUES"), (0, u "[Lcom/example/gridledger/gridledger/positions/Quantity;"), (6, .class_ 34), (1, u "java/lang/Enum"), (8, u "label"), (0, u "Ljava/lang/String;"), (0, .fieldref 1 46), (0, .nameAndType 47 48), (0, u "hourly"), (0, u "Z"), (33, u "()Z")] 5

def k7c0 : Code := { maxStack := 1, maxLocals := 1, code := prog_40_method_5_code, exceptionTable := #[], attributes := #[] }
def k7m0 : Method := { name := "hourly", desc := "()Z", sig := { parameters := [], returnType := some .boolean }, accessFlags := 1, code := some k7c0 }
/-- com/example/gridledger/gridledger/positions/Quantity -/
def k7 : Class := { plain "com/example/gridledger/gridledger/positions/Quantity" (some 5) with
  accessFlags := 16433
  interfaces := #[]
  cf := some (fileOf pool7 1 #[] #[{ accessFlags := 1, nameIndex := 47, descriptorIndex := 82, attributes := #[] }] 16433 32 #[] #[{ accessFlags := 16409, nameIndex := 5, descriptorIndex := 6, attributes := #[] }, { accessFlags := 16409, nameIndex := 9, descriptorIndex := 6, attributes := #[] }, { accessFlags := 16409, nameIndex := 12, descriptorIndex := 6, attributes := #[] }, { accessFlags := 16409, nameIndex := 15, descriptorIndex := 6, attributes := #[] }, { accessFlags := 16409, nameIndex := 18, descriptorIndex := 6, attributes := #[] }, { accessFlags := 16409, nameIndex := 21, descriptorIndex := 6, attributes := #[] }, { accessFlags := 18, nameIndex := 43, descriptorIndex := 44, attributes := #[] }, { accessFlags := 18, nameIndex := 47, descriptorIndex := 48, attributes := #[] }, { accessFlags := 4122, nameIndex := 24, descriptorIndex := 25, attributes := #[] }])
  fields := #[{ name := "DA", type := (.object "com/example/gridledger/gridledger/positions/Quantity"), accessFlags := 16409, slot := 0, constantValue := 0 }, { name := "RT", type := (.object "com/example/gridledger/gridledger/positions/Quantity"), accessFlags := 16409, slot := 1, constantValue := 0 }, { name := "ACTUAL", type := (.object "com/example/gridledger/gridledger/positions/Quantity"), accessFlags := 16409, slot := 2, constantValue := 0 }, { name := "MOVEMENT", type := (.object "com/example/gridledger/gridledger/positions/Quantity"), accessFlags := 16409, slot := 3, constantValue := 0 }, { name := "PERFORMANCE", type := (.object "com/example/gridledger/gridledger/positions/Quantity"), accessFlags := 16409, slot := 4, constantValue := 0 }, { name := "BID", type := (.object "com/example/gridledger/gridledger/positions/Quantity"), accessFlags := 16409, slot := 5, constantValue := 0 }, { name := "label", type := (.object "java/lang/String"), accessFlags := 18, slot := 3, constantValue := 0 }, { name := "hourly", type := .boolean, accessFlags := 18, slot := 4, constantValue := 0 }, { name := "$VALUES", type := (.array (.object "com/example/gridledger/gridledger/positions/Quantity")), accessFlags := 4122, slot := 6, constantValue := 0 }]
  methods := #[k7m0]
  instanceTypes := #[(.object "java/lang/String"), .int, .int, (.object "java/lang/String"), .boolean]
  staticTypes := #[(.object "com/example/gridledger/gridledger/positions/Quantity"), (.object "com/example/gridledger/gridledger/positions/Quantity"), (.object "com/example/gridledger/gridledger/positions/Quantity"), (.object "com/example/gridledger/gridledger/positions/Quantity"), (.object "com/example/gridledger/gridledger/positions/Quantity"), (.object "com/example/gridledger/gridledger/positions/Quantity"), (.array (.object "com/example/gridledger/gridledger/positions/Quantity"))]
  resolved := Array.replicate 88 none
  statics := some 1 }

def pool8 : Array CpInfo := pool [(1, .class_ 2), (0, u "com/example/gridledger/gridledger/positions/Role$Period"), (2, u "INTERVAL"), (0, u "Lcom/example/gridledger/gridledger/positions/Role$Period;"), (2, u "HOUR"), (2, u "$VALUES"), (0, u "[Lcom/example/gridledger/gridledger/positions/Role$Period;"), (6, .class_ 22), (1, u "java/lang/Enum"), (25, .class_ 49), (0, u "com/example/gridledger/gridledger/positions/Role")] 2

/-- com/example/gridledger/gridledger/positions/Role$Period -/
def k8 : Class := { plain "com/example/gridledger/gridledger/positions/Role$Period" (some 5) with
  accessFlags := 16433
  interfaces := #[]
  cf := some (fileOf pool8 1 #[.nestHost 48] #[] 16433 20 #[] #[{ accessFlags := 16409, nameIndex := 5, descriptorIndex := 6, attributes := #[] }, { accessFlags := 16409, nameIndex := 9, descriptorIndex := 6, attributes := #[] }, { accessFlags := 4122, nameIndex := 12, descriptorIndex := 13, attributes := #[] }])
  fields := #[{ name := "INTERVAL", type := (.object "com/example/gridledger/gridledger/positions/Role$Period"), accessFlags := 16409, slot := 0, constantValue := 0 }, { name := "HOUR", type := (.object "com/example/gridledger/gridledger/positions/Role$Period"), accessFlags := 16409, slot := 1, constantValue := 0 }, { name := "$VALUES", type := (.array (.object "com/example/gridledger/gridledger/positions/Role$Period")), accessFlags := 4122, slot := 2, constantValue := 0 }]
  methods := #[]
  instanceTypes := #[(.object "java/lang/String"), .int, .int]
  staticTypes := #[(.object "com/example/gridledger/gridledger/positions/Role$Period"), (.object "com/example/gridledger/gridledger/positions/Role$Period"), (.array (.object "com/example/gridledger/gridledger/positions/Role$Period"))]
  resolved := Array.replicate 52 none
  statics := some 2 }

def pool9 : Array CpInfo := pool [(1, u "java/lang/Cloneable"), (0, .class_ 1), (0, u "java/lang/Object"), (0, .class_ 3)] 3

/-- java/lang/Cloneable -/
def k9 : Class := { plain "java/lang/Cloneable" (some 0) with
  accessFlags := 1537
  interfaces := #[]
  cf := some (fileOf pool9 2 #[] #[] 1537 4 #[] #[])
  fields := #[]
  methods := #[]
  instanceTypes := #[]
  staticTypes := #[]
  resolved := Array.replicate 8 none
  statics := none }

/-- the primitive byte -/
def k10 : Class := { plain "byte" none with kind := .primitive 'B', accessFlags := 0x411 }
/-- [B -/
def k11 : Class := { plain "[B" (some 0) with kind := .array 10 .byte, interfaces := #[9, 4], accessFlags := 1041 }

/-- the primitive int -/
def k12 : Class := { plain "int" none with kind := .primitive 'I', accessFlags := 0x411 }
/-- [I -/
def k13 : Class := { plain "[I" (some 0) with kind := .array 12 .int, interfaces := #[9, 4], accessFlags := 1041 }

def heap : Heap := #[{ cls := 6, slots := #[.ref 3, .ref 13, .ref 18, .ref 17, .ref 11, .ref 7, .ref 14, .ref 19, .ref 16, .null], vm := .statics 6 },
  { cls := 7, slots := #[.ref 12, .ref 8, .ref 10, .ref 4, .ref 15, .ref 9, .null], vm := .statics 7 },
  { cls := 8, slots := #[.ref 5, .ref 6, .null], vm := .statics 8 },
  { cls := 6, slots := #[.null, .int 0, .int 0, .null, .null, .ref 5, .null, .null, .null], vm := .none },
  { cls := 7, slots := #[.null, .int 0, .int 0, .null, .int 0], vm := .none },
  { cls := 8, slots := #[.null, .int 0, .int 0], vm := .none },
  { cls := 8, slots := #[.null, .int 1, .int 0], vm := .none },
  { cls := 6, slots := #[.null, .int 0, .int 0, .null, .null, .ref 6, .null, .null, .null], vm := .none },
  { cls := 7, slots := #[.null, .int 0, .int 0, .null, .int 0], vm := .none },
  { cls := 7, slots := #[.null, .int 0, .int 0, .null, .int 1], vm := .none },
  { cls := 7, slots := #[.null, .int 0, .int 0, .null, .int 0], vm := .none },
  { cls := 6, slots := #[.null, .int 0, .int 0, .null, .null, .ref 6, .null, .null, .null], vm := .none },
  { cls := 7, slots := #[.null, .int 0, .int 0, .null, .int 1], vm := .none },
  { cls := 6, slots := #[.null, .int 0, .int 0, .null, .null, .ref 5, .null, .null, .null], vm := .none },
  { cls := 6, slots := #[.null, .int 0, .int 0, .null, .null, .ref 6, .null, .null, .null], vm := .none },
  { cls := 7, slots := #[.null, .int 0, .int 0, .null, .int 0], vm := .none },
  { cls := 6, slots := #[.null, .int 0, .int 0, .null, .null, .ref 5, .null, .null, .null], vm := .none },
  { cls := 6, slots := #[.null, .int 0, .int 0, .null, .null, .ref 5, .null, .null, .null], vm := .none },
  { cls := 6, slots := #[.null, .int 0, .int 0, .null, .null, .ref 5, .null, .null, .null], vm := .none },
  { cls := 6, slots := #[.null, .int 0, .int 0, .null, .null, .ref 6, .null, .null, .null], vm := .none }]
def classes : Array Class := #[k0, k1, k2, k3, k4, k5, k6, k7, k8, k9, k10, k11, k12, k13]
def interned : List (Array UInt16 × Addr) := []
def slotsUsed : Nat := 137
def theMethod : MethodId := ⟨1, 3⟩
def args0 : Array Value := #[.int 1, .int 2]
def aboutOver (below : List Frame) : State where
  vm := { classes := classes, interned := interned.toArray }
  heap := heap
  slotsUsed := slotsUsed
  threads := #[{ frames := .invoking theMethod args0 :: below }]
def below0 : List Frame := [.native { method := ⟨0, 0⟩, args := #[] }]
def about1 : State := aboutOver below0
def p0 : Program := .bare "" "" ""
def e0 : Env := launch0.env 0 0 0
theorem w_frames : about1.frames = Frame.invoking theMethod args0 :: below0 := rfl
set_option maxRecDepth 65536 in
theorem w_args : argsFit about1.vm theMethod args0 = true := by decide +kernel
set_option maxRecDepth 65536 in
theorem w_heap : heapFits about1 = true := by decide +kernel
set_option maxRecDepth 65536 in
theorem w_runnable : about1.curStatus? = some .runnable := by decide +kernel
set_option maxRecDepth 65536 in
theorem w_alone : about1.alone = true := by decide +kernel
set_option maxRecDepth 65536 in
theorem w_named : about1.methodNamed? x = some theMethod := by decide +kernel
set_option maxRecDepth 65536 in
theorem w_hears : about1.hears theMethod below0 = true := by decide +kernel
set_option maxRecDepth 65536 in
theorem w_ripe : about1.ripe theMethod args0 below0 = true := by decide +kernel
theorem w_running : about1.status = .running := rfl
set_option maxRecDepth 65536 in
theorem w_room : about1.hasRoom e0.platform room_1 = true :=
  launch0.hasRoom_least _ room_1 (by decide +kernel) (by decide +kernel) (by decide +kernel) (by decide +kernel) (by decide +kernel) (by decide +kernel)
theorem allAtoms_all (ts : List Jvm.Cond) (a : Array Jvm.Value) (st : Jvm.State) : (allAtoms ts).before a st = ts.all (fun c => c.before a st) := by
  induction ts with
  | nil => rfl
  | cons c t ih =>
    show (Jvm.Cond.and c (allAtoms t)).before a st = _
    rw [Jvm.Cond.before_and, ih, List.all_cons]
def words1 : List Jvm.Cond := Jvm.Cond.code x code maxLocals ret :: tables_1
/-- a 'code' word, met by the world's own term for the bytes: nothing is compared byte by byte -/
theorem code_word {y : MethodName} {bytes : ByteArray} {mx : Nat} {rt : Option FieldType} {a : Array Value} {s : State} {m : MethodId} {meth : Method} {c : Code} (h1 : s.methodNamed? y = some m) (h2 : s.vm.method? m = some meth) (h3 : meth.code = some c) (h4 : c.code = bytes)
    (h5 : (c.maxLocals == mx && c.exceptionTable.isEmpty && decide (c.maxStack ≤ mostOperands) && decide (meth.sig.returnType = rt) && !meth.locks && decide (parseMethodDescriptor y.desc = some meth.sig)) = true) : (Jvm.Cond.code y bytes mx rt).before a s = true := by
  simp only [Bool.and_eq_true, beq_iff_eq, Bool.not_eq_true', decide_eq_true_eq] at h5
  obtain ⟨⟨⟨⟨⟨g1, g2⟩, g3⟩, g4⟩, g5⟩, g6⟩ := h5
  simp [Cond.before, Cond.holds, Cond.value, h1, h2, h3, h4, g1, g2, g3, g4, g5, g6]
def isCode : Jvm.Cond → Bool
  | .code _ _ _ _ => true
  | _ => false
theorem all_split {L : List Jvm.Cond} {P : Jvm.Cond → Bool} (h1 : L.all (fun c => isCode c || P c) = true) (h2 : ∀ c ∈ L.filter isCode, P c = true) : L.all P = true := by
  refine List.all_eq_true.mpr fun c hc => ?_
  have h := List.all_eq_true.mp h1 c hc
  rcases Bool.eq_false_or_eq_true (isCode c) with hi | hi
  · exact h2 c (List.mem_filter.mpr ⟨hc, hi⟩)
  · simpa [hi] using h
set_option maxRecDepth 65536 in
theorem w_c0 : (Jvm.Cond.code x code maxLocals ret).before args0 about1 = true := code_word (m := ⟨1, 3⟩) (meth := k1m3) (c := k1c3) (by decide +kernel) rfl rfl rfl (by decide +kernel)
set_option maxRecDepth 65536 in
theorem w_c1 : (Jvm.Cond.code ({ cls := "com/example/gridledger/gridledger/positions/RoleSpansHourPinLaw", name := "role", desc := "(I)Lcom/example/gridledger/gridledger/positions/Role;" } : Jvm.MethodName) method_2_code (1 : Nat) (Option.some (Jvm.ClassFile.FieldType.object "com/example/gridledger/gridledger/positions/Role"))).before args0 about1 = true := code_word (m := ⟨1, 1⟩) (meth := k1m1) (c := k1c1) (by decide +kernel) rfl rfl rfl (by decide +kernel)
set_option maxRecDepth 65536 in
theorem w_c2 : (Jvm.Cond.code ({ cls := "com/example/gridledger/gridledger/positions/RoleSpansHourPinLaw", name := "quantity", desc := "(I)Lcom/example/gridledger/gridledger/positions/Quantity;" } : Jvm.MethodName) method_3_code (1 : Nat) (Option.some (Jvm.ClassFile.FieldType.object "com/example/gridledger/gridledger/positions/Quantity"))).before args0 about1 = true := code_word (m := ⟨1, 2⟩) (meth := k1m2) (c := k1c2) (by decide +kernel) rfl rfl rfl (by decide +kernel)
set_option maxRecDepth 65536 in
theorem w_c3 : (Jvm.Cond.code ({ cls := "com/example/gridledger/gridledger/positions/Role", name := "spansHour", desc := "(Lcom/example/gridledger/gridledger/positions/Quantity;)Z" } : Jvm.MethodName) prog_41_method_10_code (2 : Nat) (Option.some Jvm.ClassFile.FieldType.boolean)).before args0 about1 = true := code_word (m := ⟨6, 0⟩) (meth := k6m0) (c := k6c0) (by decide +kernel) rfl rfl rfl (by decide +kernel)
set_option maxRecDepth 65536 in
theorem w_c4 : (Jvm.Cond.code ({ cls := "com/example/gridledger/gridledger/positions/Quantity", name := "hourly", desc := "()Z" } : Jvm.MethodName) prog_40_method_5_code (1 : Nat) (Option.some Jvm.ClassFile.FieldType.boolean)).before args0 about1 = true := code_word (m := ⟨7, 0⟩) (meth := k7m0) (c := k7c0) (by decide +kernel) rfl rfl rfl (by decide +kernel)
def codes1 : List Jvm.Cond := [Jvm.Cond.code x code maxLocals ret, Jvm.Cond.code ({ cls := "com/example/gridledger/gridledger/positions/RoleSpansHourPinLaw", name := "role", desc := "(I)Lcom/example/gridledger/gridledger/positions/Role;" } : Jvm.MethodName) method_2_code (1 : Nat) (Option.some (Jvm.ClassFile.FieldType.object "com/example/gridledger/gridledger/positions/Role")), Jvm.Cond.code ({ cls := "com/example/gridledger/gridledger/positions/RoleSpansHourPinLaw", name := "quantity", desc := "(I)Lcom/example/gridledger/gridledger/positions/Quantity;" } : Jvm.MethodName) method_3_code (1 : Nat) (Option.some (Jvm.ClassFile.FieldType.object "com/example/gridledger/gridledger/positions/Quantity")), Jvm.Cond.code ({ cls := "com/example/gridledger/gridledger/positions/Role", name := "spansHour", desc := "(Lcom/example/gridledger/gridledger/positions/Quantity;)Z" } : Jvm.MethodName) prog_41_method_10_code (2 : Nat) (Option.some Jvm.ClassFile.FieldType.boolean), Jvm.Cond.code ({ cls := "com/example/gridledger/gridledger/positions/Quantity", name := "hourly", desc := "()Z" } : Jvm.MethodName) prog_40_method_5_code (1 : Nat) (Option.some Jvm.ClassFile.FieldType.boolean)]
set_option maxRecDepth 65536 in
theorem codes_eq : words1.filter isCode = codes1 := rfl
theorem w_codes : ∀ c ∈ words1.filter isCode, c.before args0 about1 = true := by
  rw [codes_eq]
  intro c hc
  simp only [codes1, List.mem_cons, List.not_mem_nil, or_false] at hc
  rcases hc with rfl | rfl | rfl | rfl | rfl
  · exact w_c0
  · exact w_c1
  · exact w_c2
  · exact w_c3
  · exact w_c4
set_option maxRecDepth 65536 in
theorem w_t1 : (words1.take 24).all (fun c => isCode c || c.before args0 about1) = true := by decide +kernel
set_option maxRecDepth 65536 in
theorem w_t2 : ((words1.drop 24).take 24).all (fun c => isCode c || c.before args0 about1) = true := by decide +kernel
set_option maxRecDepth 65536 in
theorem w_t3 : ((words1.drop 24).drop 24).all (fun c => isCode c || c.before args0 about1) = true := by decide +kernel
theorem w_tables : (allAtoms (Jvm.Cond.code x code maxLocals ret :: tables_1)).before args0 about1 = true := by
  rw [allAtoms_all]
  show words1.all (fun c => c.before args0 about1) = true
  refine all_split ?_ w_codes
  rw [← List.take_append_drop 24 words1, List.all_append, w_t1, ← List.take_append_drop 24 (words1.drop 24), List.all_append, w_t2, w_t3]
  rfl
set_option maxRecDepth 65536 in
theorem w_case : (Jvm.Cond.and given_1 narrow_1).before args0 about1 = true := by decide +kernel
theorem w_applies : (headSpec (Jvm.Cond.code x code maxLocals ret :: tables_1) room_1).applies x e0.platform about1 = true :=
  (Spec.applies_iff w_frames).mpr ⟨w_running, w_runnable, w_alone, w_named, w_hears, w_ripe, w_room, w_tables⟩
theorem atStart : AtStart classFile x code maxLocals ret World_1 tables_1 room_1 Calls_1 rest_1 Pre_1 launch0 p0 e0 about1 theMethod args0 below0 :=
  ⟨lists_1, trivial, launch0.admits_env _ _ _, launch0.least_env, fairChoices_fair.cas, fairChoices_fair.clock, w_frames, w_args, w_heap, w_applies, trivial, trivial, w_case⟩
end start1
theorem witness_1 : WitnessClaimed_1 := ⟨start1.p0, start1.e0, start1.about1, start1.theMethod, start1.args0, start1.below0, start1.atStart⟩
end Jvm.Pilot.@@N@@
