import JvmDerived
import JvmDerived.Pilot.@@N@@Statement
import JvmDerived.Pilot.@@N@@Code
set_option linter.unusedVariables false
set_option linter.unusedSimpArgs false
set_option maxRecDepth 65536
set_option maxHeartbeats 40000000
@@BLOCK:NumsL.lean.txt@@
namespace Jvm.Pilot.@@N@@
open Jvm Jvm.ClassFile Sem Op Lib Jvm.Free Jvm.Stand Jvm.LawKit Jvm.RoadKit Bundle Jvm.Pilot.@@N@@.Jvm.D
section OwnHead
variable {p : Program} {l : Launch} {e : Env} {R : Room} {s : State} {m : MethodId} {args : Array Value} {below : List Frame} {meth : Method} {c : Code} {T : State} {locs : List Loc} {cells slots : Nat} {Z : State} {a0 : Array Value} {h : Heap}
/-- from here the run comes to a state of which F holds -/
def own_Go (tb : Tables) (e : Env) (below : List Frame) (F : State → Prop) (U : State) : Prop := ∃ t, Steps tb e below U t ∧ F t
theorem own_by {tb : Tables} {F : State → Prop} {U U' : State} (q : ∀ t, Steps tb e below U' t → Steps tb e below U t) (k : own_Go tb e below F U') : own_Go tb e below F U := by
  obtain ⟨t, a, b⟩ := k
  exact ⟨t, q t a, b⟩
theorem own_ent {tb : Tables} {F : State → Prop} {T : State} {f g : JFrame} (q : f = g) (k : own_Go tb e below F (T.setTop g)) : own_Go tb e below F (T.setTop f) := by
  rw [q]
  exact k
abbrev own_rm (f c s l : Nat) : Room := { frames := f, cells := c, slots := s, locals := l }
theorem own_byR {tb : Tables} {F : State → Prop} {T U : State} {m : MethodId} {pc : Nat} {Ls : Array Slot} {v : Value} {rest : List Value} (q : ∀ t, Steps tb e below (T.setTop (mkF m pc Ls ((some v).toList ++ rest))) t → Steps tb e below U t) (pc' : Nat) (hp : pc = pc') (k : own_Go tb e below F (T.setTop (mkF m pc' Ls (v :: rest)))) : own_Go tb e below F U := by
  subst hp
  exact own_by q k
theorem own_byV {tb : Tables} {F : State → Prop} {T U : State} {m : MethodId} {pc : Nat} {Ls : Array Slot} {rest : List Value} (q : ∀ t, Steps tb e below (T.setTop (mkF m pc Ls ((none : Option Value).toList ++ rest))) t → Steps tb e below U t) (pc' : Nat) (hp : pc = pc') (k : own_Go tb e below F (T.setTop (mkF m pc' Ls rest))) : own_Go tb e below F U := by
  subst hp
  exact own_by q k
/-- the method has returned, and what its contract says holds -/
def own_Fin (s : State) (below : List Frame) (Q : Option Value → Heap → List Loc → Prop) (C N : Nat) (t : State) : Prop := ∃ o, t.status = .running ∧ Ended t below o ∧ ∃ v L, o = .returned v ∧ Q v t.heap L ∧ FrameEnd s o t L C N
theorem own_fin (X : Stand p l e R s m args below meth c T locs cells slots) {Q : Option Value → Heap → List Loc → Prop} {C N : Nat} {v : Option Value} (hk : meth.locks = false) (hv : meth.sig.returnType = none → v = none) {U : State}
    (hst : ∀ fs, (∀ (f : JFrame) (acts : List Action), f.method = m → f.locked = none → f.entered = [] → (doReturn e (T.setTop f) acts v).1 = T.setFrames fs) → Steps p.tables e below U (T.setFrames fs)) (hQ : Q v T.heap locs) (hC : cells ≤ C) (hN : slots ≤ N) :
    own_Go p.tables e below (own_Fin s below Q C N) U := by
  obtain ⟨fs, hr, hrun, hended, hW, hsame⟩ := X.leave (v := v) hv hk
  exact ⟨_, hst fs hr, _, hrun, hended, v, locs, rfl, hQ, ⟨_, rfl⟩, hW, hsame.mono hC hN⟩
theorem own_ret (X : Stand p l e R s m args below meth c T locs cells slots) (hx : p.tables.exec = Jvm.exec) {Q : Option Value → Heap → List Loc → Prop} {C N : Nat} (hk : meth.locks = false) {pc : Nat} {Ls : Array Slot} {w : Value} {t : FieldType} {i : Instr} {rest : List Value} (hret : meth.sig.returnType = some t) (hn : narrow t w = w)
    (hi : (i = .ireturn ∧ (t = .int ∨ t = .boolean ∨ t = .byte ∨ t = .char ∨ t = .short) ∧ ∃ z, w = .int z) ∨ (i = .lreturn ∧ t = .long ∧ ∃ z, w = .long z) ∨ (i = .dreturn ∧ t = .double ∧ ∃ z, w = .double z) ∨ (i = .freturn ∧ t = .float ∧ ∃ z, w = .float z) ∨ (i = .areturn ∧ t.isReference = true ∧ w.isRef = true))
    (hd : decode c.code pc = .ok (i, 1)) (hQ : Q (some w) T.heap locs) (hC : cells ≤ C) (hN : slots ≤ N) : own_Go p.tables e below (own_Fin s below Q C N) (T.setTop (mkF m pc Ls (w :: rest))) :=
  own_fin X hk (fun q => by rw [hret] at q; cases q) (fun fs hr => retOut X hx hret hn hi hd hr) hQ hC hN
theorem own_retI (X : Stand p l e R s m args below meth c T locs cells slots) (hx : p.tables.exec = Jvm.exec) {Q : Option Value → Heap → List Loc → Prop} {C N : Nat} (hk : meth.locks = false) {pc : Nat} {Ls : Array Slot} {z : Int32} {rest : List Value} (hret : meth.sig.returnType = some .int)
    (hd : decode c.code pc = .ok (.ireturn, 1)) (hQ : Q (some (.int z)) T.heap locs) (hC : cells ≤ C) (hN : slots ≤ N) : own_Go p.tables e below (own_Fin s below Q C N) (T.setTop (mkF m pc Ls (.int z :: rest))) :=
  own_ret X hx hk hret rfl (Or.inl ⟨rfl, Or.inl rfl, z, rfl⟩) hd hQ hC hN
theorem own_retZ (X : Stand p l e R s m args below meth c T locs cells slots) (hx : p.tables.exec = Jvm.exec) {Q : Option Value → Heap → List Loc → Prop} {C N : Nat} (hk : meth.locks = false) {pc : Nat} {Ls : Array Slot} {z z' : Int32} {rest : List Value} (hret : meth.sig.returnType = some .boolean)
    (hd : decode c.code pc = .ok (.ireturn, 1)) (hz : nar .boolean z = z') (hQ : Q (some (.int z')) T.heap locs) (hC : cells ≤ C) (hN : slots ≤ N) : own_Go p.tables e below (own_Fin s below Q C N) (T.setTop (mkF m pc Ls (.int z :: rest))) := by
  subst hz
  exact own_fin X hk (fun q => by rw [hret] at q; cases q) (fun fs hr => retN X hx hret (Or.inl rfl) hd hr) hQ hC hN
theorem own_retA (X : Stand p l e R s m args below meth c T locs cells slots) (hx : p.tables.exec = Jvm.exec) {Q : Option Value → Heap → List Loc → Prop} {C N : Nat} (hk : meth.locks = false) {pc : Nat} {Ls : Array Slot} {w : Value} {t : FieldType} {rest : List Value} (hret : meth.sig.returnType = some t) (ht : t.isReference = true) (hw : w.isRef = true)
    (hd : decode c.code pc = .ok (.areturn, 1)) (hn : narrow t w = w) (hQ : Q (some w) T.heap locs) (hC : cells ≤ C) (hN : slots ≤ N) : own_Go p.tables e below (own_Fin s below Q C N) (T.setTop (mkF m pc Ls (w :: rest))) :=
  own_ret X hx hk hret hn (Or.inr (Or.inr (Or.inr (Or.inr ⟨rfl, ht, hw⟩)))) hd hQ hC hN
theorem own_retJ (X : Stand p l e R s m args below meth c T locs cells slots) (hx : p.tables.exec = Jvm.exec) {Q : Option Value → Heap → List Loc → Prop} {C N : Nat} (hk : meth.locks = false) {pc : Nat} {Ls : Array Slot} {z : Int64} {rest : List Value} (hret : meth.sig.returnType = some .long)
    (hd : decode c.code pc = .ok (.lreturn, 1)) (hQ : Q (some (.long z)) T.heap locs) (hC : cells ≤ C) (hN : slots ≤ N) : own_Go p.tables e below (own_Fin s below Q C N) (T.setTop (mkF m pc Ls (.long z :: rest))) :=
  own_ret X hx hk hret rfl (Or.inr (Or.inl ⟨rfl, rfl, z, rfl⟩)) hd hQ hC hN
theorem own_retV (X : Stand p l e R s m args below meth c T locs cells slots) (hx : p.tables.exec = Jvm.exec) {Q : Option Value → Heap → List Loc → Prop} {C N : Nat} (hk : meth.locks = false) {pc : Nat} {Ls : Array Slot} (hret : meth.sig.returnType = none)
    (hd : decode c.code pc = .ok (.return_, 1)) (hQ : Q none T.heap locs) (hC : cells ≤ C) (hN : slots ≤ N) : own_Go p.tables e below (own_Fin s below Q C N) (T.setTop (mkF m pc Ls [])) :=
  own_fin X hk (fun _ => rfl) (fun fs hr => X.returnOut hx hret hd hr) hQ hC hN
theorem own_lsw0 {tb : Tables} [Ours tb] {target : State} {g : JFrame} (q : At T m c below) (hx : tb.exec = Jvm.exec) (hg : g.method = m) {dflt : Int} {pairs : Array (Int × Int)} {len : Nat} {o : Int} {pc0 pc' : Nat} (hpc : g.pc = pc0) (hd : decode c.code g.pc = .ok (.lookupswitch dflt pairs, len)) {i : Int32} {rest : List Value} (hs : g.stack = .int i :: rest)
    (hoff : lookupswitch.offset pairs.toList dflt i.toInt = o) (hso : (pairs.toList.zip pairs.toList.tail).all (fun q => decide (q.1.1 < q.2.1)) = true) (ho : 0 ≤ (pc0 : Int) + o) (hp : ((pc0 : Int) + o).toNat = pc') (hr : Steps tb e below (T.setTop { g with pc := pc', stack := rest }) target) : Steps tb e below (T.setTop g) target := by
  subst hg hpc hp
  jvm_step q [q.top, hx, hd, hs, hoff, ho, lookupswitch.wp_chain]
  refine ⟨fun a b a1 b1 hm => ?_, hr⟩
  simpa using List.all_eq_true.mp hso _ hm
theorem own_iload_n (X : Stand p l e R s m args below meth c T locs cells slots) (hx : p.tables.exec = Jvm.exec) {F : State → Prop} {pc : Nat} {Ls : Array Slot} {St : List Value} {i : Fin 4} {z : Int32} (hd : decode c.code pc = .ok (.iload_n i, 1)) (hl : Ls[i.val]? = some (.val (.int z))) (pc' : Nat) (hp : pc + 1 = pc') (k : own_Go p.tables e below F (T.setTop (mkF m pc' Ls (.int z :: St)))) : own_Go p.tables e below F (T.setTop (mkF m pc Ls (St))) := by
  subst hp
  exact own_by (fun _ q => XS.iloadN X.here hx rfl hd hl q) k
theorem own_iload (X : Stand p l e R s m args below meth c T locs cells slots) (hx : p.tables.exec = Jvm.exec) {F : State → Prop} {pc : Nat} {Ls : Array Slot} {St : List Value} {i : Nat} {z : Int32} (hd : decode c.code pc = .ok (.iload i, 2)) (hl : Ls[i]? = some (.val (.int z))) (pc' : Nat) (hp : pc + 2 = pc') (k : own_Go p.tables e below F (T.setTop (mkF m pc' Ls (.int z :: St)))) : own_Go p.tables e below F (T.setTop (mkF m pc Ls (St))) := by
  subst hp
  exact own_by (fun _ q => XS.iload X.here hx rfl hd hl q) k
theorem own_istore_n (X : Stand p l e R s m args below meth c T locs cells slots) (hx : p.tables.exec = Jvm.exec) {F : State → Prop} {pc : Nat} {Ls : Array Slot} {St : List Value} {i : Fin 4} {z : Int32} (hd : decode c.code pc = .ok (.istore_n i, 1)) (l' : Array Slot) (hl : storeLocals Ls i.val (.int z) = some l') (pc' : Nat) (hp : pc + 1 = pc') (k : own_Go p.tables e below F (T.setTop (mkF m pc' l' (St)))) : own_Go p.tables e below F (T.setTop (mkF m pc Ls (.int z :: St))) := by
  subst hp
  exact own_by (fun _ q => XS.istoreN X.here hx rfl hd rfl hl q) k
theorem own_istore (X : Stand p l e R s m args below meth c T locs cells slots) (hx : p.tables.exec = Jvm.exec) {F : State → Prop} {pc : Nat} {Ls : Array Slot} {St : List Value} {i : Nat} {z : Int32} (hd : decode c.code pc = .ok (.istore i, 2)) (l' : Array Slot) (hl : storeLocals Ls i (.int z) = some l') (pc' : Nat) (hp : pc + 2 = pc') (k : own_Go p.tables e below F (T.setTop (mkF m pc' l' (St)))) : own_Go p.tables e below F (T.setTop (mkF m pc Ls (.int z :: St))) := by
  subst hp
  exact own_by (fun _ q => XS.istore X.here hx rfl hd rfl hl q) k
theorem own_lload_n (X : Stand p l e R s m args below meth c T locs cells slots) (hx : p.tables.exec = Jvm.exec) {F : State → Prop} {pc : Nat} {Ls : Array Slot} {St : List Value} {i : Fin 4} {z : Int64} (hd : decode c.code pc = .ok (.lload_n i, 1)) (hl : Ls[i.val]? = some (.val (.long z))) (pc' : Nat) (hp : pc + 1 = pc') (k : own_Go p.tables e below F (T.setTop (mkF m pc' Ls (.long z :: St)))) : own_Go p.tables e below F (T.setTop (mkF m pc Ls (St))) := by
  subst hp
  exact own_by (fun _ q => XS.lloadN X.here hx rfl hd hl q) k
theorem own_lload (X : Stand p l e R s m args below meth c T locs cells slots) (hx : p.tables.exec = Jvm.exec) {F : State → Prop} {pc : Nat} {Ls : Array Slot} {St : List Value} {i : Nat} {z : Int64} (hd : decode c.code pc = .ok (.lload i, 2)) (hl : Ls[i]? = some (.val (.long z))) (pc' : Nat) (hp : pc + 2 = pc') (k : own_Go p.tables e below F (T.setTop (mkF m pc' Ls (.long z :: St)))) : own_Go p.tables e below F (T.setTop (mkF m pc Ls (St))) := by
  subst hp
  exact own_by (fun _ q => XS.lload X.here hx rfl hd hl q) k
theorem own_lstore_n (X : Stand p l e R s m args below meth c T locs cells slots) (hx : p.tables.exec = Jvm.exec) {F : State → Prop} {pc : Nat} {Ls : Array Slot} {St : List Value} {i : Fin 4} {z : Int64} (hd : decode c.code pc = .ok (.lstore_n i, 1)) (l' : Array Slot) (hl : storeLocals Ls i.val (.long z) = some l') (pc' : Nat) (hp : pc + 1 = pc') (k : own_Go p.tables e below F (T.setTop (mkF m pc' l' (St)))) : own_Go p.tables e below F (T.setTop (mkF m pc Ls (.long z :: St))) := by
  subst hp
  exact own_by (fun _ q => XS.lstoreN X.here hx rfl hd rfl hl q) k
theorem own_lstore (X : Stand p l e R s m args below meth c T locs cells slots) (hx : p.tables.exec = Jvm.exec) {F : State → Prop} {pc : Nat} {Ls : Array Slot} {St : List Value} {i : Nat} {z : Int64} (hd : decode c.code pc = .ok (.lstore i, 2)) (l' : Array Slot) (hl : storeLocals Ls i (.long z) = some l') (pc' : Nat) (hp : pc + 2 = pc') (k : own_Go p.tables e below F (T.setTop (mkF m pc' l' (St)))) : own_Go p.tables e below F (T.setTop (mkF m pc Ls (.long z :: St))) := by
  subst hp
  exact own_by (fun _ q => XS.lstore X.here hx rfl hd rfl hl q) k
theorem own_aload_n (X : Stand p l e R s m args below meth c T locs cells slots) (hx : p.tables.exec = Jvm.exec) {F : State → Prop} {pc : Nat} {Ls : Array Slot} {St : List Value} {i : Fin 4} {v : Value} (hd : decode c.code pc = .ok (.aload_n i, 1)) (hl : Ls[i.val]? = some (.val v)) (hv : v.isRef = true) (pc' : Nat) (hp : pc + 1 = pc') (k : own_Go p.tables e below F (T.setTop (mkF m pc' Ls (v :: St)))) : own_Go p.tables e below F (T.setTop (mkF m pc Ls (St))) := by
  subst hp
  exact own_by (fun _ q => XS.aloadN X.here hx rfl hd hl hv q) k
theorem own_aload (X : Stand p l e R s m args below meth c T locs cells slots) (hx : p.tables.exec = Jvm.exec) {F : State → Prop} {pc : Nat} {Ls : Array Slot} {St : List Value} {i : Nat} {v : Value} (hd : decode c.code pc = .ok (.aload i, 2)) (hl : Ls[i]? = some (.val v)) (hv : v.isRef = true) (pc' : Nat) (hp : pc + 2 = pc') (k : own_Go p.tables e below F (T.setTop (mkF m pc' Ls (v :: St)))) : own_Go p.tables e below F (T.setTop (mkF m pc Ls (St))) := by
  subst hp
  exact own_by (fun _ q => XS.aload X.here hx rfl hd hl hv q) k
theorem own_astore_n (X : Stand p l e R s m args below meth c T locs cells slots) (hx : p.tables.exec = Jvm.exec) {F : State → Prop} {pc : Nat} {Ls : Array Slot} {St : List Value} {i : Fin 4} {v : Value} (hd : decode c.code pc = .ok (.astore_n i, 1)) (l' : Array Slot) (hv : v.isRef = true) (hl : storeLocals Ls i.val v = some l') (pc' : Nat) (hp : pc + 1 = pc') (k : own_Go p.tables e below F (T.setTop (mkF m pc' l' (St)))) : own_Go p.tables e below F (T.setTop (mkF m pc Ls (v :: St))) := by
  subst hp
  exact own_by (fun _ q => XS.astoreN X.here hx rfl hd rfl hv hl q) k
theorem own_astore (X : Stand p l e R s m args below meth c T locs cells slots) (hx : p.tables.exec = Jvm.exec) {F : State → Prop} {pc : Nat} {Ls : Array Slot} {St : List Value} {i : Nat} {v : Value} (hd : decode c.code pc = .ok (.astore i, 2)) (l' : Array Slot) (hv : v.isRef = true) (hl : storeLocals Ls i v = some l') (pc' : Nat) (hp : pc + 2 = pc') (k : own_Go p.tables e below F (T.setTop (mkF m pc' l' (St)))) : own_Go p.tables e below F (T.setTop (mkF m pc Ls (v :: St))) := by
  subst hp
  exact own_by (fun _ q => XS.astore X.here hx rfl hd rfl hv hl q) k
theorem own_iconst (X : Stand p l e R s m args below meth c T locs cells slots) (hx : p.tables.exec = Jvm.exec) {F : State → Prop} {pc : Nat} {Ls : Array Slot} {St : List Value} {i : Int} (hd : decode c.code pc = .ok (.iconst i, 1)) (z : Int32) (hz : Int32.ofInt i = z) (pc' : Nat) (hp : pc + 1 = pc') (k : own_Go p.tables e below F (T.setTop (mkF m pc' Ls (.int z :: St)))) : own_Go p.tables e below F (T.setTop (mkF m pc Ls (St))) := by
  subst hp hz
  exact own_by (fun _ q => XS.iconst X.here hx rfl hd  q) k
theorem own_bipush (X : Stand p l e R s m args below meth c T locs cells slots) (hx : p.tables.exec = Jvm.exec) {F : State → Prop} {pc : Nat} {Ls : Array Slot} {St : List Value} {i : Int} (hd : decode c.code pc = .ok (.bipush i, 2)) (z : Int32) (hz : (Int8.ofInt i).toInt32 = z) (pc' : Nat) (hp : pc + 2 = pc') (k : own_Go p.tables e below F (T.setTop (mkF m pc' Ls (.int z :: St)))) : own_Go p.tables e below F (T.setTop (mkF m pc Ls (St))) := by
  subst hp hz
  exact own_by (fun _ q => XS.bipush X.here hx rfl hd  q) k
theorem own_sipush (X : Stand p l e R s m args below meth c T locs cells slots) (hx : p.tables.exec = Jvm.exec) {F : State → Prop} {pc : Nat} {Ls : Array Slot} {St : List Value} {i : Int} (hd : decode c.code pc = .ok (.sipush i, 3)) (z : Int32) (hz : (Int16.ofInt i).toInt32 = z) (pc' : Nat) (hp : pc + 3 = pc') (k : own_Go p.tables e below F (T.setTop (mkF m pc' Ls (.int z :: St)))) : own_Go p.tables e below F (T.setTop (mkF m pc Ls (St))) := by
  subst hp hz
  exact own_by (fun _ q => XS.sipush X.here hx rfl hd  q) k
theorem own_lconst (X : Stand p l e R s m args below meth c T locs cells slots) (hx : p.tables.exec = Jvm.exec) {F : State → Prop} {pc : Nat} {Ls : Array Slot} {St : List Value} {i : Fin 2} (hd : decode c.code pc = .ok (.lconst i, 1)) (z : Int64) (hz : Int64.ofNat i = z) (pc' : Nat) (hp : pc + 1 = pc') (k : own_Go p.tables e below F (T.setTop (mkF m pc' Ls (.long z :: St)))) : own_Go p.tables e below F (T.setTop (mkF m pc Ls (St))) := by
  subst hp hz
  exact own_by (fun _ q => XS.lconst X.here hx rfl hd  q) k
theorem own_aconst_null (X : Stand p l e R s m args below meth c T locs cells slots) (hx : p.tables.exec = Jvm.exec) {F : State → Prop} {pc : Nat} {Ls : Array Slot} {St : List Value}  (hd : decode c.code pc = .ok (.aconst_null, 1)) (pc' : Nat) (hp : pc + 1 = pc') (k : own_Go p.tables e below F (T.setTop (mkF m pc' Ls (.null :: St)))) : own_Go p.tables e below F (T.setTop (mkF m pc Ls (St))) := by
  subst hp
  exact own_by (fun _ q => XS.aconstNull X.here hx rfl hd  q) k
theorem own_iadd (X : Stand p l e R s m args below meth c T locs cells slots) (hx : p.tables.exec = Jvm.exec) {F : State → Prop} {pc : Nat} {Ls : Array Slot} {St : List Value} {x y : Int32} (hd : decode c.code pc = .ok (.iadd, 1)) (pc' : Nat) (hp : pc + 1 = pc') (k : own_Go p.tables e below F (T.setTop (mkF m pc' Ls (.int (x + y) :: St)))) : own_Go p.tables e below F (T.setTop (mkF m pc Ls (.int y :: .int x :: St))) := by
  subst hp
  exact own_by (fun _ q => XS.iadd X.here hx rfl hd rfl q) k
theorem own_isub (X : Stand p l e R s m args below meth c T locs cells slots) (hx : p.tables.exec = Jvm.exec) {F : State → Prop} {pc : Nat} {Ls : Array Slot} {St : List Value} {x y : Int32} (hd : decode c.code pc = .ok (.isub, 1)) (pc' : Nat) (hp : pc + 1 = pc') (k : own_Go p.tables e below F (T.setTop (mkF m pc' Ls (.int (x - y) :: St)))) : own_Go p.tables e below F (T.setTop (mkF m pc Ls (.int y :: .int x :: St))) := by
  subst hp
  exact own_by (fun _ q => XS.isub X.here hx rfl hd rfl q) k
theorem own_imul (X : Stand p l e R s m args below meth c T locs cells slots) (hx : p.tables.exec = Jvm.exec) {F : State → Prop} {pc : Nat} {Ls : Array Slot} {St : List Value} {x y : Int32} (hd : decode c.code pc = .ok (.imul, 1)) (pc' : Nat) (hp : pc + 1 = pc') (k : own_Go p.tables e below F (T.setTop (mkF m pc' Ls (.int (x * y) :: St)))) : own_Go p.tables e below F (T.setTop (mkF m pc Ls (.int y :: .int x :: St))) := by
  subst hp
  exact own_by (fun _ q => XS.imul X.here hx rfl hd rfl q) k
theorem own_iand (X : Stand p l e R s m args below meth c T locs cells slots) (hx : p.tables.exec = Jvm.exec) {F : State → Prop} {pc : Nat} {Ls : Array Slot} {St : List Value} {x y : Int32} (hd : decode c.code pc = .ok (.iand, 1)) (pc' : Nat) (hp : pc + 1 = pc') (k : own_Go p.tables e below F (T.setTop (mkF m pc' Ls (.int (x &&& y) :: St)))) : own_Go p.tables e below F (T.setTop (mkF m pc Ls (.int y :: .int x :: St))) := by
  subst hp
  exact own_by (fun _ q => XS.iand X.here hx rfl hd rfl q) k
theorem own_ior (X : Stand p l e R s m args below meth c T locs cells slots) (hx : p.tables.exec = Jvm.exec) {F : State → Prop} {pc : Nat} {Ls : Array Slot} {St : List Value} {x y : Int32} (hd : decode c.code pc = .ok (.ior, 1)) (pc' : Nat) (hp : pc + 1 = pc') (k : own_Go p.tables e below F (T.setTop (mkF m pc' Ls (.int (x ||| y) :: St)))) : own_Go p.tables e below F (T.setTop (mkF m pc Ls (.int y :: .int x :: St))) := by
  subst hp
  exact own_by (fun _ q => XS.ior X.here hx rfl hd rfl q) k
theorem own_ixor (X : Stand p l e R s m args below meth c T locs cells slots) (hx : p.tables.exec = Jvm.exec) {F : State → Prop} {pc : Nat} {Ls : Array Slot} {St : List Value} {x y : Int32} (hd : decode c.code pc = .ok (.ixor, 1)) (pc' : Nat) (hp : pc + 1 = pc') (k : own_Go p.tables e below F (T.setTop (mkF m pc' Ls (.int (x ^^^ y) :: St)))) : own_Go p.tables e below F (T.setTop (mkF m pc Ls (.int y :: .int x :: St))) := by
  subst hp
  exact own_by (fun _ q => XS.ixor X.here hx rfl hd rfl q) k
theorem own_ishl (X : Stand p l e R s m args below meth c T locs cells slots) (hx : p.tables.exec = Jvm.exec) {F : State → Prop} {pc : Nat} {Ls : Array Slot} {St : List Value} {x y : Int32} (hd : decode c.code pc = .ok (.ishl, 1)) (pc' : Nat) (hp : pc + 1 = pc') (k : own_Go p.tables e below F (T.setTop (mkF m pc' Ls (.int (x <<< (y &&& 31)) :: St)))) : own_Go p.tables e below F (T.setTop (mkF m pc Ls (.int y :: .int x :: St))) := by
  subst hp
  exact own_by (fun _ q => XS.ishl X.here hx rfl hd rfl q) k
theorem own_ishr (X : Stand p l e R s m args below meth c T locs cells slots) (hx : p.tables.exec = Jvm.exec) {F : State → Prop} {pc : Nat} {Ls : Array Slot} {St : List Value} {x y : Int32} (hd : decode c.code pc = .ok (.ishr, 1)) (pc' : Nat) (hp : pc + 1 = pc') (k : own_Go p.tables e below F (T.setTop (mkF m pc' Ls (.int (x >>> (y &&& 31)) :: St)))) : own_Go p.tables e below F (T.setTop (mkF m pc Ls (.int y :: .int x :: St))) := by
  subst hp
  exact own_by (fun _ q => XS.ishr X.here hx rfl hd rfl q) k
theorem own_iushr (X : Stand p l e R s m args below meth c T locs cells slots) (hx : p.tables.exec = Jvm.exec) {F : State → Prop} {pc : Nat} {Ls : Array Slot} {St : List Value} {x y : Int32} (hd : decode c.code pc = .ok (.iushr, 1)) (pc' : Nat) (hp : pc + 1 = pc') (k : own_Go p.tables e below F (T.setTop (mkF m pc' Ls (.int ((x.toUInt32 >>> (y &&& 31).toUInt32).toInt32) :: St)))) : own_Go p.tables e below F (T.setTop (mkF m pc Ls (.int y :: .int x :: St))) := by
  subst hp
  exact own_by (fun _ q => XS.iushr X.here hx rfl hd rfl q) k
theorem own_ladd (X : Stand p l e R s m args below meth c T locs cells slots) (hx : p.tables.exec = Jvm.exec) {F : State → Prop} {pc : Nat} {Ls : Array Slot} {St : List Value} {x y : Int64} (hd : decode c.code pc = .ok (.ladd, 1)) (pc' : Nat) (hp : pc + 1 = pc') (k : own_Go p.tables e below F (T.setTop (mkF m pc' Ls (.long (x + y) :: St)))) : own_Go p.tables e below F (T.setTop (mkF m pc Ls (.long y :: .long x :: St))) := by
  subst hp
  exact own_by (fun _ q => XS.ladd X.here hx rfl hd rfl q) k
theorem own_lsub (X : Stand p l e R s m args below meth c T locs cells slots) (hx : p.tables.exec = Jvm.exec) {F : State → Prop} {pc : Nat} {Ls : Array Slot} {St : List Value} {x y : Int64} (hd : decode c.code pc = .ok (.lsub, 1)) (pc' : Nat) (hp : pc + 1 = pc') (k : own_Go p.tables e below F (T.setTop (mkF m pc' Ls (.long (x - y) :: St)))) : own_Go p.tables e below F (T.setTop (mkF m pc Ls (.long y :: .long x :: St))) := by
  subst hp
  exact own_by (fun _ q => XS.lsub X.here hx rfl hd rfl q) k
theorem own_lmul (X : Stand p l e R s m args below meth c T locs cells slots) (hx : p.tables.exec = Jvm.exec) {F : State → Prop} {pc : Nat} {Ls : Array Slot} {St : List Value} {x y : Int64} (hd : decode c.code pc = .ok (.lmul, 1)) (pc' : Nat) (hp : pc + 1 = pc') (k : own_Go p.tables e below F (T.setTop (mkF m pc' Ls (.long (x * y) :: St)))) : own_Go p.tables e below F (T.setTop (mkF m pc Ls (.long y :: .long x :: St))) := by
  subst hp
  exact own_by (fun _ q => XS.lmul X.here hx rfl hd rfl q) k
theorem own_land (X : Stand p l e R s m args below meth c T locs cells slots) (hx : p.tables.exec = Jvm.exec) {F : State → Prop} {pc : Nat} {Ls : Array Slot} {St : List Value} {x y : Int64} (hd : decode c.code pc = .ok (.land, 1)) (pc' : Nat) (hp : pc + 1 = pc') (k : own_Go p.tables e below F (T.setTop (mkF m pc' Ls (.long (x &&& y) :: St)))) : own_Go p.tables e below F (T.setTop (mkF m pc Ls (.long y :: .long x :: St))) := by
  subst hp
  exact own_by (fun _ q => XS.land X.here hx rfl hd rfl q) k
theorem own_lor (X : Stand p l e R s m args below meth c T locs cells slots) (hx : p.tables.exec = Jvm.exec) {F : State → Prop} {pc : Nat} {Ls : Array Slot} {St : List Value} {x y : Int64} (hd : decode c.code pc = .ok (.lor, 1)) (pc' : Nat) (hp : pc + 1 = pc') (k : own_Go p.tables e below F (T.setTop (mkF m pc' Ls (.long (x ||| y) :: St)))) : own_Go p.tables e below F (T.setTop (mkF m pc Ls (.long y :: .long x :: St))) := by
  subst hp
  exact own_by (fun _ q => XS.lor X.here hx rfl hd rfl q) k
theorem own_lxor (X : Stand p l e R s m args below meth c T locs cells slots) (hx : p.tables.exec = Jvm.exec) {F : State → Prop} {pc : Nat} {Ls : Array Slot} {St : List Value} {x y : Int64} (hd : decode c.code pc = .ok (.lxor, 1)) (pc' : Nat) (hp : pc + 1 = pc') (k : own_Go p.tables e below F (T.setTop (mkF m pc' Ls (.long (x ^^^ y) :: St)))) : own_Go p.tables e below F (T.setTop (mkF m pc Ls (.long y :: .long x :: St))) := by
  subst hp
  exact own_by (fun _ q => XS.lxor X.here hx rfl hd rfl q) k
theorem own_lshl (X : Stand p l e R s m args below meth c T locs cells slots) (hx : p.tables.exec = Jvm.exec) {F : State → Prop} {pc : Nat} {Ls : Array Slot} {St : List Value} {x : Int64} {y : Int32} (hd : decode c.code pc = .ok (.lshl, 1)) (pc' : Nat) (hp : pc + 1 = pc') (k : own_Go p.tables e below F (T.setTop (mkF m pc' Ls (.long (x <<< (y &&& 0x3f).toInt64) :: St)))) : own_Go p.tables e below F (T.setTop (mkF m pc Ls (.int y :: .long x :: St))) := by
  subst hp
  exact own_by (fun _ q => XS.lshl X.here hx rfl hd rfl q) k
theorem own_lshr (X : Stand p l e R s m args below meth c T locs cells slots) (hx : p.tables.exec = Jvm.exec) {F : State → Prop} {pc : Nat} {Ls : Array Slot} {St : List Value} {x : Int64} {y : Int32} (hd : decode c.code pc = .ok (.lshr, 1)) (pc' : Nat) (hp : pc + 1 = pc') (k : own_Go p.tables e below F (T.setTop (mkF m pc' Ls (.long (x >>> (y &&& 0x3f).toInt64) :: St)))) : own_Go p.tables e below F (T.setTop (mkF m pc Ls (.int y :: .long x :: St))) := by
  subst hp
  exact own_by (fun _ q => XS.lshr X.here hx rfl hd rfl q) k
theorem own_lushr (X : Stand p l e R s m args below meth c T locs cells slots) (hx : p.tables.exec = Jvm.exec) {F : State → Prop} {pc : Nat} {Ls : Array Slot} {St : List Value} {x : Int64} {y : Int32} (hd : decode c.code pc = .ok (.lushr, 1)) (pc' : Nat) (hp : pc + 1 = pc') (k : own_Go p.tables e below F (T.setTop (mkF m pc' Ls (.long ((x.toUInt64 >>> (y &&& 0x3f).toInt64.toUInt64).toInt64) :: St)))) : own_Go p.tables e below F (T.setTop (mkF m pc Ls (.int y :: .long x :: St))) := by
  subst hp
  exact own_by (fun _ q => XS.lushr X.here hx rfl hd rfl q) k
theorem own_idiv (X : Stand p l e R s m args below meth c T locs cells slots) (hx : p.tables.exec = Jvm.exec) {F : State → Prop} {pc : Nat} {Ls : Array Slot} {St : List Value} {x y : Int32} (hd : decode c.code pc = .ok (.idiv, 1)) (hy : y ≠ 0) (pc' : Nat) (hp : pc + 1 = pc') (k : own_Go p.tables e below F (T.setTop (mkF m pc' Ls (.int (x / y) :: St)))) : own_Go p.tables e below F (T.setTop (mkF m pc Ls (.int y :: .int x :: St))) := by
  subst hp
  exact own_by (fun _ q => XS.idiv X.here hx rfl hd rfl hy q) k
theorem own_ineg (X : Stand p l e R s m args below meth c T locs cells slots) (hx : p.tables.exec = Jvm.exec) {F : State → Prop} {pc : Nat} {Ls : Array Slot} {St : List Value} {x : Int32} (hd : decode c.code pc = .ok (.ineg, 1)) (pc' : Nat) (hp : pc + 1 = pc') (k : own_Go p.tables e below F (T.setTop (mkF m pc' Ls (.int (-x) :: St)))) : own_Go p.tables e below F (T.setTop (mkF m pc Ls (.int x :: St))) := by
  subst hp
  exact own_by (fun _ q => XS.ineg X.here hx rfl hd rfl q) k
theorem own_i2l (X : Stand p l e R s m args below meth c T locs cells slots) (hx : p.tables.exec = Jvm.exec) {F : State → Prop} {pc : Nat} {Ls : Array Slot} {St : List Value} {x : Int32} (hd : decode c.code pc = .ok (.i2l, 1)) (pc' : Nat) (hp : pc + 1 = pc') (k : own_Go p.tables e below F (T.setTop (mkF m pc' Ls (.long (x.toInt64) :: St)))) : own_Go p.tables e below F (T.setTop (mkF m pc Ls (.int x :: St))) := by
  subst hp
  exact own_by (fun _ q => XS.i2l X.here hx rfl hd rfl q) k
theorem own_l2i (X : Stand p l e R s m args below meth c T locs cells slots) (hx : p.tables.exec = Jvm.exec) {F : State → Prop} {pc : Nat} {Ls : Array Slot} {St : List Value} {x : Int64} (hd : decode c.code pc = .ok (.l2i, 1)) (pc' : Nat) (hp : pc + 1 = pc') (k : own_Go p.tables e below F (T.setTop (mkF m pc' Ls (.int (x.toInt32) :: St)))) : own_Go p.tables e below F (T.setTop (mkF m pc Ls (.long x :: St))) := by
  subst hp
  exact own_by (fun _ q => XS.l2i X.here hx rfl hd rfl q) k
theorem own_i2b (X : Stand p l e R s m args below meth c T locs cells slots) (hx : p.tables.exec = Jvm.exec) {F : State → Prop} {pc : Nat} {Ls : Array Slot} {St : List Value} {x : Int32} (hd : decode c.code pc = .ok (.i2b, 1)) (pc' : Nat) (hp : pc + 1 = pc') (k : own_Go p.tables e below F (T.setTop (mkF m pc' Ls (.int (x.toInt8.toInt32) :: St)))) : own_Go p.tables e below F (T.setTop (mkF m pc Ls (.int x :: St))) := by
  subst hp
  exact own_by (fun _ q => XS.i2b X.here hx rfl hd rfl q) k
theorem own_i2c (X : Stand p l e R s m args below meth c T locs cells slots) (hx : p.tables.exec = Jvm.exec) {F : State → Prop} {pc : Nat} {Ls : Array Slot} {St : List Value} {x : Int32} (hd : decode c.code pc = .ok (.i2c, 1)) (pc' : Nat) (hp : pc + 1 = pc') (k : own_Go p.tables e below F (T.setTop (mkF m pc' Ls (.int (x.toUInt32.toUInt16.toUInt32.toInt32) :: St)))) : own_Go p.tables e below F (T.setTop (mkF m pc Ls (.int x :: St))) := by
  subst hp
  exact own_by (fun _ q => XS.i2c X.here hx rfl hd rfl q) k
theorem own_i2s (X : Stand p l e R s m args below meth c T locs cells slots) (hx : p.tables.exec = Jvm.exec) {F : State → Prop} {pc : Nat} {Ls : Array Slot} {St : List Value} {x : Int32} (hd : decode c.code pc = .ok (.i2s, 1)) (pc' : Nat) (hp : pc + 1 = pc') (k : own_Go p.tables e below F (T.setTop (mkF m pc' Ls (.int (x.toInt16.toInt32) :: St)))) : own_Go p.tables e below F (T.setTop (mkF m pc Ls (.int x :: St))) := by
  subst hp
  exact own_by (fun _ q => XS.i2s X.here hx rfl hd rfl q) k
theorem own_lcmp (X : Stand p l e R s m args below meth c T locs cells slots) (hx : p.tables.exec = Jvm.exec) {F : State → Prop} {pc : Nat} {Ls : Array Slot} {St : List Value} {x y : Int64} (hd : decode c.code pc = .ok (.lcmp, 1)) (pc' : Nat) (hp : pc + 1 = pc') (k : own_Go p.tables e below F (T.setTop (mkF m pc' Ls (.int (lcmpW x y) :: St)))) : own_Go p.tables e below F (T.setTop (mkF m pc Ls (.long y :: .long x :: St))) := by
  subst hp
  exact own_by (fun _ q => XS.lcmp X.here hx rfl hd rfl q) k
theorem own_iinc (X : Stand p l e R s m args below meth c T locs cells slots) (hx : p.tables.exec = Jvm.exec) {F : State → Prop} {pc : Nat} {Ls : Array Slot} {St : List Value} {i : Nat} {cst : Int} {x : Int32} (hd : decode c.code pc = .ok (.iinc i cst, 3)) (l' : Array Slot) (hl : Ls[i]? = some (.val (.int x))) (hl' : storeLocals Ls i (.int (x + Int32.ofInt cst)) = some l') (pc' : Nat) (hp : pc + 3 = pc') (k : own_Go p.tables e below F (T.setTop (mkF m pc' l' (St)))) : own_Go p.tables e below F (T.setTop (mkF m pc Ls (St))) := by
  subst hp
  exact own_by (fun _ q => XS.iinc X.here hx rfl hd hl hl' q) k
theorem own_dup (X : Stand p l e R s m args below meth c T locs cells slots) (hx : p.tables.exec = Jvm.exec) {F : State → Prop} {pc : Nat} {Ls : Array Slot} {St : List Value} {v : Value} (hd : decode c.code pc = .ok (.dup, 1)) (hc : v.category = 1) (pc' : Nat) (hp : pc + 1 = pc') (k : own_Go p.tables e below F (T.setTop (mkF m pc' Ls (v :: v :: St)))) : own_Go p.tables e below F (T.setTop (mkF m pc Ls (v :: St))) := by
  subst hp
  exact own_by (fun _ q => XS.dup X.here hx rfl hd rfl hc q) k
theorem own_pop (X : Stand p l e R s m args below meth c T locs cells slots) (hx : p.tables.exec = Jvm.exec) {F : State → Prop} {pc : Nat} {Ls : Array Slot} {St : List Value} {v : Value} (hd : decode c.code pc = .ok (.pop, 1)) (hc : v.category = 1) (pc' : Nat) (hp : pc + 1 = pc') (k : own_Go p.tables e below F (T.setTop (mkF m pc' Ls (St)))) : own_Go p.tables e below F (T.setTop (mkF m pc Ls (v :: St))) := by
  subst hp
  exact own_by (fun _ q => XS.pop X.here hx rfl hd rfl hc q) k
theorem own_dup_x1 (X : Stand p l e R s m args below meth c T locs cells slots) (hx : p.tables.exec = Jvm.exec) {F : State → Prop} {pc : Nat} {Ls : Array Slot} {St : List Value} {v w : Value} (hd : decode c.code pc = .ok (.dup_x1, 1)) (hc : v.category = 1) (hc' : w.category = 1) (pc' : Nat) (hp : pc + 1 = pc') (k : own_Go p.tables e below F (T.setTop (mkF m pc' Ls (v :: w :: v :: St)))) : own_Go p.tables e below F (T.setTop (mkF m pc Ls (v :: w :: St))) := by
  subst hp
  exact own_by (fun _ q => XS.dupX1 X.here hx rfl hd rfl hc hc' q) k
theorem own_goto (X : Stand p l e R s m args below meth c T locs cells slots) (hx : p.tables.exec = Jvm.exec) {F : State → Prop} {pc : Nat} {Ls : Array Slot} {St : List Value}  {o : Int} (hd : decode c.code pc = .ok (.goto o, 3)) (pc' : Nat) (ho : 0 ≤ (pc : Int) + o) (hp : ((pc : Int) + o).toNat = pc') (k : own_Go p.tables e below F (T.setTop (mkF m pc' Ls (St)))) : own_Go p.tables e below F (T.setTop (mkF m pc Ls (St))) :=
  own_by (fun _ q => XS.goto X.here hx rfl (pc0 := pc) rfl hd  ho hp q) k
theorem own_ifY (X : Stand p l e R s m args below meth c T locs cells slots) (hx : p.tables.exec = Jvm.exec) {F : State → Prop} {pc : Nat} {Ls : Array Slot} {St : List Value} {cd : ClassFile.Cond} {x : Int32} {o : Int} (hd : decode c.code pc = .ok (.ifCond cd o, 3)) (hc : ifCond.holds cd x = true) (pc' : Nat) (ho : 0 ≤ (pc : Int) + o) (hp : ((pc : Int) + o).toNat = pc') (k : own_Go p.tables e below F (T.setTop (mkF m pc' Ls (St)))) : own_Go p.tables e below F (T.setTop (mkF m pc Ls (.int x :: St))) :=
  own_by (fun _ q => XS.ifYes X.here hx rfl (pc0 := pc) rfl hd rfl hc ho hp q) k
theorem own_icmpY (X : Stand p l e R s m args below meth c T locs cells slots) (hx : p.tables.exec = Jvm.exec) {F : State → Prop} {pc : Nat} {Ls : Array Slot} {St : List Value} {cd : ClassFile.Cond} {x y : Int32} {o : Int} (hd : decode c.code pc = .ok (.if_icmp cd o, 3)) (hc : if_icmp.holds cd x y = true) (pc' : Nat) (ho : 0 ≤ (pc : Int) + o) (hp : ((pc : Int) + o).toNat = pc') (k : own_Go p.tables e below F (T.setTop (mkF m pc' Ls (St)))) : own_Go p.tables e below F (T.setTop (mkF m pc Ls (.int y :: .int x :: St))) :=
  own_by (fun _ q => XS.icmpYes X.here hx rfl (pc0 := pc) rfl hd rfl hc ho hp q) k
theorem own_ifnullY (X : Stand p l e R s m args below meth c T locs cells slots) (hx : p.tables.exec = Jvm.exec) {F : State → Prop} {pc : Nat} {Ls : Array Slot} {St : List Value}  {o : Int} (hd : decode c.code pc = .ok (.ifnull o, 3)) (pc' : Nat) (ho : 0 ≤ (pc : Int) + o) (hp : ((pc : Int) + o).toNat = pc') (k : own_Go p.tables e below F (T.setTop (mkF m pc' Ls (St)))) : own_Go p.tables e below F (T.setTop (mkF m pc Ls (.null :: St))) :=
  own_by (fun _ q => XS.ifnullYes X.here hx rfl (pc0 := pc) rfl hd rfl ho hp q) k
theorem own_ifnonnullY (X : Stand p l e R s m args below meth c T locs cells slots) (hx : p.tables.exec = Jvm.exec) {F : State → Prop} {pc : Nat} {Ls : Array Slot} {St : List Value} {b : Addr} {o : Int} (hd : decode c.code pc = .ok (.ifnonnull o, 3)) (pc' : Nat) (ho : 0 ≤ (pc : Int) + o) (hp : ((pc : Int) + o).toNat = pc') (k : own_Go p.tables e below F (T.setTop (mkF m pc' Ls (St)))) : own_Go p.tables e below F (T.setTop (mkF m pc Ls (.ref b :: St))) :=
  own_by (fun _ q => XS.ifnonnullYes X.here hx rfl (pc0 := pc) rfl hd rfl ho hp q) k
theorem own_ifN (X : Stand p l e R s m args below meth c T locs cells slots) (hx : p.tables.exec = Jvm.exec) {F : State → Prop} {pc : Nat} {Ls : Array Slot} {St : List Value} {o : Int} {cd : ClassFile.Cond} {x : Int32} (hd : decode c.code pc = .ok (.ifCond cd o, 3)) (hc : ifCond.holds cd x = false) (pc' : Nat) (hp : pc + 3 = pc') (k : own_Go p.tables e below F (T.setTop (mkF m pc' Ls (St)))) : own_Go p.tables e below F (T.setTop (mkF m pc Ls (.int x :: St))) := by
  subst hp
  exact own_by (fun _ q => XS.ifNo X.here hx rfl hd rfl hc q) k
theorem own_icmpN (X : Stand p l e R s m args below meth c T locs cells slots) (hx : p.tables.exec = Jvm.exec) {F : State → Prop} {pc : Nat} {Ls : Array Slot} {St : List Value} {o : Int} {cd : ClassFile.Cond} {x y : Int32} (hd : decode c.code pc = .ok (.if_icmp cd o, 3)) (hc : if_icmp.holds cd x y = false) (pc' : Nat) (hp : pc + 3 = pc') (k : own_Go p.tables e below F (T.setTop (mkF m pc' Ls (St)))) : own_Go p.tables e below F (T.setTop (mkF m pc Ls (.int y :: .int x :: St))) := by
  subst hp
  exact own_by (fun _ q => XS.icmpNo X.here hx rfl hd rfl hc q) k
theorem own_ifnullN (X : Stand p l e R s m args below meth c T locs cells slots) (hx : p.tables.exec = Jvm.exec) {F : State → Prop} {pc : Nat} {Ls : Array Slot} {St : List Value} {o : Int} {b : Addr} (hd : decode c.code pc = .ok (.ifnull o, 3)) (pc' : Nat) (hp : pc + 3 = pc') (k : own_Go p.tables e below F (T.setTop (mkF m pc' Ls (St)))) : own_Go p.tables e below F (T.setTop (mkF m pc Ls (.ref b :: St))) := by
  subst hp
  exact own_by (fun _ q => XS.ifnullNo X.here hx rfl hd rfl q) k
theorem own_ifnonnullN (X : Stand p l e R s m args below meth c T locs cells slots) (hx : p.tables.exec = Jvm.exec) {F : State → Prop} {pc : Nat} {Ls : Array Slot} {St : List Value} {o : Int} (hd : decode c.code pc = .ok (.ifnonnull o, 3)) (pc' : Nat) (hp : pc + 3 = pc') (k : own_Go p.tables e below F (T.setTop (mkF m pc' Ls (St)))) : own_Go p.tables e below F (T.setTop (mkF m pc Ls (.null :: St))) := by
  subst hp
  exact own_by (fun _ q => XS.ifnonnullNo X.here hx rfl hd rfl q) k
theorem own_irem (X : Stand p l e R s m args below meth c T locs cells slots) (hx : p.tables.exec = Jvm.exec) {F : State → Prop} {pc : Nat} {Ls : Array Slot} {St : List Value} {x y : Int32} (hd : decode c.code pc = .ok (.irem, 1)) (hy : y ≠ 0) (pc' : Nat) (hp : pc + 1 = pc') (k : own_Go p.tables e below F (T.setTop (mkF m pc' Ls (.int (x % y) :: St)))) : own_Go p.tables e below F (T.setTop (mkF m pc Ls (.int y :: .int x :: St))) := by
  subst hp
  exact own_by (fun _ q => iremM X hx rfl hd rfl hy q) k
theorem own_acmp (X : Stand p l e R s m args below meth c T locs cells slots) (hx : p.tables.exec = Jvm.exec) {F : State → Prop} {pc : Nat} {Ls : Array Slot} {St : List Value} {cd : ACond} {x y : Value} {o : Int} (same : Bool) (hd : decode c.code pc = .ok (.if_acmp cd o, 3)) (h1 : x.isRef = true) (h2 : y.isRef = true) (hq : decide (x = y) = same) (pc' : Nat) (ho : 0 ≤ (pc : Int) + o) (hp : pc' = if acV cd same = true then ((pc : Int) + o).toNat else pc + 3) (k : own_Go p.tables e below F (T.setTop (mkF m pc' Ls St))) : own_Go p.tables e below F (T.setTop (mkF m pc Ls (y :: x :: St))) :=
  own_by (fun _ q => Jvm.RoadKit.acmp (g := mkF m pc Ls (y :: x :: St)) X hx rfl h1 h2 (pc0 := pc) rfl hd rfl hq ho hp q) k
theorem own_ldc (X : Stand p l e R s m args below meth c T locs cells slots) (hx : p.tables.exec = Jvm.exec) {F : State → Prop} {pc : Nat} {Ls : Array Slot} {St : List Value} (hZ : Z.Warmed39 s.vm) {own : String} {i : Nat} {z : Int32} (hown : s.vm.findClass own = some m.cls) (w : (Cond.constant own i z).before a0 Z = true) (hd : decode c.code pc = .ok (.ldc i, 2)) (pc' : Nat) (hp : pc + 2 = pc') (k : own_Go p.tables e below F (T.setTop (mkF m pc' Ls (.int z :: St)))) : own_Go p.tables e below F (T.setTop (mkF m pc Ls St)) := by
  subst hp
  exact own_by (fun _ q => X.ldcInt hx hown (mvT hZ w) (g := mkF m pc Ls St) rfl hd _ q) k
theorem own_getS (X : Stand p l e R s m args below meth c T locs cells slots) (hx : p.tables.exec = Jvm.exec) {F : State → Prop} {pc : Nat} {Ls : Array Slot} {St : List Value} (hZ : Z.Warmed39 s.vm) {own R0 O n d host : String} {i : Nat} (hown : s.vm.findClass own = some m.cls) (w : (Cond.fieldLink own i R0 n d).before a0 Z = true ∨ (Cond.fieldLinkNest own i R0 n d host).before a0 Z = true) (via : Via Z R0 O n d) (eT : T.heap = h) {v : Value} (S : Sta Z h O n d v) (hd : decode c.code pc = .ok (.getstatic i, 3)) (pc' : Nat) (hp : pc + 3 = pc')
    (k : ∀ T', Stand p l e R s m args below meth c T' locs cells slots → T'.heap = h → own_Go p.tables e below F (T'.setTop (mkF m pc' Ls (v :: St)))) : own_Go p.tables e below F (T.setTop (mkF m pc Ls St)) := by
  subst hp
  obtain ⟨T', X', e', st⟩ := getS2 X hx hZ hown w via eT S (g := mkF m pc Ls St) rfl hd
  exact own_by st (k T' X' e')
theorem own_getF (X : Stand p l e R s m args below meth c T locs cells slots) (hx : p.tables.exec = Jvm.exec) {F : State → Prop} {pc : Nat} {Ls : Array Slot} {St : List Value} (hZ : Z.Warmed39 s.vm) {own R0 O n d host : String} {i : Nat} (hown : s.vm.findClass own = some m.cls) (w : (Cond.fieldLink own i R0 n d).before a0 Z = true ∨ (Cond.fieldLinkNest own i R0 n d host).before a0 Z = true) (via : Via Z R0 O n d) (eT : T.heap = h) {a : Addr} {v : Value} (S : Fld Z h a O n d v) (hd : decode c.code pc = .ok (.getfield i, 3)) (pc' : Nat) (hp : pc + 3 = pc')
    (k : ∀ T', Stand p l e R s m args below meth c T' locs cells slots → T'.heap = h → own_Go p.tables e below F (T'.setTop (mkF m pc' Ls (v :: St)))) : own_Go p.tables e below F (T.setTop (mkF m pc Ls (.ref a :: St))) := by
  subst hp
  obtain ⟨T', X', e', st⟩ := getF X hx hZ hown w via eT S (g := mkF m pc Ls (.ref a :: St)) rfl rfl hd
  exact own_by st (k T' X' e')
theorem own_lsw (X : Stand p l e R s m args below meth c T locs cells slots) (hx : p.tables.exec = Jvm.exec) {F : State → Prop} {pc : Nat} {Ls : Array Slot} {St : List Value} {dflt : Int} {pairs : Array (Int × Int)} {len : Nat} {i : Int32} (o : Int) (hd : decode c.code pc = .ok (.lookupswitch dflt pairs, len)) (hoff : lookupswitch.offset pairs.toList dflt i.toInt = o) (hso : (pairs.toList.zip pairs.toList.tail).all (fun q => decide (q.1.1 < q.2.1)) = true) (pc' : Nat) (ho : 0 ≤ (pc : Int) + o) (hp : ((pc : Int) + o).toNat = pc') (k : own_Go p.tables e below F (T.setTop (mkF m pc' Ls St))) : own_Go p.tables e below F (T.setTop (mkF m pc Ls (.int i :: St))) :=
  own_by (fun _ q => own_lsw0 X.here hx rfl (pc0 := pc) rfl hd rfl hoff hso ho hp q) k
theorem own_tsw (X : Stand p l e R s m args below meth c T locs cells slots) (hx : p.tables.exec = Jvm.exec) {F : State → Prop} {pc : Nat} {Ls : Array Slot} {St : List Value} {dflt lo hi : Int} {offs : Array Int} {len : Nat} {i : Int32} (o : Int) (hd : decode c.code pc = .ok (.tableswitch dflt lo hi offs, len)) (hin : ¬ (i.toInt < lo ∨ i.toInt > hi)) (hoff : offs[(i.toInt - lo).toNat]? = some o) (pc' : Nat) (ho : 0 ≤ (pc : Int) + o) (hp : ((pc : Int) + o).toNat = pc') (k : own_Go p.tables e below F (T.setTop (mkF m pc' Ls St))) : own_Go p.tables e below F (T.setTop (mkF m pc Ls (.int i :: St))) :=
  own_by (fun _ q => XS.tswIn X.here hx rfl (pc0 := pc) rfl hd rfl hin hoff ho hp q) k
theorem own_tswD (X : Stand p l e R s m args below meth c T locs cells slots) (hx : p.tables.exec = Jvm.exec) {F : State → Prop} {pc : Nat} {Ls : Array Slot} {St : List Value} {dflt lo hi : Int} {offs : Array Int} {len : Nat} {i : Int32} (hd : decode c.code pc = .ok (.tableswitch dflt lo hi offs, len)) (hout : i.toInt < lo ∨ i.toInt > hi) (pc' : Nat) (ho : 0 ≤ (pc : Int) + dflt) (hp : ((pc : Int) + dflt).toNat = pc') (k : own_Go p.tables e below F (T.setTop (mkF m pc' Ls St))) : own_Go p.tables e below F (T.setTop (mkF m pc Ls (.int i :: St))) :=
  own_by (fun _ q => XS.tswOut X.here hx rfl (pc0 := pc) rfl hd rfl hout ho hp q) k

theorem own_topI {F : State → Prop} {pc : Nat} {Ls : Array Slot} {St : List Value} {x : Int32} (z : Int32) (hz : x = z) (k : own_Go p.tables e below F (T.setTop (mkF m pc Ls (.int z :: St)))) : own_Go p.tables e below F (T.setTop (mkF m pc Ls (.int x :: St))) := by
  subst hz
  exact k
theorem own_topJ {F : State → Prop} {pc : Nat} {Ls : Array Slot} {St : List Value} {x : Int64} (z : Int64) (hz : x = z) (k : own_Go p.tables e below F (T.setTop (mkF m pc Ls (.long z :: St)))) : own_Go p.tables e below F (T.setTop (mkF m pc Ls (.long x :: St))) := by
  subst hz
  exact k
theorem own_lcmp0 (x : Int64) : lcmpW x x = 0 := by simp [lcmpW]
theorem own_lceq (x y : Int64) : lcmpW x y = (0 : Int32) ↔ x = y := by rw [lcW]; exact lc_eq x y
theorem own_iincC (X : Stand p l e R s m args below meth c T locs cells slots) (hx : p.tables.exec = Jvm.exec) {F : State → Prop} {pc : Nat} {Ls : Array Slot} {St : List Value} {i : Nat} {cst : Int} {x : Int32} (hd : decode c.code pc = .ok (.iinc i cst, 3)) (l' : Array Slot) (hl : Ls[i]? = some (.val (.int x))) (z : Int32) (hz : x + Int32.ofInt cst = z) (hl' : storeLocals Ls i (.int z) = some l') (pc' : Nat) (hp : pc + 3 = pc') (k : own_Go p.tables e below F (T.setTop (mkF m pc' l' St))) : own_Go p.tables e below F (T.setTop (mkF m pc Ls St)) := by
  subst hz
  exact own_iinc X hx hd l' hl hl' pc' hp k
/-- a body's contract: y, entered with 'as' over the heap h, ends, and Q holds of what it returns, of the heap and of the places written -/
abbrev own_Met (l : Launch) (y : MethodName) (bytes : ByteArray) (ml : Nat) (ret : Option FieldType) (ws : List Cond) (rm : Room) (Z : State) (as : Array Value) (h : Heap) (Q : Option Value → Heap → List Loc → Prop) : Prop :=
  MetFree l y (head1 (Jvm.Cond.code y bytes ml ret :: ws) rm) (fun a U => a = as ∧ Z.Warmed39 U.vm ∧ U.heap = h) (fun _ _ _ _ _ => True) (fun _ U o U' => ∃ v L, o = .returned v ∧ Q v U'.heap L ∧ FrameEnd U o U' L rm.cells rm.slots)
theorem own_met {y : MethodName} {bytes : ByteArray} {ml : Nat} {ret : Option FieldType} {ws : List Cond} {rm : Room} {as : Array Value} {Q : Option Value → Heap → List Loc → Prop} (hp : plainFor y = true)
    (body : ∀ (p : Program) (e : Env) (s : State) (m : MethodId) (below : List Frame) (meth : Method) (c : Code) (T0 : State), p.tables.exec = Jvm.exec → c.code = bytes → c.maxLocals = ml → s.vm.findClass y.cls = some m.cls → meth.sig.returnType = ret → meth.locks = false → meth.name = y.name → Z.Warmed39 s.vm →
      Stand p l e rm s m as below meth c T0 [] 0 0 → T0.heap = h → own_Go p.tables e below (own_Fin s below Q rm.cells rm.slots) (T0.setTop (entryFrame m as ml))) : own_Met l y bytes ml ret ws rm Z as h Q := by
  refine MetFree.of_bodySF hp hisR ?_
  intro p e s m args below meth c s₁ Bd hml0 hP hK
  obtain ⟨rfl, hZ, hh⟩ := hP
  have e0 : s₁.heap = h := by rw [← hh, Bd.state]; rfl
  obtain ⟨t, h1, o, h2, h3, h4⟩ := body p e s m below meth c s₁ Bd.exec Bd.bytes hml0 (findClass_of_methodNamed Bd.named) Bd.returns (BodyLoose.notSynchronized Bd) (name_of_methodNamed Bd.named Bd.method).1 hZ (Stand.of_body Bd) e0
  exact ⟨t, o, h1, h2, h3, h4⟩
theorem own_callS (X : Stand p l e R s m args below meth c T locs cells slots) (hx : p.tables.exec = Jvm.exec) (hZ : Z.Warmed39 s.vm) {own : String} {index : Nat} {y : MethodName} {bytes : ByteArray} {maxL : Nat} {ret : Option FieldType} {rm : Room} (hown : s.vm.findClass own = some m.cls)
    (w1 : (Cond.methodLink own index y).before a0 Z = true) (w2 : (Cond.static y).before a0 Z = true) (w3 : (Cond.initialized y.cls).before a0 Z = true) (w4 : (Cond.code y bytes maxL ret).before a0 Z = true) (hy : y.cls ≠ "java/lang/invoke/MethodHandle" ∧ y.cls ≠ "java/lang/invoke/VarHandle")
    {Q : Option Value → Heap → List Loc → Prop} (argsL rest : List Value) (W : Nat) (hM : own_Met l y bytes maxL ret [] rm Z argsL.toArray h Q) (hf : rm.frames + 1 ≤ R.frames) (hl : W + (maxL + 11) + rm.locals ≤ R.locals) (eT : T.heap = h) {pc : Nat} {Ls : Array Slot} (hsize : Ls.size = c.maxLocals)
    (hlen : ∀ sig, parseMethodDescriptor y.desc = some sig → argsL.length = sig.parameters.length) (hW : 2 * 0 + (rest.map fun v => v.category).sum ≤ W) (hd : decode c.code pc = .ok (.invokestatic index, 3)) (hC : cells + rm.cells ≤ R.cells) (hN : slots + rm.slots ≤ R.slots) :
    ∃ (v : Option Value) (T' : State) (L : List Loc), Stand p l e R s m args below meth c T' (locs ++ L) (cells + rm.cells) (slots + rm.slots) ∧ Q v T'.heap L ∧ ∀ target, Steps p.tables e below (T'.setTop (mkF m (pc + 3) Ls (v.toList ++ rest))) target → Steps p.tables e below (T.setTop (mkF m pc Ls (argsL.reverse ++ rest))) target := by
  obtain ⟨v, _, ⟨T', L', k', n'⟩, -, X', ⟨L, hQ, h1, h2, h3⟩, st⟩ := Jvm.LawKit.callS X hx (y := y) hown (mvT hZ w1) (mvT hZ w2) (mvT hZ w3) (mvT hZ w4) hy (backOf (W := W) hM hZ w4 w3 hf hl) (g := mkF m pc Ls (argsL.reverse ++ rest)) rfl hsize (argsL := argsL) (rest := rest) hlen rfl hW hd (fun _ _ => ⟨rfl, eT, hC, hN⟩)
  dsimp only [Pt.U, Pt.locs, Pt.cells, Pt.slots] at X' h1 h2 h3 st hQ
  subst h1 h2 h3
  exact ⟨v, T', L, X', hQ, st⟩
theorem own_callV (X : Stand p l e R s m args below meth c T locs cells slots) (hx : p.tables.exec = Jvm.exec) (hZ : Z.Warmed39 s.vm) {own C : String} {index : Nat} {y z : MethodName} {bytes : ByteArray} {maxL : Nat} {ret : Option FieldType} {rm : Room} (hown : s.vm.findClass own = some m.cls)
    (w1 : (Cond.methodLink own index y).before a0 Z = true) (w2 : (Cond.declares y).before a0 Z = true) (hnf : NotFace s y) (w3 : (Cond.selects C y z).before a0 Z = true) (w4 : (Cond.instanceMethod z).before a0 Z = true) (w5 : (Cond.initialized z.cls).before a0 Z = true) (w6 : (Cond.code z bytes maxL ret).before a0 Z = true) (hy : y.cls ≠ "java/lang/invoke/MethodHandle" ∧ y.cls ≠ "java/lang/invoke/VarHandle")
    {Q : Option Value → Heap → List Loc → Prop} (b : Addr) (argsL rest : List Value) (W : Nat) (hM : own_Met l z bytes maxL ret [] rm Z (.ref b :: argsL).toArray h Q) (hf : rm.frames + 1 ≤ R.frames) (hl : W + (maxL + 11) + rm.locals ≤ R.locals) (eT : T.heap = h) (E : Exa Z h b C) {pc : Nat} {Ls : Array Slot} (hsize : Ls.size = c.maxLocals)
    (hlen : ∀ sig, parseMethodDescriptor y.desc = some sig → argsL.length = sig.parameters.length) (hW : 2 * 0 + (rest.map fun v => v.category).sum ≤ W) (hd : decode c.code pc = .ok (.invokevirtual index, 3)) (hC : cells + rm.cells ≤ R.cells) (hN : slots + rm.slots ≤ R.slots) :
    ∃ (v : Option Value) (T' : State) (L : List Loc), Stand p l e R s m args below meth c T' (locs ++ L) (cells + rm.cells) (slots + rm.slots) ∧ Q v T'.heap L ∧ ∀ target, Steps p.tables e below (T'.setTop (mkF m (pc + 3) Ls (v.toList ++ rest))) target → Steps p.tables e below (T.setTop (mkF m pc Ls (argsL.reverse ++ .ref b :: rest))) target := by
  obtain ⟨cq, kq, qa, qb, qc⟩ := isOf hZ eT E
  obtain ⟨v, _, ⟨T', L', k', n'⟩, -, X', ⟨L, hQ, h1, h2, h3⟩, st⟩ := X.virtualBack hx (y := y) (z := z) hown (mvT hZ w1) (mvT hZ w2) hnf (mvT hZ w3) (mvT hZ w4) hy (backOf (W := W) hM hZ w6 w5 hf hl) qa qc (g := mkF m pc Ls (argsL.reverse ++ .ref b :: rest)) rfl hsize (Steps.refl _) (argsL := argsL) (rest := rest) hlen rfl hW hd (fun _ _ => ⟨rfl, eT, hC, hN⟩)
  dsimp only [Pt.U, Pt.locs, Pt.cells, Pt.slots] at X' h1 h2 h3 st hQ
  subst h1 h2 h3
  exact ⟨v, T', L, X', hQ, fun t k => st.trans k⟩
theorem own_callU (X : Stand p l e R s m args below meth c T locs cells slots) (hx : p.tables.exec = Jvm.exec) (hZ : Z.Warmed39 s.vm) {own C owner : String} {index : Nat} {x z : MethodName} {bytes : ByteArray} {maxL : Nat} {ret : Option FieldType} {rm : Room} (hown : s.vm.findClass own = some m.cls)
    (w1 : (Cond.methodLink own index x).before a0 Z = true) (w2 : (Cond.sameMethod x.cls owner x.name x.desc).before a0 Z = true) (w2' : (Cond.declares ⟨owner, x.name, x.desc⟩).before a0 Z = true) (hy : owner ≠ "java/lang/invoke/MethodHandle" ∧ owner ≠ "java/lang/invoke/VarHandle") (w3 : (Cond.selects C x z).before a0 Z = true) (w4 : (Cond.instanceMethod z).before a0 Z = true) (w5 : (Cond.initialized z.cls).before a0 Z = true) (w6 : (Cond.code z bytes maxL ret).before a0 Z = true)
    {Q : Option Value → Heap → List Loc → Prop} (b : Addr) (argsL rest : List Value) (W : Nat) (hM : own_Met l z bytes maxL ret [] rm Z (.ref b :: argsL).toArray h Q) (hf : rm.frames + 1 ≤ R.frames) (hl : W + (maxL + 11) + rm.locals ≤ R.locals) (eT : T.heap = h) (E : Exa Z h b C) {pc : Nat} {Ls : Array Slot} (hsize : Ls.size = c.maxLocals)
    (hlen : ∀ sig, parseMethodDescriptor x.desc = some sig → argsL.length = sig.parameters.length) (hW : 2 * 0 + (rest.map fun v => v.category).sum ≤ W) (hd : decode c.code pc = .ok (.invokevirtual index, 3)) (hC : cells + rm.cells ≤ R.cells) (hN : slots + rm.slots ≤ R.slots) :
    ∃ (v : Option Value) (T' : State) (L : List Loc), Stand p l e R s m args below meth c T' (locs ++ L) (cells + rm.cells) (slots + rm.slots) ∧ Q v T'.heap L ∧ ∀ target, Steps p.tables e below (T'.setTop (mkF m (pc + 3) Ls (v.toList ++ rest))) target → Steps p.tables e below (T.setTop (mkF m pc Ls (argsL.reverse ++ .ref b :: rest))) target := by
  obtain ⟨cq, kq, qa, qb, qc⟩ := isOf hZ eT E
  obtain ⟨v, _, ⟨T', L', k', n'⟩, -, X', ⟨L, hQ, h1, h2, h3⟩, st⟩ := X.virtualBackUp hx (x := x) (y := z) (owner := owner) hown (mvT hZ w1) (mvT hZ w2) (mvT hZ w2') hy (mvT hZ w3) (mvT hZ w4) (backOf (W := W) hM hZ w6 w5 hf hl) qa qc (g := mkF m pc Ls (argsL.reverse ++ .ref b :: rest)) rfl hsize (Steps.refl _) (argsL := argsL) (rest := rest) hlen rfl hW hd (fun _ _ => ⟨rfl, eT, hC, hN⟩)
  dsimp only [Pt.U, Pt.locs, Pt.cells, Pt.slots] at X' h1 h2 h3 st hQ
  subst h1 h2 h3
  exact ⟨v, T', L, X', hQ, fun t k => st.trans k⟩
theorem own_callN (X : Stand p l e R s m args below meth c T locs cells slots) (hx : p.tables.exec = Jvm.exec) (hZ : Z.Warmed39 s.vm) {own : String} {index : Nat} {y : MethodName} {bytes : ByteArray} {maxL : Nat} {rm : Room} (hy1 : y.name = "<init>") (hown : s.vm.findClass own = some m.cls)
    (w1 : (Cond.methodLink own index y).before a0 Z = true) (w4 : (Cond.instanceMethod y).before a0 Z = true) (w5 : (Cond.initialized y.cls).before a0 Z = true) (w6 : (Cond.code y bytes maxL none).before a0 Z = true) (hy : y.cls ≠ "java/lang/invoke/MethodHandle" ∧ y.cls ≠ "java/lang/invoke/VarHandle")
    {Q : Option Value → Heap → List Loc → Prop} (b : Addr) (argsL rest : List Value) (W : Nat) (hM : own_Met l y bytes maxL none [] rm Z (.ref b :: argsL).toArray h Q) (hf : rm.frames + 1 ≤ R.frames) (hl : W + (maxL + 11) + rm.locals ≤ R.locals) (eT : T.heap = h) {pc : Nat} {Ls : Array Slot} (hsize : Ls.size = c.maxLocals)
    (hlen : ∀ sig, parseMethodDescriptor y.desc = some sig → argsL.length = sig.parameters.length) (hW : 2 * 0 + (rest.map fun v => v.category).sum ≤ W) (hd : decode c.code pc = .ok (.invokespecial index, 3)) (hC : cells + rm.cells ≤ R.cells) (hN : slots + rm.slots ≤ R.slots) :
    ∃ (v : Option Value) (T' : State) (L : List Loc), Stand p l e R s m args below meth c T' (locs ++ L) (cells + rm.cells) (slots + rm.slots) ∧ Q v T'.heap L ∧ ∀ target, Steps p.tables e below (T'.setTop (mkF m (pc + 3) Ls (v.toList ++ rest))) target → Steps p.tables e below (T.setTop (mkF m pc Ls (argsL.reverse ++ .ref b :: rest))) target := by
  obtain ⟨v, _, ⟨T', L', k', n'⟩, -, X', ⟨L, hQ, h1, h2, h3⟩, st⟩ := X.specialBack hx (y := y) hy1 hown (mvT hZ w1) (mvT hZ w4) (mvT hZ w6) hy (backOf (W := W) hM hZ w6 w5 hf hl) (g := mkF m pc Ls (argsL.reverse ++ .ref b :: rest)) rfl hsize (Steps.refl _) (a := b) (argsL := argsL) (rest := rest) hlen rfl hW hd (fun _ _ => ⟨rfl, eT, hC, hN⟩)
  dsimp only [Pt.U, Pt.locs, Pt.cells, Pt.slots] at X' h1 h2 h3 st hQ
  subst h1 h2 h3
  exact ⟨v, T', L, X', hQ, fun t k => st.trans k⟩
abbrev own_HW (Z : State) (a0 : Array Value) : Prop := ∀ d ∈ tables_1, d.before a0 Z = true
theorem own_w {a0 : Array Value} {Z : State} (hw : ∀ d ∈ tables_1, d.before a0 Z = true) (i : Nat) {d : Jvm.Cond} (q : tables_1[i]? = some d) : d.before a0 Z = true := hw _ (List.mem_of_getElem? q)
/-- a body that writes nothing and makes nothing -/
def own_R (r : Option Value) (h0 : Heap) (v : Option Value) (h : Heap) (L : List Loc) : Prop := v = r ∧ h = h0 ∧ L = []
theorem own_same {rm : Room} {T' : State} {L : List Loc} (hc : rm.cells = 0) (hs : rm.slots = 0) (X : Stand p l e R s m args below meth c T' (locs ++ L) (cells + rm.cells) (slots + rm.slots)) (q : L = []) : Stand p l e R s m args below meth c T' locs cells slots := by
  subst q
  rw [hc, hs, List.append_nil] at X
  exact X
theorem own_pureS (X : Stand p l e R s m args below meth c T locs cells slots) (hx : p.tables.exec = Jvm.exec) {F : State → Prop} (hZ : Z.Warmed39 s.vm) {own : String} {index : Nat} {y : MethodName} {bytes : ByteArray} {maxL : Nat} {ret : Option FieldType} {rm : Room} (hown : s.vm.findClass own = some m.cls)
    (w1 : (Cond.methodLink own index y).before a0 Z = true) (w2 : (Cond.static y).before a0 Z = true) (w3 : (Cond.initialized y.cls).before a0 Z = true) (w4 : (Cond.code y bytes maxL ret).before a0 Z = true) (hy : y.cls ≠ "java/lang/invoke/MethodHandle" ∧ y.cls ≠ "java/lang/invoke/VarHandle")
    (argsL rest : List Value) (W : Nat) {r : Value} (hM : own_Met l y bytes maxL ret [] rm Z argsL.toArray h (own_R (some r) h)) (hf : rm.frames + 1 ≤ R.frames) (hl : W + (maxL + 11) + rm.locals ≤ R.locals) (hc0 : rm.cells = 0) (hs0 : rm.slots = 0) (eT : T.heap = h) {pc : Nat} {Ls : Array Slot} (hsize : Ls.size = c.maxLocals)
    (hlen : ∀ sig, parseMethodDescriptor y.desc = some sig → argsL.length = sig.parameters.length) (hW : 2 * 0 + (rest.map fun v => v.category).sum ≤ W) (hd : decode c.code pc = .ok (.invokestatic index, 3)) (pc' : Nat) (hp : pc + 3 = pc') {St : List Value} (hs : St = argsL.reverse ++ rest) (hC : cells ≤ R.cells) (hN : slots ≤ R.slots)
    (k : ∀ T', Stand p l e R s m args below meth c T' locs cells slots → T'.heap = h → own_Go p.tables e below F (T'.setTop (mkF m pc' Ls (r :: rest)))) : own_Go p.tables e below F (T.setTop (mkF m pc Ls St)) := by
  subst hp hs
  obtain ⟨v, T', L, X', ⟨q1, q2, q3⟩, st⟩ := own_callS X hx hZ hown w1 w2 w3 w4 hy argsL rest W hM hf hl eT hsize hlen hW hd (by rw [hc0]; exact hC) (by rw [hs0]; exact hN)
  subst q1
  exact own_by st (k T' (own_same hc0 hs0 X' q3) q2)
theorem own_pureV (X : Stand p l e R s m args below meth c T locs cells slots) (hx : p.tables.exec = Jvm.exec) {F : State → Prop} (hZ : Z.Warmed39 s.vm) {own C : String} {index : Nat} {y z : MethodName} {bytes : ByteArray} {maxL : Nat} {ret : Option FieldType} {rm : Room} (hown : s.vm.findClass own = some m.cls)
    (w1 : (Cond.methodLink own index y).before a0 Z = true) (w2 : (Cond.declares y).before a0 Z = true) (hnf : NotFace s y) (w3 : (Cond.selects C y z).before a0 Z = true) (w4 : (Cond.instanceMethod z).before a0 Z = true) (w5 : (Cond.initialized z.cls).before a0 Z = true) (w6 : (Cond.code z bytes maxL ret).before a0 Z = true) (hy : y.cls ≠ "java/lang/invoke/MethodHandle" ∧ y.cls ≠ "java/lang/invoke/VarHandle")
    (b : Addr) (argsL rest : List Value) (W : Nat) {r : Value} (hM : own_Met l z bytes maxL ret [] rm Z (.ref b :: argsL).toArray h (own_R (some r) h)) (hf : rm.frames + 1 ≤ R.frames) (hl : W + (maxL + 11) + rm.locals ≤ R.locals) (hc0 : rm.cells = 0) (hs0 : rm.slots = 0) (eT : T.heap = h) (E : Exa Z h b C) {pc : Nat} {Ls : Array Slot} (hsize : Ls.size = c.maxLocals)
    (hlen : ∀ sig, parseMethodDescriptor y.desc = some sig → argsL.length = sig.parameters.length) (hW : 2 * 0 + (rest.map fun v => v.category).sum ≤ W) (hd : decode c.code pc = .ok (.invokevirtual index, 3)) (pc' : Nat) (hp : pc + 3 = pc') {St : List Value} (hs : St = argsL.reverse ++ .ref b :: rest) (hC : cells ≤ R.cells) (hN : slots ≤ R.slots)
    (k : ∀ T', Stand p l e R s m args below meth c T' locs cells slots → T'.heap = h → own_Go p.tables e below F (T'.setTop (mkF m pc' Ls (r :: rest)))) : own_Go p.tables e below F (T.setTop (mkF m pc Ls St)) := by
  subst hp hs
  obtain ⟨v, T', L, X', ⟨q1, q2, q3⟩, st⟩ := own_callV X hx hZ hown w1 w2 hnf w3 w4 w5 w6 hy b argsL rest W hM hf hl eT E hsize hlen hW hd (by rw [hc0]; exact hC) (by rw [hs0]; exact hN)
  subst q1
  exact own_by st (k T' (own_same hc0 hs0 X' q3) q2)
theorem own_pureU (X : Stand p l e R s m args below meth c T locs cells slots) (hx : p.tables.exec = Jvm.exec) {F : State → Prop} (hZ : Z.Warmed39 s.vm) {own C owner : String} {index : Nat} {x z : MethodName} {bytes : ByteArray} {maxL : Nat} {ret : Option FieldType} {rm : Room} (hown : s.vm.findClass own = some m.cls)
    (w1 : (Cond.methodLink own index x).before a0 Z = true) (w2 : (Cond.sameMethod x.cls owner x.name x.desc).before a0 Z = true) (w2' : (Cond.declares ⟨owner, x.name, x.desc⟩).before a0 Z = true) (hy : owner ≠ "java/lang/invoke/MethodHandle" ∧ owner ≠ "java/lang/invoke/VarHandle") (w3 : (Cond.selects C x z).before a0 Z = true) (w4 : (Cond.instanceMethod z).before a0 Z = true) (w5 : (Cond.initialized z.cls).before a0 Z = true) (w6 : (Cond.code z bytes maxL ret).before a0 Z = true)
    (b : Addr) (argsL rest : List Value) (W : Nat) {r : Value} (hM : own_Met l z bytes maxL ret [] rm Z (.ref b :: argsL).toArray h (own_R (some r) h)) (hf : rm.frames + 1 ≤ R.frames) (hl : W + (maxL + 11) + rm.locals ≤ R.locals) (hc0 : rm.cells = 0) (hs0 : rm.slots = 0) (eT : T.heap = h) (E : Exa Z h b C) {pc : Nat} {Ls : Array Slot} (hsize : Ls.size = c.maxLocals)
    (hlen : ∀ sig, parseMethodDescriptor x.desc = some sig → argsL.length = sig.parameters.length) (hW : 2 * 0 + (rest.map fun v => v.category).sum ≤ W) (hd : decode c.code pc = .ok (.invokevirtual index, 3)) (pc' : Nat) (hp : pc + 3 = pc') {St : List Value} (hs : St = argsL.reverse ++ .ref b :: rest) (hC : cells ≤ R.cells) (hN : slots ≤ R.slots)
    (k : ∀ T', Stand p l e R s m args below meth c T' locs cells slots → T'.heap = h → own_Go p.tables e below F (T'.setTop (mkF m pc' Ls (r :: rest)))) : own_Go p.tables e below F (T.setTop (mkF m pc Ls St)) := by
  subst hp hs
  obtain ⟨v, T', L, X', ⟨q1, q2, q3⟩, st⟩ := own_callU X hx hZ hown w1 w2 w2' hy w3 w4 w5 w6 b argsL rest W hM hf hl eT E hsize hlen hW hd (by rw [hc0]; exact hC) (by rw [hs0]; exact hN)
  subst q1
  exact own_by st (k T' (own_same hc0 hs0 X' q3) q2)
theorem own_voidS (X : Stand p l e R s m args below meth c T locs cells slots) (hx : p.tables.exec = Jvm.exec) {F : State → Prop} (hZ : Z.Warmed39 s.vm) {own : String} {index : Nat} {y : MethodName} {bytes : ByteArray} {maxL : Nat} {ret : Option FieldType} {rm : Room} (hown : s.vm.findClass own = some m.cls)
    (w1 : (Cond.methodLink own index y).before a0 Z = true) (w2 : (Cond.static y).before a0 Z = true) (w3 : (Cond.initialized y.cls).before a0 Z = true) (w4 : (Cond.code y bytes maxL ret).before a0 Z = true) (hy : y.cls ≠ "java/lang/invoke/MethodHandle" ∧ y.cls ≠ "java/lang/invoke/VarHandle")
    (argsL rest : List Value) (W : Nat) (hM : own_Met l y bytes maxL ret [] rm Z argsL.toArray h (own_R none h)) (hf : rm.frames + 1 ≤ R.frames) (hl : W + (maxL + 11) + rm.locals ≤ R.locals) (hc0 : rm.cells = 0) (hs0 : rm.slots = 0) (eT : T.heap = h) {pc : Nat} {Ls : Array Slot} (hsize : Ls.size = c.maxLocals)
    (hlen : ∀ sig, parseMethodDescriptor y.desc = some sig → argsL.length = sig.parameters.length) (hW : 2 * 0 + (rest.map fun v => v.category).sum ≤ W) (hd : decode c.code pc = .ok (.invokestatic index, 3)) (pc' : Nat) (hp : pc + 3 = pc') {St : List Value} (hs : St = argsL.reverse ++ rest) (hC : cells ≤ R.cells) (hN : slots ≤ R.slots)
    (k : ∀ T', Stand p l e R s m args below meth c T' locs cells slots → T'.heap = h → own_Go p.tables e below F (T'.setTop (mkF m pc' Ls rest))) : own_Go p.tables e below F (T.setTop (mkF m pc Ls St)) := by
  subst hp hs
  obtain ⟨v, T', L, X', ⟨q1, q2, q3⟩, st⟩ := own_callS X hx hZ hown w1 w2 w3 w4 hy argsL rest W hM hf hl eT hsize hlen hW hd (by rw [hc0]; exact hC) (by rw [hs0]; exact hN)
  subst q1
  exact own_by st (k T' (own_same hc0 hs0 X' q3) q2)
theorem own_voidV (X : Stand p l e R s m args below meth c T locs cells slots) (hx : p.tables.exec = Jvm.exec) {F : State → Prop} (hZ : Z.Warmed39 s.vm) {own C : String} {index : Nat} {y z : MethodName} {bytes : ByteArray} {maxL : Nat} {ret : Option FieldType} {rm : Room} (hown : s.vm.findClass own = some m.cls)
    (w1 : (Cond.methodLink own index y).before a0 Z = true) (w2 : (Cond.declares y).before a0 Z = true) (hnf : NotFace s y) (w3 : (Cond.selects C y z).before a0 Z = true) (w4 : (Cond.instanceMethod z).before a0 Z = true) (w5 : (Cond.initialized z.cls).before a0 Z = true) (w6 : (Cond.code z bytes maxL ret).before a0 Z = true) (hy : y.cls ≠ "java/lang/invoke/MethodHandle" ∧ y.cls ≠ "java/lang/invoke/VarHandle")
    (b : Addr) (argsL rest : List Value) (W : Nat) (hM : own_Met l z bytes maxL ret [] rm Z (.ref b :: argsL).toArray h (own_R none h)) (hf : rm.frames + 1 ≤ R.frames) (hl : W + (maxL + 11) + rm.locals ≤ R.locals) (hc0 : rm.cells = 0) (hs0 : rm.slots = 0) (eT : T.heap = h) (E : Exa Z h b C) {pc : Nat} {Ls : Array Slot} (hsize : Ls.size = c.maxLocals)
    (hlen : ∀ sig, parseMethodDescriptor y.desc = some sig → argsL.length = sig.parameters.length) (hW : 2 * 0 + (rest.map fun v => v.category).sum ≤ W) (hd : decode c.code pc = .ok (.invokevirtual index, 3)) (pc' : Nat) (hp : pc + 3 = pc') {St : List Value} (hs : St = argsL.reverse ++ .ref b :: rest) (hC : cells ≤ R.cells) (hN : slots ≤ R.slots)
    (k : ∀ T', Stand p l e R s m args below meth c T' locs cells slots → T'.heap = h → own_Go p.tables e below F (T'.setTop (mkF m pc' Ls rest))) : own_Go p.tables e below F (T.setTop (mkF m pc Ls St)) := by
  subst hp hs
  obtain ⟨v, T', L, X', ⟨q1, q2, q3⟩, st⟩ := own_callV X hx hZ hown w1 w2 hnf w3 w4 w5 w6 hy b argsL rest W hM hf hl eT E hsize hlen hW hd (by rw [hc0]; exact hC) (by rw [hs0]; exact hN)
  subst q1
  exact own_by st (k T' (own_same hc0 hs0 X' q3) q2)
theorem own_voidN (X : Stand p l e R s m args below meth c T locs cells slots) (hx : p.tables.exec = Jvm.exec) {F : State → Prop} (hZ : Z.Warmed39 s.vm) {own : String} {index : Nat} {y : MethodName} {bytes : ByteArray} {maxL : Nat} {rm : Room} (hy1 : y.name = "<init>") (hown : s.vm.findClass own = some m.cls)
    (w1 : (Cond.methodLink own index y).before a0 Z = true) (w4 : (Cond.instanceMethod y).before a0 Z = true) (w5 : (Cond.initialized y.cls).before a0 Z = true) (w6 : (Cond.code y bytes maxL none).before a0 Z = true) (hy : y.cls ≠ "java/lang/invoke/MethodHandle" ∧ y.cls ≠ "java/lang/invoke/VarHandle")
    (b : Addr) (argsL rest : List Value) (W : Nat) (hM : own_Met l y bytes maxL none [] rm Z (.ref b :: argsL).toArray h (own_R none h)) (hf : rm.frames + 1 ≤ R.frames) (hl : W + (maxL + 11) + rm.locals ≤ R.locals) (hc0 : rm.cells = 0) (hs0 : rm.slots = 0) (eT : T.heap = h) {pc : Nat} {Ls : Array Slot} (hsize : Ls.size = c.maxLocals)
    (hlen : ∀ sig, parseMethodDescriptor y.desc = some sig → argsL.length = sig.parameters.length) (hW : 2 * 0 + (rest.map fun v => v.category).sum ≤ W) (hd : decode c.code pc = .ok (.invokespecial index, 3)) (pc' : Nat) (hp : pc + 3 = pc') {St : List Value} (hs : St = argsL.reverse ++ .ref b :: rest) (hC : cells ≤ R.cells) (hN : slots ≤ R.slots)
    (k : ∀ T', Stand p l e R s m args below meth c T' locs cells slots → T'.heap = h → own_Go p.tables e below F (T'.setTop (mkF m pc' Ls rest))) : own_Go p.tables e below F (T.setTop (mkF m pc Ls St)) := by
  subst hp hs
  obtain ⟨v, T', L, X', ⟨q1, q2, q3⟩, st⟩ := own_callN X hx hZ hy1 hown w1 w4 w5 w6 hy b argsL rest W hM hf hl eT hsize hlen hW hd (by rw [hc0]; exact hC) (by rw [hs0]; exact hN)
  subst q1
  exact own_by st (k T' (own_same hc0 hs0 X' q3) q2)
def own_Q0 (n0 : Nat) (v : Option Value) (h : Heap) (L : List Loc) : Prop := v = some (.int 1) ∧ Fr n0 L
end OwnHead
theorem own_fldI {Z : State} {args : Array Value} {t : Term} {a : Addr} {C n d : String} {k : Int32} (ev : t.eval args Z none [] Z = some (.ref a)) (q : (Cond.eq (.field t C n d) (.int k)).value args Z none Z [] = some true) : Fld Z Z.heap a C n d (.int k) := by
  exact Fld.start ((fld_at ev).symm.trans (eqv_i (F := .int k) rfl q))
theorem own_fldN {Z : State} {args : Array Value} {t : Term} {a : Addr} {C n d : String} (ev : t.eval args Z none [] Z = some (.ref a)) (q : (Cond.eq (.field t C n d) .null).value args Z none Z [] = some true) : Fld Z Z.heap a C n d .null := by
  exact Fld.start ((fld_at ev).symm.trans (null_v q))
theorem own_fldR {Z : State} {args : Array Value} {t u : Term} {a b : Addr} {C n d : String} (ev : t.eval args Z none [] Z = some (.ref a)) (eu : u.eval args Z none [] Z = some (.ref b)) (q : (Cond.eq (.field t C n d) u).value args Z none Z [] = some true) : Fld Z Z.heap a C n d (.ref b) := by
  obtain ⟨x, y, hx, hy, hk, hk'⟩ := cmp_v (Or.inl q)
  cases eu.symm.trans hy
  refine Fld.start ((fld_at ev).symm.trans ?_)
  rw [hx]
  cases x with
  | ref z => simp [Cond.value, hx, hy] at q; rw [q]
  | null => simp [Cond.value, hx, hy] at q
  | _ => simp_all [Kin, Value.isRef]

def own_C (Z : State) (h0 : Heap) (w_CollectionKind_COLLECTION w_CollectionKind_SEQUENCE w_CollectionKind_ORDERED_SET w_CollectionKind_SET w_CollectionKind_BAG : Addr) : Prop := Sta Z h0 "com/example/montegancedo/montegancedo/ocl/CollectionKind" "COLLECTION" "Lcom/example/montegancedo/montegancedo/ocl/CollectionKind;" (.ref w_CollectionKind_COLLECTION) ∧ Exa Z h0 w_CollectionKind_COLLECTION "com/example/montegancedo/montegancedo/ocl/CollectionKind" ∧ Sta Z h0 "com/example/montegancedo/montegancedo/ocl/CollectionKind" "SEQUENCE" "Lcom/example/montegancedo/montegancedo/ocl/CollectionKind;" (.ref w_CollectionKind_SEQUENCE) ∧ Exa Z h0 w_CollectionKind_SEQUENCE "com/example/montegancedo/montegancedo/ocl/CollectionKind" ∧ Sta Z h0 "com/example/montegancedo/montegancedo/ocl/CollectionKind" "ORDERED_SET" "Lcom/example/montegancedo/montegancedo/ocl/CollectionKind;" (.ref w_CollectionKind_ORDERED_SET) ∧ Exa Z h0 w_CollectionKind_ORDERED_SET "com/example/montegancedo/montegancedo/ocl/CollectionKind" ∧ Sta Z h0 "com/example/montegancedo/montegancedo/ocl/CollectionKind" "SET" "Lcom/example/montegancedo/montegancedo/ocl/CollectionKind;" (.ref w_CollectionKind_SET) ∧ Exa Z h0 w_CollectionKind_SET "com/example/montegancedo/montegancedo/ocl/CollectionKind" ∧ Sta Z h0 "com/example/montegancedo/montegancedo/ocl/CollectionKind" "BAG" "Lcom/example/montegancedo/montegancedo/ocl/CollectionKind;" (.ref w_CollectionKind_BAG) ∧ Exa Z h0 w_CollectionKind_BAG "com/example/montegancedo/montegancedo/ocl/CollectionKind" ∧ Fld Z h0 w_CollectionKind_COLLECTION "java/lang/Enum" "ordinal" "I" (.int (0 : Int32)) ∧ Fld Z h0 w_CollectionKind_SEQUENCE "java/lang/Enum" "ordinal" "I" (.int (3 : Int32)) ∧ Fld Z h0 w_CollectionKind_ORDERED_SET "java/lang/Enum" "ordinal" "I" (.int (4 : Int32)) ∧ Fld Z h0 w_CollectionKind_SET "java/lang/Enum" "ordinal" "I" (.int (1 : Int32)) ∧ Fld Z h0 w_CollectionKind_BAG "java/lang/Enum" "ordinal" "I" (.int (2 : Int32)) ∧ w_CollectionKind_COLLECTION ≠ w_CollectionKind_SEQUENCE ∧ w_CollectionKind_COLLECTION ≠ w_CollectionKind_ORDERED_SET ∧ w_CollectionKind_COLLECTION ≠ w_CollectionKind_SET ∧ w_CollectionKind_SEQUENCE ≠ w_CollectionKind_SET ∧ w_CollectionKind_ORDERED_SET ≠ w_CollectionKind_SEQUENCE ∧ w_CollectionKind_ORDERED_SET ≠ w_CollectionKind_SET ∧ w_CollectionKind_BAG ≠ w_CollectionKind_COLLECTION ∧ w_CollectionKind_BAG ≠ w_CollectionKind_SEQUENCE ∧ w_CollectionKind_BAG ≠ w_CollectionKind_ORDERED_SET ∧ w_CollectionKind_BAG ≠ w_CollectionKind_SET
theorem own_mod5 (x : Int32) : ((x &&& (2147483647 : Int32)) % (5 : Int32)) = (0 : Int32) ∨ ((x &&& (2147483647 : Int32)) % (5 : Int32)) = (1 : Int32) ∨ ((x &&& (2147483647 : Int32)) % (5 : Int32)) = (2 : Int32) ∨ ((x &&& (2147483647 : Int32)) % (5 : Int32)) = (3 : Int32) ∨ ((x &&& (2147483647 : Int32)) % (5 : Int32)) = (4 : Int32) := by
  have e := Jvm.Kit.i32_mask x (2147483647 : Int32) (k := 31) (by decide) (by decide)
  have r : ((x &&& (2147483647 : Int32)) % (5 : Int32)).toInt = (x &&& (2147483647 : Int32)).toInt % ((5 : Int32)).toInt := Jvm.Kit.i32_rem_nonneg (by rw [e]; omega)
  have l0 : ((0 : Int32)).toInt = 0 := by decide
  have l1 : ((1 : Int32)).toInt = 1 := by decide
  have l2 : ((2 : Int32)).toInt = 2 := by decide
  have l3 : ((3 : Int32)).toInt = 3 := by decide
  have l4 : ((4 : Int32)).toInt = 4 := by decide
  have l5 : ((5 : Int32)).toInt = 5 := by decide
  rw [l5] at r
  simp only [← Int32.toInt_inj, l0, l1, l2, l3, l4]
  generalize ((x &&& (2147483647 : Int32)) % (5 : Int32)).toInt = z at r ⊢
  omega
theorem d0_0 : decode method_2_code 0 = .ok (.iload_n 0, 1) := by decide +kernel
theorem d0_1 : decode method_2_code 1 = .ok (.ifCond .ne 7, 3) := by decide +kernel
theorem d0_4 : decode method_2_code 4 = .ok (.getstatic 7, 3) := by decide +kernel
theorem d0_7 : decode method_2_code 7 = .ok (.areturn, 1) := by decide +kernel
theorem pn_0 : plainName "com/example/montegancedo/montegancedo/ocl/CollectionKindConformsToPinLaw" = true := by first | (simp [plainName, overriddenIn]; done) | decide +kernel
theorem ef_0 (m : MethodId) (y0 : Int32) : entryFrame m #[(.int y0)] 1 = mkF m 0 #[.val (.int y0)] [] := by first | (simp [entryFrame, mkF, argsToLocals, Value.category]; done) | rfl
theorem rm_kind_1 (l : Launch) (Z : State) (a0 : Array Value) (hw : own_HW Z a0) (ws : List Jvm.Cond)  (h0 : Heap) (n0 : Nat) {w_CollectionKind_COLLECTION w_CollectionKind_SEQUENCE w_CollectionKind_ORDERED_SET w_CollectionKind_SET w_CollectionKind_BAG : Addr} (H : own_C Z h0 w_CollectionKind_COLLECTION w_CollectionKind_SEQUENCE w_CollectionKind_ORDERED_SET w_CollectionKind_SET w_CollectionKind_BAG) :
    own_Met l (⟨"com/example/montegancedo/montegancedo/ocl/CollectionKindConformsToPinLaw", "kind", "(I)Lcom/example/montegancedo/montegancedo/ocl/CollectionKind;"⟩ : MethodName) method_2_code 1 (some (.object "com/example/montegancedo/montegancedo/ocl/CollectionKind")) ws (own_rm 0 0 0 0) Z #[(.int (0 : Int32))] h0 (own_R (some (.ref w_CollectionKind_COLLECTION)) h0) := by
  refine own_met (plainFor_of_name pn_0) ?_
  intro p e s m below meth c T0 hx hby hml hown hret hk hnm hZ X0 e0
  have hown : s.vm.findClass "com/example/montegancedo/montegancedo/ocl/CollectionKindConformsToPinLaw" = some m.cls := hown
  obtain ⟨S_w_CollectionKind_COLLECTION, -, -, -, -, -, -, -, -, -, -, -, -, -, -, -, -, -, -, -, -, -, -, -, -⟩ := id H
  refine own_ent (ef_0 m (0 : Int32)) ?_
  refine own_iload_n X0 hx (hb hby d0_0) rfl 1 rfl ?_
  refine own_ifN X0 hx (hb hby d0_1) ((if0 _ _).trans (teq (by decide : (0 : Int32) = (0 : Int32))).2) 4 rfl ?_
  refine own_getS X0 hx hZ hown (host := "") (Or.inl (own_w hw 5 rfl)) Via.refl e0 S_w_CollectionKind_COLLECTION (hb hby d0_4) 7 rfl fun T1 X1 e1 => ?_
  exact own_retA X1 hx hk hret rfl rfl (hb hby d0_7) rfl ⟨rfl, e1, rfl⟩ (by decide) (by decide)
theorem d1_0 : decode prog_79_method_6_code 0 = .ok (.aload_n 0, 1) := by decide +kernel
theorem d1_1 : decode prog_79_method_6_code 1 = .ok (.aload_n 1, 1) := by decide +kernel
theorem d1_2 : decode prog_79_method_6_code 2 = .ok (.if_acmp .eq 10, 3) := by decide +kernel
theorem d1_12 : decode prog_79_method_6_code 12 = .ok (.iconst 1, 1) := by decide +kernel
theorem d1_13 : decode prog_79_method_6_code 13 = .ok (.goto 4, 3) := by decide +kernel
theorem d1_17 : decode prog_79_method_6_code 17 = .ok (.ireturn, 1) := by decide +kernel
theorem pn_1 : plainName "com/example/montegancedo/montegancedo/ocl/CollectionKind" = true := by first | (simp [plainName, overriddenIn]; done) | decide +kernel
theorem ef_1 (m : MethodId) (y0 : Addr) (y1 : Addr) : entryFrame m #[(.ref y0), (.ref y1)] 2 = mkF m 0 #[.val (.ref y0), .val (.ref y1)] [] := by first | (simp [entryFrame, mkF, argsToLocals, Value.category]; done) | rfl
theorem rm_conformsTo_2 (l : Launch) (Z : State) (a0 : Array Value) (hw : own_HW Z a0) (ws : List Jvm.Cond)  (h0 : Heap) (n0 : Nat) {w_CollectionKind_COLLECTION w_CollectionKind_SEQUENCE w_CollectionKind_ORDERED_SET w_CollectionKind_SET w_CollectionKind_BAG : Addr} (H : own_C Z h0 w_CollectionKind_COLLECTION w_CollectionKind_SEQUENCE w_CollectionKind_ORDERED_SET w_CollectionKind_SET w_CollectionKind_BAG) :
    own_Met l (⟨"com/example/montegancedo/montegancedo/ocl/CollectionKind", "conformsTo", "(Lcom/example/montegancedo/montegancedo/ocl/CollectionKind;)Z"⟩ : MethodName) prog_79_method_6_code 2 (some .boolean) ws (own_rm 0 0 0 0) Z #[(.ref w_CollectionKind_COLLECTION), (.ref w_CollectionKind_COLLECTION)] h0 (own_R (some (.int (1 : Int32))) h0) := by
  refine own_met (plainFor_of_name pn_1) ?_
  intro p e s m below meth c T0 hx hby hml hown hret hk hnm hZ X0 e0
  have hown : s.vm.findClass "com/example/montegancedo/montegancedo/ocl/CollectionKind" = some m.cls := hown
  obtain ⟨-, -, -, -, -, -, -, -, -, -, -, -, -, -, -, -, -, -, -, -, -, -, -, -, -⟩ := id H
  refine own_ent (ef_1 m w_CollectionKind_COLLECTION w_CollectionKind_COLLECTION) ?_
  refine own_aload_n X0 hx (hb hby d1_0) rfl rfl 1 rfl ?_
  refine own_aload_n X0 hx (hb hby d1_1) rfl rfl 2 rfl ?_
  refine own_acmp X0 hx true (hb hby d1_2) rfl rfl (decide_eq_true rfl) 12 (by decide) (by decide) ?_
  refine own_iconst X0 hx (hb hby d1_12) (1 : Int32) rfl 13 rfl ?_
  refine own_goto X0 hx (hb hby d1_13) 17 (by decide) (by decide) ?_
  exact own_retZ X0 hx hk hret (hb hby d1_17) rfl ⟨rfl, e0, rfl⟩ (by decide) (by decide)
theorem d0_8 : decode method_2_code 8 = .ok (.iload_n 0, 1) := by decide +kernel
theorem d0_9 : decode method_2_code 9 = .ok (.iconst 1, 1) := by decide +kernel
theorem d0_10 : decode method_2_code 10 = .ok (.if_icmp .ne 7, 3) := by decide +kernel
theorem d0_13 : decode method_2_code 13 = .ok (.getstatic 13, 3) := by decide +kernel
theorem d0_16 : decode method_2_code 16 = .ok (.areturn, 1) := by decide +kernel
theorem rm_kind_3 (l : Launch) (Z : State) (a0 : Array Value) (hw : own_HW Z a0) (ws : List Jvm.Cond)  (h0 : Heap) (n0 : Nat) {w_CollectionKind_COLLECTION w_CollectionKind_SEQUENCE w_CollectionKind_ORDERED_SET w_CollectionKind_SET w_CollectionKind_BAG : Addr} (H : own_C Z h0 w_CollectionKind_COLLECTION w_CollectionKind_SEQUENCE w_CollectionKind_ORDERED_SET w_CollectionKind_SET w_CollectionKind_BAG) :
    own_Met l (⟨"com/example/montegancedo/montegancedo/ocl/CollectionKindConformsToPinLaw", "kind", "(I)Lcom/example/montegancedo/montegancedo/ocl/CollectionKind;"⟩ : MethodName) method_2_code 1 (some (.object "com/example/montegancedo/montegancedo/ocl/CollectionKind")) ws (own_rm 0 0 0 0) Z #[(.int (1 : Int32))] h0 (own_R (some (.ref w_CollectionKind_SET)) h0) := by
  refine own_met (plainFor_of_name pn_0) ?_
  intro p e s m below meth c T0 hx hby hml hown hret hk hnm hZ X0 e0
  have hown : s.vm.findClass "com/example/montegancedo/montegancedo/ocl/CollectionKindConformsToPinLaw" = some m.cls := hown
  obtain ⟨-, -, -, -, -, -, S_w_CollectionKind_SET, -, -, -, -, -, -, -, -, -, -, -, -, -, -, -, -, -, -⟩ := id H
  refine own_ent (ef_0 m (1 : Int32)) ?_
  refine own_iload_n X0 hx (hb hby d0_0) rfl 1 rfl ?_
  refine own_ifY X0 hx (hb hby d0_1) ((if0 _ _).trans (feq (by decide : ¬ ((1 : Int32) = (0 : Int32)))).2) 8 (by decide) (by decide) ?_
  refine own_iload_n X0 hx (hb hby d0_8) rfl 9 rfl ?_
  refine own_iconst X0 hx (hb hby d0_9) (1 : Int32) rfl 10 rfl ?_
  refine own_icmpN X0 hx (hb hby d0_10) (teq (by decide : (1 : Int32) = (1 : Int32))).2 13 rfl ?_
  refine own_getS X0 hx hZ hown (host := "") (Or.inl (own_w hw 18 rfl)) Via.refl e0 S_w_CollectionKind_SET (hb hby d0_13) 16 rfl fun T1 X1 e1 => ?_
  exact own_retA X1 hx hk hret rfl rfl (hb hby d0_16) rfl ⟨rfl, e1, rfl⟩ (by decide) (by decide)
theorem d1_5 : decode prog_79_method_6_code 5 = .ok (.aload_n 1, 1) := by decide +kernel
theorem d1_6 : decode prog_79_method_6_code 6 = .ok (.getstatic 3, 3) := by decide +kernel
theorem d1_9 : decode prog_79_method_6_code 9 = .ok (.if_acmp .ne 7, 3) := by decide +kernel
theorem d1_16 : decode prog_79_method_6_code 16 = .ok (.iconst 0, 1) := by decide +kernel
theorem rm_conformsTo_4 (l : Launch) (Z : State) (a0 : Array Value) (hw : own_HW Z a0) (ws : List Jvm.Cond)  (h0 : Heap) (n0 : Nat) {w_CollectionKind_COLLECTION w_CollectionKind_SEQUENCE w_CollectionKind_ORDERED_SET w_CollectionKind_SET w_CollectionKind_BAG : Addr} (H : own_C Z h0 w_CollectionKind_COLLECTION w_CollectionKind_SEQUENCE w_CollectionKind_ORDERED_SET w_CollectionKind_SET w_CollectionKind_BAG) :
    own_Met l (⟨"com/example/montegancedo/montegancedo/ocl/CollectionKind", "conformsTo", "(Lcom/example/montegancedo/montegancedo/ocl/CollectionKind;)Z"⟩ : MethodName) prog_79_method_6_code 2 (some .boolean) ws (own_rm 0 0 0 0) Z #[(.ref w_CollectionKind_COLLECTION), (.ref w_CollectionKind_SET)] h0 (own_R (some (.int (0 : Int32))) h0) := by
  refine own_met (plainFor_of_name pn_1) ?_
  intro p e s m below meth c T0 hx hby hml hown hret hk hnm hZ X0 e0
  have hown : s.vm.findClass "com/example/montegancedo/montegancedo/ocl/CollectionKind" = some m.cls := hown
  obtain ⟨S_w_CollectionKind_COLLECTION, -, -, -, -, -, -, -, -, -, -, -, -, -, -, -, -, ne_w_CollectionKind_COLLECTION_w_CollectionKind_SET, -, -, -, -, -, -, -⟩ := id H
  refine own_ent (ef_1 m w_CollectionKind_COLLECTION w_CollectionKind_SET) ?_
  refine own_aload_n X0 hx (hb hby d1_0) rfl rfl 1 rfl ?_
  refine own_aload_n X0 hx (hb hby d1_1) rfl rfl 2 rfl ?_
  refine own_acmp X0 hx false (hb hby d1_2) rfl rfl (decide_eq_false fun q => ne_w_CollectionKind_COLLECTION_w_CollectionKind_SET (Value.ref.inj q)) 5 (by decide) (by decide) ?_
  refine own_aload_n X0 hx (hb hby d1_5) rfl rfl 6 rfl ?_
  refine own_getS X0 hx hZ hown (host := "") (Or.inl (own_w hw 15 rfl)) Via.refl e0 S_w_CollectionKind_COLLECTION (hb hby d1_6) 9 rfl fun T1 X1 e1 => ?_
  refine own_acmp X1 hx false (hb hby d1_9) rfl rfl (decide_eq_false fun q => (Ne.symm ne_w_CollectionKind_COLLECTION_w_CollectionKind_SET) (Value.ref.inj q)) 16 (by decide) (by decide) ?_
  refine own_iconst X1 hx (hb hby d1_16) (0 : Int32) rfl 17 rfl ?_
  exact own_retZ X1 hx hk hret (hb hby d1_17) rfl ⟨rfl, e1, rfl⟩ (by decide) (by decide)
theorem d0_17 : decode method_2_code 17 = .ok (.iload_n 0, 1) := by decide +kernel
theorem d0_18 : decode method_2_code 18 = .ok (.iconst 2, 1) := by decide +kernel
theorem d0_19 : decode method_2_code 19 = .ok (.if_icmp .ne 7, 3) := by decide +kernel
theorem d0_22 : decode method_2_code 22 = .ok (.getstatic 16, 3) := by decide +kernel
theorem d0_25 : decode method_2_code 25 = .ok (.areturn, 1) := by decide +kernel
theorem rm_kind_5 (l : Launch) (Z : State) (a0 : Array Value) (hw : own_HW Z a0) (ws : List Jvm.Cond)  (h0 : Heap) (n0 : Nat) {w_CollectionKind_COLLECTION w_CollectionKind_SEQUENCE w_CollectionKind_ORDERED_SET w_CollectionKind_SET w_CollectionKind_BAG : Addr} (H : own_C Z h0 w_CollectionKind_COLLECTION w_CollectionKind_SEQUENCE w_CollectionKind_ORDERED_SET w_CollectionKind_SET w_CollectionKind_BAG) :
    own_Met l (⟨"com/example/montegancedo/montegancedo/ocl/CollectionKindConformsToPinLaw", "kind", "(I)Lcom/example/montegancedo/montegancedo/ocl/CollectionKind;"⟩ : MethodName) method_2_code 1 (some (.object "com/example/montegancedo/montegancedo/ocl/CollectionKind")) ws (own_rm 0 0 0 0) Z #[(.int (2 : Int32))] h0 (own_R (some (.ref w_CollectionKind_BAG)) h0) := by
  refine own_met (plainFor_of_name pn_0) ?_
  intro p e s m below meth c T0 hx hby hml hown hret hk hnm hZ X0 e0
  have hown : s.vm.findClass "com/example/montegancedo/montegancedo/ocl/CollectionKindConformsToPinLaw" = some m.cls := hown
  obtain ⟨-, -, -, -, -, -, -, -, S_w_CollectionKind_BAG, -, -, -, -, -, -, -, -, -, -, -, -, -, -, -, -⟩ := id H
  refine own_ent (ef_0 m (2 : Int32)) ?_
  refine own_iload_n X0 hx (hb hby d0_0) rfl 1 rfl ?_
  refine own_ifY X0 hx (hb hby d0_1) ((if0 _ _).trans (feq (by decide : ¬ ((2 : Int32) = (0 : Int32)))).2) 8 (by decide) (by decide) ?_
  refine own_iload_n X0 hx (hb hby d0_8) rfl 9 rfl ?_
  refine own_iconst X0 hx (hb hby d0_9) (1 : Int32) rfl 10 rfl ?_
  refine own_icmpY X0 hx (hb hby d0_10) (feq (by decide : ¬ ((2 : Int32) = (1 : Int32)))).2 17 (by decide) (by decide) ?_
  refine own_iload_n X0 hx (hb hby d0_17) rfl 18 rfl ?_
  refine own_iconst X0 hx (hb hby d0_18) (2 : Int32) rfl 19 rfl ?_
  refine own_icmpN X0 hx (hb hby d0_19) (teq (by decide : (2 : Int32) = (2 : Int32))).2 22 rfl ?_
  refine own_getS X0 hx hZ hown (host := "") (Or.inl (own_w hw 20 rfl)) Via.refl e0 S_w_CollectionKind_BAG (hb hby d0_22) 25 rfl fun T1 X1 e1 => ?_
  exact own_retA X1 hx hk hret rfl rfl (hb hby d0_25) rfl ⟨rfl, e1, rfl⟩ (by decide) (by decide)
theorem rm_conformsTo_6 (l : Launch) (Z : State) (a0 : Array Value) (hw : own_HW Z a0) (ws : List Jvm.Cond)  (h0 : Heap) (n0 : Nat) {w_CollectionKind_COLLECTION w_CollectionKind_SEQUENCE w_CollectionKind_ORDERED_SET w_CollectionKind_SET w_CollectionKind_BAG : Addr} (H : own_C Z h0 w_CollectionKind_COLLECTION w_CollectionKind_SEQUENCE w_CollectionKind_ORDERED_SET w_CollectionKind_SET w_CollectionKind_BAG) :
    own_Met l (⟨"com/example/montegancedo/montegancedo/ocl/CollectionKind", "conformsTo", "(Lcom/example/montegancedo/montegancedo/ocl/CollectionKind;)Z"⟩ : MethodName) prog_79_method_6_code 2 (some .boolean) ws (own_rm 0 0 0 0) Z #[(.ref w_CollectionKind_COLLECTION), (.ref w_CollectionKind_BAG)] h0 (own_R (some (.int (0 : Int32))) h0) := by
  refine own_met (plainFor_of_name pn_1) ?_
  intro p e s m below meth c T0 hx hby hml hown hret hk hnm hZ X0 e0
  have hown : s.vm.findClass "com/example/montegancedo/montegancedo/ocl/CollectionKind" = some m.cls := hown
  obtain ⟨S_w_CollectionKind_COLLECTION, -, -, -, -, -, -, -, -, -, -, -, -, -, -, -, -, -, -, -, -, ne_w_CollectionKind_BAG_w_CollectionKind_COLLECTION, -, -, -⟩ := id H
  refine own_ent (ef_1 m w_CollectionKind_COLLECTION w_CollectionKind_BAG) ?_
  refine own_aload_n X0 hx (hb hby d1_0) rfl rfl 1 rfl ?_
  refine own_aload_n X0 hx (hb hby d1_1) rfl rfl 2 rfl ?_
  refine own_acmp X0 hx false (hb hby d1_2) rfl rfl (decide_eq_false fun q => (Ne.symm ne_w_CollectionKind_BAG_w_CollectionKind_COLLECTION) (Value.ref.inj q)) 5 (by decide) (by decide) ?_
  refine own_aload_n X0 hx (hb hby d1_5) rfl rfl 6 rfl ?_
  refine own_getS X0 hx hZ hown (host := "") (Or.inl (own_w hw 15 rfl)) Via.refl e0 S_w_CollectionKind_COLLECTION (hb hby d1_6) 9 rfl fun T1 X1 e1 => ?_
  refine own_acmp X1 hx false (hb hby d1_9) rfl rfl (decide_eq_false fun q => ne_w_CollectionKind_BAG_w_CollectionKind_COLLECTION (Value.ref.inj q)) 16 (by decide) (by decide) ?_
  refine own_iconst X1 hx (hb hby d1_16) (0 : Int32) rfl 17 rfl ?_
  exact own_retZ X1 hx hk hret (hb hby d1_17) rfl ⟨rfl, e1, rfl⟩ (by decide) (by decide)
theorem d0_26 : decode method_2_code 26 = .ok (.iload_n 0, 1) := by decide +kernel
theorem d0_27 : decode method_2_code 27 = .ok (.iconst 3, 1) := by decide +kernel
theorem d0_28 : decode method_2_code 28 = .ok (.if_icmp .ne 7, 3) := by decide +kernel
theorem d0_31 : decode method_2_code 31 = .ok (.getstatic 19, 3) := by decide +kernel
theorem d0_34 : decode method_2_code 34 = .ok (.areturn, 1) := by decide +kernel
theorem rm_kind_7 (l : Launch) (Z : State) (a0 : Array Value) (hw : own_HW Z a0) (ws : List Jvm.Cond)  (h0 : Heap) (n0 : Nat) {w_CollectionKind_COLLECTION w_CollectionKind_SEQUENCE w_CollectionKind_ORDERED_SET w_CollectionKind_SET w_CollectionKind_BAG : Addr} (H : own_C Z h0 w_CollectionKind_COLLECTION w_CollectionKind_SEQUENCE w_CollectionKind_ORDERED_SET w_CollectionKind_SET w_CollectionKind_BAG) :
    own_Met l (⟨"com/example/montegancedo/montegancedo/ocl/CollectionKindConformsToPinLaw", "kind", "(I)Lcom/example/montegancedo/montegancedo/ocl/CollectionKind;"⟩ : MethodName) method_2_code 1 (some (.object "com/example/montegancedo/montegancedo/ocl/CollectionKind")) ws (own_rm 0 0 0 0) Z #[(.int (3 : Int32))] h0 (own_R (some (.ref w_CollectionKind_SEQUENCE)) h0) := by
  refine own_met (plainFor_of_name pn_0) ?_
  intro p e s m below meth c T0 hx hby hml hown hret hk hnm hZ X0 e0
  have hown : s.vm.findClass "com/example/montegancedo/montegancedo/ocl/CollectionKindConformsToPinLaw" = some m.cls := hown
  obtain ⟨-, -, S_w_CollectionKind_SEQUENCE, -, -, -, -, -, -, -, -, -, -, -, -, -, -, -, -, -, -, -, -, -, -⟩ := id H
  refine own_ent (ef_0 m (3 : Int32)) ?_
  refine own_iload_n X0 hx (hb hby d0_0) rfl 1 rfl ?_
  refine own_ifY X0 hx (hb hby d0_1) ((if0 _ _).trans (feq (by decide : ¬ ((3 : Int32) = (0 : Int32)))).2) 8 (by decide) (by decide) ?_
  refine own_iload_n X0 hx (hb hby d0_8) rfl 9 rfl ?_
  refine own_iconst X0 hx (hb hby d0_9) (1 : Int32) rfl 10 rfl ?_
  refine own_icmpY X0 hx (hb hby d0_10) (feq (by decide : ¬ ((3 : Int32) = (1 : Int32)))).2 17 (by decide) (by decide) ?_
  refine own_iload_n X0 hx (hb hby d0_17) rfl 18 rfl ?_
  refine own_iconst X0 hx (hb hby d0_18) (2 : Int32) rfl 19 rfl ?_
  refine own_icmpY X0 hx (hb hby d0_19) (feq (by decide : ¬ ((3 : Int32) = (2 : Int32)))).2 26 (by decide) (by decide) ?_
  refine own_iload_n X0 hx (hb hby d0_26) rfl 27 rfl ?_
  refine own_iconst X0 hx (hb hby d0_27) (3 : Int32) rfl 28 rfl ?_
  refine own_icmpN X0 hx (hb hby d0_28) (teq (by decide : (3 : Int32) = (3 : Int32))).2 31 rfl ?_
  refine own_getS X0 hx hZ hown (host := "") (Or.inl (own_w hw 8 rfl)) Via.refl e0 S_w_CollectionKind_SEQUENCE (hb hby d0_31) 34 rfl fun T1 X1 e1 => ?_
  exact own_retA X1 hx hk hret rfl rfl (hb hby d0_34) rfl ⟨rfl, e1, rfl⟩ (by decide) (by decide)
theorem rm_conformsTo_8 (l : Launch) (Z : State) (a0 : Array Value) (hw : own_HW Z a0) (ws : List Jvm.Cond)  (h0 : Heap) (n0 : Nat) {w_CollectionKind_COLLECTION w_CollectionKind_SEQUENCE w_CollectionKind_ORDERED_SET w_CollectionKind_SET w_CollectionKind_BAG : Addr} (H : own_C Z h0 w_CollectionKind_COLLECTION w_CollectionKind_SEQUENCE w_CollectionKind_ORDERED_SET w_CollectionKind_SET w_CollectionKind_BAG) :
    own_Met l (⟨"com/example/montegancedo/montegancedo/ocl/CollectionKind", "conformsTo", "(Lcom/example/montegancedo/montegancedo/ocl/CollectionKind;)Z"⟩ : MethodName) prog_79_method_6_code 2 (some .boolean) ws (own_rm 0 0 0 0) Z #[(.ref w_CollectionKind_COLLECTION), (.ref w_CollectionKind_SEQUENCE)] h0 (own_R (some (.int (0 : Int32))) h0) := by
  refine own_met (plainFor_of_name pn_1) ?_
  intro p e s m below meth c T0 hx hby hml hown hret hk hnm hZ X0 e0
  have hown : s.vm.findClass "com/example/montegancedo/montegancedo/ocl/CollectionKind" = some m.cls := hown
  obtain ⟨S_w_CollectionKind_COLLECTION, -, -, -, -, -, -, -, -, -, -, -, -, -, -, ne_w_CollectionKind_COLLECTION_w_CollectionKind_SEQUENCE, -, -, -, -, -, -, -, -, -⟩ := id H
  refine own_ent (ef_1 m w_CollectionKind_COLLECTION w_CollectionKind_SEQUENCE) ?_
  refine own_aload_n X0 hx (hb hby d1_0) rfl rfl 1 rfl ?_
  refine own_aload_n X0 hx (hb hby d1_1) rfl rfl 2 rfl ?_
  refine own_acmp X0 hx false (hb hby d1_2) rfl rfl (decide_eq_false fun q => ne_w_CollectionKind_COLLECTION_w_CollectionKind_SEQUENCE (Value.ref.inj q)) 5 (by decide) (by decide) ?_
  refine own_aload_n X0 hx (hb hby d1_5) rfl rfl 6 rfl ?_
  refine own_getS X0 hx hZ hown (host := "") (Or.inl (own_w hw 15 rfl)) Via.refl e0 S_w_CollectionKind_COLLECTION (hb hby d1_6) 9 rfl fun T1 X1 e1 => ?_
  refine own_acmp X1 hx false (hb hby d1_9) rfl rfl (decide_eq_false fun q => (Ne.symm ne_w_CollectionKind_COLLECTION_w_CollectionKind_SEQUENCE) (Value.ref.inj q)) 16 (by decide) (by decide) ?_
  refine own_iconst X1 hx (hb hby d1_16) (0 : Int32) rfl 17 rfl ?_
  exact own_retZ X1 hx hk hret (hb hby d1_17) rfl ⟨rfl, e1, rfl⟩ (by decide) (by decide)
theorem d0_35 : decode method_2_code 35 = .ok (.getstatic 22, 3) := by decide +kernel
theorem d0_38 : decode method_2_code 38 = .ok (.areturn, 1) := by decide +kernel
theorem rm_kind_9 (l : Launch) (Z : State) (a0 : Array Value) (hw : own_HW Z a0) (ws : List Jvm.Cond)  (h0 : Heap) (n0 : Nat) {w_CollectionKind_COLLECTION w_CollectionKind_SEQUENCE w_CollectionKind_ORDERED_SET w_CollectionKind_SET w_CollectionKind_BAG : Addr} (H : own_C Z h0 w_CollectionKind_COLLECTION w_CollectionKind_SEQUENCE w_CollectionKind_ORDERED_SET w_CollectionKind_SET w_CollectionKind_BAG) :
    own_Met l (⟨"com/example/montegancedo/montegancedo/ocl/CollectionKindConformsToPinLaw", "kind", "(I)Lcom/example/montegancedo/montegancedo/ocl/CollectionKind;"⟩ : MethodName) method_2_code 1 (some (.object "com/example/montegancedo/montegancedo/ocl/CollectionKind")) ws (own_rm 0 0 0 0) Z #[(.int (4 : Int32))] h0 (own_R (some (.ref w_CollectionKind_ORDERED_SET)) h0) := by
  refine own_met (plainFor_of_name pn_0) ?_
  intro p e s m below meth c T0 hx hby hml hown hret hk hnm hZ X0 e0
  have hown : s.vm.findClass "com/example/montegancedo/montegancedo/ocl/CollectionKindConformsToPinLaw" = some m.cls := hown
  obtain ⟨-, -, -, -, S_w_CollectionKind_ORDERED_SET, -, -, -, -, -, -, -, -, -, -, -, -, -, -, -, -, -, -, -, -⟩ := id H
  refine own_ent (ef_0 m (4 : Int32)) ?_
  refine own_iload_n X0 hx (hb hby d0_0) rfl 1 rfl ?_
  refine own_ifY X0 hx (hb hby d0_1) ((if0 _ _).trans (feq (by decide : ¬ ((4 : Int32) = (0 : Int32)))).2) 8 (by decide) (by decide) ?_
  refine own_iload_n X0 hx (hb hby d0_8) rfl 9 rfl ?_
  refine own_iconst X0 hx (hb hby d0_9) (1 : Int32) rfl 10 rfl ?_
  refine own_icmpY X0 hx (hb hby d0_10) (feq (by decide : ¬ ((4 : Int32) = (1 : Int32)))).2 17 (by decide) (by decide) ?_
  refine own_iload_n X0 hx (hb hby d0_17) rfl 18 rfl ?_
  refine own_iconst X0 hx (hb hby d0_18) (2 : Int32) rfl 19 rfl ?_
  refine own_icmpY X0 hx (hb hby d0_19) (feq (by decide : ¬ ((4 : Int32) = (2 : Int32)))).2 26 (by decide) (by decide) ?_
  refine own_iload_n X0 hx (hb hby d0_26) rfl 27 rfl ?_
  refine own_iconst X0 hx (hb hby d0_27) (3 : Int32) rfl 28 rfl ?_
  refine own_icmpY X0 hx (hb hby d0_28) (feq (by decide : ¬ ((4 : Int32) = (3 : Int32)))).2 35 (by decide) (by decide) ?_
  refine own_getS X0 hx hZ hown (host := "") (Or.inl (own_w hw 16 rfl)) Via.refl e0 S_w_CollectionKind_ORDERED_SET (hb hby d0_35) 38 rfl fun T1 X1 e1 => ?_
  exact own_retA X1 hx hk hret rfl rfl (hb hby d0_38) rfl ⟨rfl, e1, rfl⟩ (by decide) (by decide)
theorem rm_conformsTo_10 (l : Launch) (Z : State) (a0 : Array Value) (hw : own_HW Z a0) (ws : List Jvm.Cond)  (h0 : Heap) (n0 : Nat) {w_CollectionKind_COLLECTION w_CollectionKind_SEQUENCE w_CollectionKind_ORDERED_SET w_CollectionKind_SET w_CollectionKind_BAG : Addr} (H : own_C Z h0 w_CollectionKind_COLLECTION w_CollectionKind_SEQUENCE w_CollectionKind_ORDERED_SET w_CollectionKind_SET w_CollectionKind_BAG) :
    own_Met l (⟨"com/example/montegancedo/montegancedo/ocl/CollectionKind", "conformsTo", "(Lcom/example/montegancedo/montegancedo/ocl/CollectionKind;)Z"⟩ : MethodName) prog_79_method_6_code 2 (some .boolean) ws (own_rm 0 0 0 0) Z #[(.ref w_CollectionKind_COLLECTION), (.ref w_CollectionKind_ORDERED_SET)] h0 (own_R (some (.int (0 : Int32))) h0) := by
  refine own_met (plainFor_of_name pn_1) ?_
  intro p e s m below meth c T0 hx hby hml hown hret hk hnm hZ X0 e0
  have hown : s.vm.findClass "com/example/montegancedo/montegancedo/ocl/CollectionKind" = some m.cls := hown
  obtain ⟨S_w_CollectionKind_COLLECTION, -, -, -, -, -, -, -, -, -, -, -, -, -, -, -, ne_w_CollectionKind_COLLECTION_w_CollectionKind_ORDERED_SET, -, -, -, -, -, -, -, -⟩ := id H
  refine own_ent (ef_1 m w_CollectionKind_COLLECTION w_CollectionKind_ORDERED_SET) ?_
  refine own_aload_n X0 hx (hb hby d1_0) rfl rfl 1 rfl ?_
  refine own_aload_n X0 hx (hb hby d1_1) rfl rfl 2 rfl ?_
  refine own_acmp X0 hx false (hb hby d1_2) rfl rfl (decide_eq_false fun q => ne_w_CollectionKind_COLLECTION_w_CollectionKind_ORDERED_SET (Value.ref.inj q)) 5 (by decide) (by decide) ?_
  refine own_aload_n X0 hx (hb hby d1_5) rfl rfl 6 rfl ?_
  refine own_getS X0 hx hZ hown (host := "") (Or.inl (own_w hw 15 rfl)) Via.refl e0 S_w_CollectionKind_COLLECTION (hb hby d1_6) 9 rfl fun T1 X1 e1 => ?_
  refine own_acmp X1 hx false (hb hby d1_9) rfl rfl (decide_eq_false fun q => (Ne.symm ne_w_CollectionKind_COLLECTION_w_CollectionKind_ORDERED_SET) (Value.ref.inj q)) 16 (by decide) (by decide) ?_
  refine own_iconst X1 hx (hb hby d1_16) (0 : Int32) rfl 17 rfl ?_
  exact own_retZ X1 hx hk hret (hb hby d1_17) rfl ⟨rfl, e1, rfl⟩ (by decide) (by decide)
theorem rm_conformsTo_11 (l : Launch) (Z : State) (a0 : Array Value) (hw : own_HW Z a0) (ws : List Jvm.Cond)  (h0 : Heap) (n0 : Nat) {w_CollectionKind_COLLECTION w_CollectionKind_SEQUENCE w_CollectionKind_ORDERED_SET w_CollectionKind_SET w_CollectionKind_BAG : Addr} (H : own_C Z h0 w_CollectionKind_COLLECTION w_CollectionKind_SEQUENCE w_CollectionKind_ORDERED_SET w_CollectionKind_SET w_CollectionKind_BAG) :
    own_Met l (⟨"com/example/montegancedo/montegancedo/ocl/CollectionKind", "conformsTo", "(Lcom/example/montegancedo/montegancedo/ocl/CollectionKind;)Z"⟩ : MethodName) prog_79_method_6_code 2 (some .boolean) ws (own_rm 0 0 0 0) Z #[(.ref w_CollectionKind_SET), (.ref w_CollectionKind_COLLECTION)] h0 (own_R (some (.int (1 : Int32))) h0) := by
  refine own_met (plainFor_of_name pn_1) ?_
  intro p e s m below meth c T0 hx hby hml hown hret hk hnm hZ X0 e0
  have hown : s.vm.findClass "com/example/montegancedo/montegancedo/ocl/CollectionKind" = some m.cls := hown
  obtain ⟨S_w_CollectionKind_COLLECTION, -, -, -, -, -, -, -, -, -, -, -, -, -, -, -, -, ne_w_CollectionKind_COLLECTION_w_CollectionKind_SET, -, -, -, -, -, -, -⟩ := id H
  refine own_ent (ef_1 m w_CollectionKind_SET w_CollectionKind_COLLECTION) ?_
  refine own_aload_n X0 hx (hb hby d1_0) rfl rfl 1 rfl ?_
  refine own_aload_n X0 hx (hb hby d1_1) rfl rfl 2 rfl ?_
  refine own_acmp X0 hx false (hb hby d1_2) rfl rfl (decide_eq_false fun q => (Ne.symm ne_w_CollectionKind_COLLECTION_w_CollectionKind_SET) (Value.ref.inj q)) 5 (by decide) (by decide) ?_
  refine own_aload_n X0 hx (hb hby d1_5) rfl rfl 6 rfl ?_
  refine own_getS X0 hx hZ hown (host := "") (Or.inl (own_w hw 15 rfl)) Via.refl e0 S_w_CollectionKind_COLLECTION (hb hby d1_6) 9 rfl fun T1 X1 e1 => ?_
  refine own_acmp X1 hx true (hb hby d1_9) rfl rfl (decide_eq_true rfl) 12 (by decide) (by decide) ?_
  refine own_iconst X1 hx (hb hby d1_12) (1 : Int32) rfl 13 rfl ?_
  refine own_goto X1 hx (hb hby d1_13) 17 (by decide) (by decide) ?_
  exact own_retZ X1 hx hk hret (hb hby d1_17) rfl ⟨rfl, e1, rfl⟩ (by decide) (by decide)
theorem rm_conformsTo_12 (l : Launch) (Z : State) (a0 : Array Value) (hw : own_HW Z a0) (ws : List Jvm.Cond)  (h0 : Heap) (n0 : Nat) {w_CollectionKind_COLLECTION w_CollectionKind_SEQUENCE w_CollectionKind_ORDERED_SET w_CollectionKind_SET w_CollectionKind_BAG : Addr} (H : own_C Z h0 w_CollectionKind_COLLECTION w_CollectionKind_SEQUENCE w_CollectionKind_ORDERED_SET w_CollectionKind_SET w_CollectionKind_BAG) :
    own_Met l (⟨"com/example/montegancedo/montegancedo/ocl/CollectionKind", "conformsTo", "(Lcom/example/montegancedo/montegancedo/ocl/CollectionKind;)Z"⟩ : MethodName) prog_79_method_6_code 2 (some .boolean) ws (own_rm 0 0 0 0) Z #[(.ref w_CollectionKind_SET), (.ref w_CollectionKind_SET)] h0 (own_R (some (.int (1 : Int32))) h0) := by
  refine own_met (plainFor_of_name pn_1) ?_
  intro p e s m below meth c T0 hx hby hml hown hret hk hnm hZ X0 e0
  have hown : s.vm.findClass "com/example/montegancedo/montegancedo/ocl/CollectionKind" = some m.cls := hown
  obtain ⟨-, -, -, -, -, -, -, -, -, -, -, -, -, -, -, -, -, -, -, -, -, -, -, -, -⟩ := id H
  refine own_ent (ef_1 m w_CollectionKind_SET w_CollectionKind_SET) ?_
  refine own_aload_n X0 hx (hb hby d1_0) rfl rfl 1 rfl ?_
  refine own_aload_n X0 hx (hb hby d1_1) rfl rfl 2 rfl ?_
  refine own_acmp X0 hx true (hb hby d1_2) rfl rfl (decide_eq_true rfl) 12 (by decide) (by decide) ?_
  refine own_iconst X0 hx (hb hby d1_12) (1 : Int32) rfl 13 rfl ?_
  refine own_goto X0 hx (hb hby d1_13) 17 (by decide) (by decide) ?_
  exact own_retZ X0 hx hk hret (hb hby d1_17) rfl ⟨rfl, e0, rfl⟩ (by decide) (by decide)
theorem rm_conformsTo_13 (l : Launch) (Z : State) (a0 : Array Value) (hw : own_HW Z a0) (ws : List Jvm.Cond)  (h0 : Heap) (n0 : Nat) {w_CollectionKind_COLLECTION w_CollectionKind_SEQUENCE w_CollectionKind_ORDERED_SET w_CollectionKind_SET w_CollectionKind_BAG : Addr} (H : own_C Z h0 w_CollectionKind_COLLECTION w_CollectionKind_SEQUENCE w_CollectionKind_ORDERED_SET w_CollectionKind_SET w_CollectionKind_BAG) :
    own_Met l (⟨"com/example/montegancedo/montegancedo/ocl/CollectionKind", "conformsTo", "(Lcom/example/montegancedo/montegancedo/ocl/CollectionKind;)Z"⟩ : MethodName) prog_79_method_6_code 2 (some .boolean) ws (own_rm 0 0 0 0) Z #[(.ref w_CollectionKind_SET), (.ref w_CollectionKind_BAG)] h0 (own_R (some (.int (0 : Int32))) h0) := by
  refine own_met (plainFor_of_name pn_1) ?_
  intro p e s m below meth c T0 hx hby hml hown hret hk hnm hZ X0 e0
  have hown : s.vm.findClass "com/example/montegancedo/montegancedo/ocl/CollectionKind" = some m.cls := hown
  obtain ⟨S_w_CollectionKind_COLLECTION, -, -, -, -, -, -, -, -, -, -, -, -, -, -, -, -, -, -, -, -, ne_w_CollectionKind_BAG_w_CollectionKind_COLLECTION, -, -, ne_w_CollectionKind_BAG_w_CollectionKind_SET⟩ := id H
  refine own_ent (ef_1 m w_CollectionKind_SET w_CollectionKind_BAG) ?_
  refine own_aload_n X0 hx (hb hby d1_0) rfl rfl 1 rfl ?_
  refine own_aload_n X0 hx (hb hby d1_1) rfl rfl 2 rfl ?_
  refine own_acmp X0 hx false (hb hby d1_2) rfl rfl (decide_eq_false fun q => (Ne.symm ne_w_CollectionKind_BAG_w_CollectionKind_SET) (Value.ref.inj q)) 5 (by decide) (by decide) ?_
  refine own_aload_n X0 hx (hb hby d1_5) rfl rfl 6 rfl ?_
  refine own_getS X0 hx hZ hown (host := "") (Or.inl (own_w hw 15 rfl)) Via.refl e0 S_w_CollectionKind_COLLECTION (hb hby d1_6) 9 rfl fun T1 X1 e1 => ?_
  refine own_acmp X1 hx false (hb hby d1_9) rfl rfl (decide_eq_false fun q => ne_w_CollectionKind_BAG_w_CollectionKind_COLLECTION (Value.ref.inj q)) 16 (by decide) (by decide) ?_
  refine own_iconst X1 hx (hb hby d1_16) (0 : Int32) rfl 17 rfl ?_
  exact own_retZ X1 hx hk hret (hb hby d1_17) rfl ⟨rfl, e1, rfl⟩ (by decide) (by decide)
theorem rm_conformsTo_14 (l : Launch) (Z : State) (a0 : Array Value) (hw : own_HW Z a0) (ws : List Jvm.Cond)  (h0 : Heap) (n0 : Nat) {w_CollectionKind_COLLECTION w_CollectionKind_SEQUENCE w_CollectionKind_ORDERED_SET w_CollectionKind_SET w_CollectionKind_BAG : Addr} (H : own_C Z h0 w_CollectionKind_COLLECTION w_CollectionKind_SEQUENCE w_CollectionKind_ORDERED_SET w_CollectionKind_SET w_CollectionKind_BAG) :
    own_Met l (⟨"com/example/montegancedo/montegancedo/ocl/CollectionKind", "conformsTo", "(Lcom/example/montegancedo/montegancedo/ocl/CollectionKind;)Z"⟩ : MethodName) prog_79_method_6_code 2 (some .boolean) ws (own_rm 0 0 0 0) Z #[(.ref w_CollectionKind_SET), (.ref w_CollectionKind_SEQUENCE)] h0 (own_R (some (.int (0 : Int32))) h0) := by
  refine own_met (plainFor_of_name pn_1) ?_
  intro p e s m below meth c T0 hx hby hml hown hret hk hnm hZ X0 e0
  have hown : s.vm.findClass "com/example/montegancedo/montegancedo/ocl/CollectionKind" = some m.cls := hown
  obtain ⟨S_w_CollectionKind_COLLECTION, -, -, -, -, -, -, -, -, -, -, -, -, -, -, ne_w_CollectionKind_COLLECTION_w_CollectionKind_SEQUENCE, -, -, ne_w_CollectionKind_SEQUENCE_w_CollectionKind_SET, -, -, -, -, -, -⟩ := id H
  refine own_ent (ef_1 m w_CollectionKind_SET w_CollectionKind_SEQUENCE) ?_
  refine own_aload_n X0 hx (hb hby d1_0) rfl rfl 1 rfl ?_
  refine own_aload_n X0 hx (hb hby d1_1) rfl rfl 2 rfl ?_
  refine own_acmp X0 hx false (hb hby d1_2) rfl rfl (decide_eq_false fun q => (Ne.symm ne_w_CollectionKind_SEQUENCE_w_CollectionKind_SET) (Value.ref.inj q)) 5 (by decide) (by decide) ?_
  refine own_aload_n X0 hx (hb hby d1_5) rfl rfl 6 rfl ?_
  refine own_getS X0 hx hZ hown (host := "") (Or.inl (own_w hw 15 rfl)) Via.refl e0 S_w_CollectionKind_COLLECTION (hb hby d1_6) 9 rfl fun T1 X1 e1 => ?_
  refine own_acmp X1 hx false (hb hby d1_9) rfl rfl (decide_eq_false fun q => (Ne.symm ne_w_CollectionKind_COLLECTION_w_CollectionKind_SEQUENCE) (Value.ref.inj q)) 16 (by decide) (by decide) ?_
  refine own_iconst X1 hx (hb hby d1_16) (0 : Int32) rfl 17 rfl ?_
  exact own_retZ X1 hx hk hret (hb hby d1_17) rfl ⟨rfl, e1, rfl⟩ (by decide) (by decide)
theorem rm_conformsTo_15 (l : Launch) (Z : State) (a0 : Array Value) (hw : own_HW Z a0) (ws : List Jvm.Cond)  (h0 : Heap) (n0 : Nat) {w_CollectionKind_COLLECTION w_CollectionKind_SEQUENCE w_CollectionKind_ORDERED_SET w_CollectionKind_SET w_CollectionKind_BAG : Addr} (H : own_C Z h0 w_CollectionKind_COLLECTION w_CollectionKind_SEQUENCE w_CollectionKind_ORDERED_SET w_CollectionKind_SET w_CollectionKind_BAG) :
    own_Met l (⟨"com/example/montegancedo/montegancedo/ocl/CollectionKind", "conformsTo", "(Lcom/example/montegancedo/montegancedo/ocl/CollectionKind;)Z"⟩ : MethodName) prog_79_method_6_code 2 (some .boolean) ws (own_rm 0 0 0 0) Z #[(.ref w_CollectionKind_SET), (.ref w_CollectionKind_ORDERED_SET)] h0 (own_R (some (.int (0 : Int32))) h0) := by
  refine own_met (plainFor_of_name pn_1) ?_
  intro p e s m below meth c T0 hx hby hml hown hret hk hnm hZ X0 e0
  have hown : s.vm.findClass "com/example/montegancedo/montegancedo/ocl/CollectionKind" = some m.cls := hown
  obtain ⟨S_w_CollectionKind_COLLECTION, -, -, -, -, -, -, -, -, -, -, -, -, -, -, -, ne_w_CollectionKind_COLLECTION_w_CollectionKind_ORDERED_SET, -, -, -, ne_w_CollectionKind_ORDERED_SET_w_CollectionKind_SET, -, -, -, -⟩ := id H
  refine own_ent (ef_1 m w_CollectionKind_SET w_CollectionKind_ORDERED_SET) ?_
  refine own_aload_n X0 hx (hb hby d1_0) rfl rfl 1 rfl ?_
  refine own_aload_n X0 hx (hb hby d1_1) rfl rfl 2 rfl ?_
  refine own_acmp X0 hx false (hb hby d1_2) rfl rfl (decide_eq_false fun q => (Ne.symm ne_w_CollectionKind_ORDERED_SET_w_CollectionKind_SET) (Value.ref.inj q)) 5 (by decide) (by decide) ?_
  refine own_aload_n X0 hx (hb hby d1_5) rfl rfl 6 rfl ?_
  refine own_getS X0 hx hZ hown (host := "") (Or.inl (own_w hw 15 rfl)) Via.refl e0 S_w_CollectionKind_COLLECTION (hb hby d1_6) 9 rfl fun T1 X1 e1 => ?_
  refine own_acmp X1 hx false (hb hby d1_9) rfl rfl (decide_eq_false fun q => (Ne.symm ne_w_CollectionKind_COLLECTION_w_CollectionKind_ORDERED_SET) (Value.ref.inj q)) 16 (by decide) (by decide) ?_
  refine own_iconst X1 hx (hb hby d1_16) (0 : Int32) rfl 17 rfl ?_
  exact own_retZ X1 hx hk hret (hb hby d1_17) rfl ⟨rfl, e1, rfl⟩ (by decide) (by decide)
theorem rm_conformsTo_16 (l : Launch) (Z : State) (a0 : Array Value) (hw : own_HW Z a0) (ws : List Jvm.Cond)  (h0 : Heap) (n0 : Nat) {w_CollectionKind_COLLECTION w_CollectionKind_SEQUENCE w_CollectionKind_ORDERED_SET w_CollectionKind_SET w_CollectionKind_BAG : Addr} (H : own_C Z h0 w_CollectionKind_COLLECTION w_CollectionKind_SEQUENCE w_CollectionKind_ORDERED_SET w_CollectionKind_SET w_CollectionKind_BAG) :
    own_Met l (⟨"com/example/montegancedo/montegancedo/ocl/CollectionKind", "conformsTo", "(Lcom/example/montegancedo/montegancedo/ocl/CollectionKind;)Z"⟩ : MethodName) prog_79_method_6_code 2 (some .boolean) ws (own_rm 0 0 0 0) Z #[(.ref w_CollectionKind_BAG), (.ref w_CollectionKind_COLLECTION)] h0 (own_R (some (.int (1 : Int32))) h0) := by
  refine own_met (plainFor_of_name pn_1) ?_
  intro p e s m below meth c T0 hx hby hml hown hret hk hnm hZ X0 e0
  have hown : s.vm.findClass "com/example/montegancedo/montegancedo/ocl/CollectionKind" = some m.cls := hown
  obtain ⟨S_w_CollectionKind_COLLECTION, -, -, -, -, -, -, -, -, -, -, -, -, -, -, -, -, -, -, -, -, ne_w_CollectionKind_BAG_w_CollectionKind_COLLECTION, -, -, -⟩ := id H
  refine own_ent (ef_1 m w_CollectionKind_BAG w_CollectionKind_COLLECTION) ?_
  refine own_aload_n X0 hx (hb hby d1_0) rfl rfl 1 rfl ?_
  refine own_aload_n X0 hx (hb hby d1_1) rfl rfl 2 rfl ?_
  refine own_acmp X0 hx false (hb hby d1_2) rfl rfl (decide_eq_false fun q => ne_w_CollectionKind_BAG_w_CollectionKind_COLLECTION (Value.ref.inj q)) 5 (by decide) (by decide) ?_
  refine own_aload_n X0 hx (hb hby d1_5) rfl rfl 6 rfl ?_
  refine own_getS X0 hx hZ hown (host := "") (Or.inl (own_w hw 15 rfl)) Via.refl e0 S_w_CollectionKind_COLLECTION (hb hby d1_6) 9 rfl fun T1 X1 e1 => ?_
  refine own_acmp X1 hx true (hb hby d1_9) rfl rfl (decide_eq_true rfl) 12 (by decide) (by decide) ?_
  refine own_iconst X1 hx (hb hby d1_12) (1 : Int32) rfl 13 rfl ?_
  refine own_goto X1 hx (hb hby d1_13) 17 (by decide) (by decide) ?_
  exact own_retZ X1 hx hk hret (hb hby d1_17) rfl ⟨rfl, e1, rfl⟩ (by decide) (by decide)
theorem rm_conformsTo_17 (l : Launch) (Z : State) (a0 : Array Value) (hw : own_HW Z a0) (ws : List Jvm.Cond)  (h0 : Heap) (n0 : Nat) {w_CollectionKind_COLLECTION w_CollectionKind_SEQUENCE w_CollectionKind_ORDERED_SET w_CollectionKind_SET w_CollectionKind_BAG : Addr} (H : own_C Z h0 w_CollectionKind_COLLECTION w_CollectionKind_SEQUENCE w_CollectionKind_ORDERED_SET w_CollectionKind_SET w_CollectionKind_BAG) :
    own_Met l (⟨"com/example/montegancedo/montegancedo/ocl/CollectionKind", "conformsTo", "(Lcom/example/montegancedo/montegancedo/ocl/CollectionKind;)Z"⟩ : MethodName) prog_79_method_6_code 2 (some .boolean) ws (own_rm 0 0 0 0) Z #[(.ref w_CollectionKind_BAG), (.ref w_CollectionKind_SET)] h0 (own_R (some (.int (0 : Int32))) h0) := by
  refine own_met (plainFor_of_name pn_1) ?_
  intro p e s m below meth c T0 hx hby hml hown hret hk hnm hZ X0 e0
  have hown : s.vm.findClass "com/example/montegancedo/montegancedo/ocl/CollectionKind" = some m.cls := hown
  obtain ⟨S_w_CollectionKind_COLLECTION, -, -, -, -, -, -, -, -, -, -, -, -, -, -, -, -, ne_w_CollectionKind_COLLECTION_w_CollectionKind_SET, -, -, -, -, -, -, ne_w_CollectionKind_BAG_w_CollectionKind_SET⟩ := id H
  refine own_ent (ef_1 m w_CollectionKind_BAG w_CollectionKind_SET) ?_
  refine own_aload_n X0 hx (hb hby d1_0) rfl rfl 1 rfl ?_
  refine own_aload_n X0 hx (hb hby d1_1) rfl rfl 2 rfl ?_
  refine own_acmp X0 hx false (hb hby d1_2) rfl rfl (decide_eq_false fun q => ne_w_CollectionKind_BAG_w_CollectionKind_SET (Value.ref.inj q)) 5 (by decide) (by decide) ?_
  refine own_aload_n X0 hx (hb hby d1_5) rfl rfl 6 rfl ?_
  refine own_getS X0 hx hZ hown (host := "") (Or.inl (own_w hw 15 rfl)) Via.refl e0 S_w_CollectionKind_COLLECTION (hb hby d1_6) 9 rfl fun T1 X1 e1 => ?_
  refine own_acmp X1 hx false (hb hby d1_9) rfl rfl (decide_eq_false fun q => (Ne.symm ne_w_CollectionKind_COLLECTION_w_CollectionKind_SET) (Value.ref.inj q)) 16 (by decide) (by decide) ?_
  refine own_iconst X1 hx (hb hby d1_16) (0 : Int32) rfl 17 rfl ?_
  exact own_retZ X1 hx hk hret (hb hby d1_17) rfl ⟨rfl, e1, rfl⟩ (by decide) (by decide)
theorem rm_conformsTo_18 (l : Launch) (Z : State) (a0 : Array Value) (hw : own_HW Z a0) (ws : List Jvm.Cond)  (h0 : Heap) (n0 : Nat) {w_CollectionKind_COLLECTION w_CollectionKind_SEQUENCE w_CollectionKind_ORDERED_SET w_CollectionKind_SET w_CollectionKind_BAG : Addr} (H : own_C Z h0 w_CollectionKind_COLLECTION w_CollectionKind_SEQUENCE w_CollectionKind_ORDERED_SET w_CollectionKind_SET w_CollectionKind_BAG) :
    own_Met l (⟨"com/example/montegancedo/montegancedo/ocl/CollectionKind", "conformsTo", "(Lcom/example/montegancedo/montegancedo/ocl/CollectionKind;)Z"⟩ : MethodName) prog_79_method_6_code 2 (some .boolean) ws (own_rm 0 0 0 0) Z #[(.ref w_CollectionKind_BAG), (.ref w_CollectionKind_BAG)] h0 (own_R (some (.int (1 : Int32))) h0) := by
  refine own_met (plainFor_of_name pn_1) ?_
  intro p e s m below meth c T0 hx hby hml hown hret hk hnm hZ X0 e0
  have hown : s.vm.findClass "com/example/montegancedo/montegancedo/ocl/CollectionKind" = some m.cls := hown
  obtain ⟨-, -, -, -, -, -, -, -, -, -, -, -, -, -, -, -, -, -, -, -, -, -, -, -, -⟩ := id H
  refine own_ent (ef_1 m w_CollectionKind_BAG w_CollectionKind_BAG) ?_
  refine own_aload_n X0 hx (hb hby d1_0) rfl rfl 1 rfl ?_
  refine own_aload_n X0 hx (hb hby d1_1) rfl rfl 2 rfl ?_
  refine own_acmp X0 hx true (hb hby d1_2) rfl rfl (decide_eq_true rfl) 12 (by decide) (by decide) ?_
  refine own_iconst X0 hx (hb hby d1_12) (1 : Int32) rfl 13 rfl ?_
  refine own_goto X0 hx (hb hby d1_13) 17 (by decide) (by decide) ?_
  exact own_retZ X0 hx hk hret (hb hby d1_17) rfl ⟨rfl, e0, rfl⟩ (by decide) (by decide)
theorem rm_conformsTo_19 (l : Launch) (Z : State) (a0 : Array Value) (hw : own_HW Z a0) (ws : List Jvm.Cond)  (h0 : Heap) (n0 : Nat) {w_CollectionKind_COLLECTION w_CollectionKind_SEQUENCE w_CollectionKind_ORDERED_SET w_CollectionKind_SET w_CollectionKind_BAG : Addr} (H : own_C Z h0 w_CollectionKind_COLLECTION w_CollectionKind_SEQUENCE w_CollectionKind_ORDERED_SET w_CollectionKind_SET w_CollectionKind_BAG) :
    own_Met l (⟨"com/example/montegancedo/montegancedo/ocl/CollectionKind", "conformsTo", "(Lcom/example/montegancedo/montegancedo/ocl/CollectionKind;)Z"⟩ : MethodName) prog_79_method_6_code 2 (some .boolean) ws (own_rm 0 0 0 0) Z #[(.ref w_CollectionKind_BAG), (.ref w_CollectionKind_SEQUENCE)] h0 (own_R (some (.int (0 : Int32))) h0) := by
  refine own_met (plainFor_of_name pn_1) ?_
  intro p e s m below meth c T0 hx hby hml hown hret hk hnm hZ X0 e0
  have hown : s.vm.findClass "com/example/montegancedo/montegancedo/ocl/CollectionKind" = some m.cls := hown
  obtain ⟨S_w_CollectionKind_COLLECTION, -, -, -, -, -, -, -, -, -, -, -, -, -, -, ne_w_CollectionKind_COLLECTION_w_CollectionKind_SEQUENCE, -, -, -, -, -, -, ne_w_CollectionKind_BAG_w_CollectionKind_SEQUENCE, -, -⟩ := id H
  refine own_ent (ef_1 m w_CollectionKind_BAG w_CollectionKind_SEQUENCE) ?_
  refine own_aload_n X0 hx (hb hby d1_0) rfl rfl 1 rfl ?_
  refine own_aload_n X0 hx (hb hby d1_1) rfl rfl 2 rfl ?_
  refine own_acmp X0 hx false (hb hby d1_2) rfl rfl (decide_eq_false fun q => ne_w_CollectionKind_BAG_w_CollectionKind_SEQUENCE (Value.ref.inj q)) 5 (by decide) (by decide) ?_
  refine own_aload_n X0 hx (hb hby d1_5) rfl rfl 6 rfl ?_
  refine own_getS X0 hx hZ hown (host := "") (Or.inl (own_w hw 15 rfl)) Via.refl e0 S_w_CollectionKind_COLLECTION (hb hby d1_6) 9 rfl fun T1 X1 e1 => ?_
  refine own_acmp X1 hx false (hb hby d1_9) rfl rfl (decide_eq_false fun q => (Ne.symm ne_w_CollectionKind_COLLECTION_w_CollectionKind_SEQUENCE) (Value.ref.inj q)) 16 (by decide) (by decide) ?_
  refine own_iconst X1 hx (hb hby d1_16) (0 : Int32) rfl 17 rfl ?_
  exact own_retZ X1 hx hk hret (hb hby d1_17) rfl ⟨rfl, e1, rfl⟩ (by decide) (by decide)
theorem rm_conformsTo_20 (l : Launch) (Z : State) (a0 : Array Value) (hw : own_HW Z a0) (ws : List Jvm.Cond)  (h0 : Heap) (n0 : Nat) {w_CollectionKind_COLLECTION w_CollectionKind_SEQUENCE w_CollectionKind_ORDERED_SET w_CollectionKind_SET w_CollectionKind_BAG : Addr} (H : own_C Z h0 w_CollectionKind_COLLECTION w_CollectionKind_SEQUENCE w_CollectionKind_ORDERED_SET w_CollectionKind_SET w_CollectionKind_BAG) :
    own_Met l (⟨"com/example/montegancedo/montegancedo/ocl/CollectionKind", "conformsTo", "(Lcom/example/montegancedo/montegancedo/ocl/CollectionKind;)Z"⟩ : MethodName) prog_79_method_6_code 2 (some .boolean) ws (own_rm 0 0 0 0) Z #[(.ref w_CollectionKind_BAG), (.ref w_CollectionKind_ORDERED_SET)] h0 (own_R (some (.int (0 : Int32))) h0) := by
  refine own_met (plainFor_of_name pn_1) ?_
  intro p e s m below meth c T0 hx hby hml hown hret hk hnm hZ X0 e0
  have hown : s.vm.findClass "com/example/montegancedo/montegancedo/ocl/CollectionKind" = some m.cls := hown
  obtain ⟨S_w_CollectionKind_COLLECTION, -, -, -, -, -, -, -, -, -, -, -, -, -, -, -, ne_w_CollectionKind_COLLECTION_w_CollectionKind_ORDERED_SET, -, -, -, -, -, -, ne_w_CollectionKind_BAG_w_CollectionKind_ORDERED_SET, -⟩ := id H
  refine own_ent (ef_1 m w_CollectionKind_BAG w_CollectionKind_ORDERED_SET) ?_
  refine own_aload_n X0 hx (hb hby d1_0) rfl rfl 1 rfl ?_
  refine own_aload_n X0 hx (hb hby d1_1) rfl rfl 2 rfl ?_
  refine own_acmp X0 hx false (hb hby d1_2) rfl rfl (decide_eq_false fun q => ne_w_CollectionKind_BAG_w_CollectionKind_ORDERED_SET (Value.ref.inj q)) 5 (by decide) (by decide) ?_
  refine own_aload_n X0 hx (hb hby d1_5) rfl rfl 6 rfl ?_
  refine own_getS X0 hx hZ hown (host := "") (Or.inl (own_w hw 15 rfl)) Via.refl e0 S_w_CollectionKind_COLLECTION (hb hby d1_6) 9 rfl fun T1 X1 e1 => ?_
  refine own_acmp X1 hx false (hb hby d1_9) rfl rfl (decide_eq_false fun q => (Ne.symm ne_w_CollectionKind_COLLECTION_w_CollectionKind_ORDERED_SET) (Value.ref.inj q)) 16 (by decide) (by decide) ?_
  refine own_iconst X1 hx (hb hby d1_16) (0 : Int32) rfl 17 rfl ?_
  exact own_retZ X1 hx hk hret (hb hby d1_17) rfl ⟨rfl, e1, rfl⟩ (by decide) (by decide)
theorem rm_conformsTo_21 (l : Launch) (Z : State) (a0 : Array Value) (hw : own_HW Z a0) (ws : List Jvm.Cond)  (h0 : Heap) (n0 : Nat) {w_CollectionKind_COLLECTION w_CollectionKind_SEQUENCE w_CollectionKind_ORDERED_SET w_CollectionKind_SET w_CollectionKind_BAG : Addr} (H : own_C Z h0 w_CollectionKind_COLLECTION w_CollectionKind_SEQUENCE w_CollectionKind_ORDERED_SET w_CollectionKind_SET w_CollectionKind_BAG) :
    own_Met l (⟨"com/example/montegancedo/montegancedo/ocl/CollectionKind", "conformsTo", "(Lcom/example/montegancedo/montegancedo/ocl/CollectionKind;)Z"⟩ : MethodName) prog_79_method_6_code 2 (some .boolean) ws (own_rm 0 0 0 0) Z #[(.ref w_CollectionKind_SEQUENCE), (.ref w_CollectionKind_COLLECTION)] h0 (own_R (some (.int (1 : Int32))) h0) := by
  refine own_met (plainFor_of_name pn_1) ?_
  intro p e s m below meth c T0 hx hby hml hown hret hk hnm hZ X0 e0
  have hown : s.vm.findClass "com/example/montegancedo/montegancedo/ocl/CollectionKind" = some m.cls := hown
  obtain ⟨S_w_CollectionKind_COLLECTION, -, -, -, -, -, -, -, -, -, -, -, -, -, -, ne_w_CollectionKind_COLLECTION_w_CollectionKind_SEQUENCE, -, -, -, -, -, -, -, -, -⟩ := id H
  refine own_ent (ef_1 m w_CollectionKind_SEQUENCE w_CollectionKind_COLLECTION) ?_
  refine own_aload_n X0 hx (hb hby d1_0) rfl rfl 1 rfl ?_
  refine own_aload_n X0 hx (hb hby d1_1) rfl rfl 2 rfl ?_
  refine own_acmp X0 hx false (hb hby d1_2) rfl rfl (decide_eq_false fun q => (Ne.symm ne_w_CollectionKind_COLLECTION_w_CollectionKind_SEQUENCE) (Value.ref.inj q)) 5 (by decide) (by decide) ?_
  refine own_aload_n X0 hx (hb hby d1_5) rfl rfl 6 rfl ?_
  refine own_getS X0 hx hZ hown (host := "") (Or.inl (own_w hw 15 rfl)) Via.refl e0 S_w_CollectionKind_COLLECTION (hb hby d1_6) 9 rfl fun T1 X1 e1 => ?_
  refine own_acmp X1 hx true (hb hby d1_9) rfl rfl (decide_eq_true rfl) 12 (by decide) (by decide) ?_
  refine own_iconst X1 hx (hb hby d1_12) (1 : Int32) rfl 13 rfl ?_
  refine own_goto X1 hx (hb hby d1_13) 17 (by decide) (by decide) ?_
  exact own_retZ X1 hx hk hret (hb hby d1_17) rfl ⟨rfl, e1, rfl⟩ (by decide) (by decide)
theorem rm_conformsTo_22 (l : Launch) (Z : State) (a0 : Array Value) (hw : own_HW Z a0) (ws : List Jvm.Cond)  (h0 : Heap) (n0 : Nat) {w_CollectionKind_COLLECTION w_CollectionKind_SEQUENCE w_CollectionKind_ORDERED_SET w_CollectionKind_SET w_CollectionKind_BAG : Addr} (H : own_C Z h0 w_CollectionKind_COLLECTION w_CollectionKind_SEQUENCE w_CollectionKind_ORDERED_SET w_CollectionKind_SET w_CollectionKind_BAG) :
    own_Met l (⟨"com/example/montegancedo/montegancedo/ocl/CollectionKind", "conformsTo", "(Lcom/example/montegancedo/montegancedo/ocl/CollectionKind;)Z"⟩ : MethodName) prog_79_method_6_code 2 (some .boolean) ws (own_rm 0 0 0 0) Z #[(.ref w_CollectionKind_SEQUENCE), (.ref w_CollectionKind_SET)] h0 (own_R (some (.int (0 : Int32))) h0) := by
  refine own_met (plainFor_of_name pn_1) ?_
  intro p e s m below meth c T0 hx hby hml hown hret hk hnm hZ X0 e0
  have hown : s.vm.findClass "com/example/montegancedo/montegancedo/ocl/CollectionKind" = some m.cls := hown
  obtain ⟨S_w_CollectionKind_COLLECTION, -, -, -, -, -, -, -, -, -, -, -, -, -, -, -, -, ne_w_CollectionKind_COLLECTION_w_CollectionKind_SET, ne_w_CollectionKind_SEQUENCE_w_CollectionKind_SET, -, -, -, -, -, -⟩ := id H
  refine own_ent (ef_1 m w_CollectionKind_SEQUENCE w_CollectionKind_SET) ?_
  refine own_aload_n X0 hx (hb hby d1_0) rfl rfl 1 rfl ?_
  refine own_aload_n X0 hx (hb hby d1_1) rfl rfl 2 rfl ?_
  refine own_acmp X0 hx false (hb hby d1_2) rfl rfl (decide_eq_false fun q => ne_w_CollectionKind_SEQUENCE_w_CollectionKind_SET (Value.ref.inj q)) 5 (by decide) (by decide) ?_
  refine own_aload_n X0 hx (hb hby d1_5) rfl rfl 6 rfl ?_
  refine own_getS X0 hx hZ hown (host := "") (Or.inl (own_w hw 15 rfl)) Via.refl e0 S_w_CollectionKind_COLLECTION (hb hby d1_6) 9 rfl fun T1 X1 e1 => ?_
  refine own_acmp X1 hx false (hb hby d1_9) rfl rfl (decide_eq_false fun q => (Ne.symm ne_w_CollectionKind_COLLECTION_w_CollectionKind_SET) (Value.ref.inj q)) 16 (by decide) (by decide) ?_
  refine own_iconst X1 hx (hb hby d1_16) (0 : Int32) rfl 17 rfl ?_
  exact own_retZ X1 hx hk hret (hb hby d1_17) rfl ⟨rfl, e1, rfl⟩ (by decide) (by decide)
theorem rm_conformsTo_23 (l : Launch) (Z : State) (a0 : Array Value) (hw : own_HW Z a0) (ws : List Jvm.Cond)  (h0 : Heap) (n0 : Nat) {w_CollectionKind_COLLECTION w_CollectionKind_SEQUENCE w_CollectionKind_ORDERED_SET w_CollectionKind_SET w_CollectionKind_BAG : Addr} (H : own_C Z h0 w_CollectionKind_COLLECTION w_CollectionKind_SEQUENCE w_CollectionKind_ORDERED_SET w_CollectionKind_SET w_CollectionKind_BAG) :
    own_Met l (⟨"com/example/montegancedo/montegancedo/ocl/CollectionKind", "conformsTo", "(Lcom/example/montegancedo/montegancedo/ocl/CollectionKind;)Z"⟩ : MethodName) prog_79_method_6_code 2 (some .boolean) ws (own_rm 0 0 0 0) Z #[(.ref w_CollectionKind_SEQUENCE), (.ref w_CollectionKind_BAG)] h0 (own_R (some (.int (0 : Int32))) h0) := by
  refine own_met (plainFor_of_name pn_1) ?_
  intro p e s m below meth c T0 hx hby hml hown hret hk hnm hZ X0 e0
  have hown : s.vm.findClass "com/example/montegancedo/montegancedo/ocl/CollectionKind" = some m.cls := hown
  obtain ⟨S_w_CollectionKind_COLLECTION, -, -, -, -, -, -, -, -, -, -, -, -, -, -, -, -, -, -, -, -, ne_w_CollectionKind_BAG_w_CollectionKind_COLLECTION, ne_w_CollectionKind_BAG_w_CollectionKind_SEQUENCE, -, -⟩ := id H
  refine own_ent (ef_1 m w_CollectionKind_SEQUENCE w_CollectionKind_BAG) ?_
  refine own_aload_n X0 hx (hb hby d1_0) rfl rfl 1 rfl ?_
  refine own_aload_n X0 hx (hb hby d1_1) rfl rfl 2 rfl ?_
  refine own_acmp X0 hx false (hb hby d1_2) rfl rfl (decide_eq_false fun q => (Ne.symm ne_w_CollectionKind_BAG_w_CollectionKind_SEQUENCE) (Value.ref.inj q)) 5 (by decide) (by decide) ?_
  refine own_aload_n X0 hx (hb hby d1_5) rfl rfl 6 rfl ?_
  refine own_getS X0 hx hZ hown (host := "") (Or.inl (own_w hw 15 rfl)) Via.refl e0 S_w_CollectionKind_COLLECTION (hb hby d1_6) 9 rfl fun T1 X1 e1 => ?_
  refine own_acmp X1 hx false (hb hby d1_9) rfl rfl (decide_eq_false fun q => ne_w_CollectionKind_BAG_w_CollectionKind_COLLECTION (Value.ref.inj q)) 16 (by decide) (by decide) ?_
  refine own_iconst X1 hx (hb hby d1_16) (0 : Int32) rfl 17 rfl ?_
  exact own_retZ X1 hx hk hret (hb hby d1_17) rfl ⟨rfl, e1, rfl⟩ (by decide) (by decide)
theorem rm_conformsTo_24 (l : Launch) (Z : State) (a0 : Array Value) (hw : own_HW Z a0) (ws : List Jvm.Cond)  (h0 : Heap) (n0 : Nat) {w_CollectionKind_COLLECTION w_CollectionKind_SEQUENCE w_CollectionKind_ORDERED_SET w_CollectionKind_SET w_CollectionKind_BAG : Addr} (H : own_C Z h0 w_CollectionKind_COLLECTION w_CollectionKind_SEQUENCE w_CollectionKind_ORDERED_SET w_CollectionKind_SET w_CollectionKind_BAG) :
    own_Met l (⟨"com/example/montegancedo/montegancedo/ocl/CollectionKind", "conformsTo", "(Lcom/example/montegancedo/montegancedo/ocl/CollectionKind;)Z"⟩ : MethodName) prog_79_method_6_code 2 (some .boolean) ws (own_rm 0 0 0 0) Z #[(.ref w_CollectionKind_SEQUENCE), (.ref w_CollectionKind_SEQUENCE)] h0 (own_R (some (.int (1 : Int32))) h0) := by
  refine own_met (plainFor_of_name pn_1) ?_
  intro p e s m below meth c T0 hx hby hml hown hret hk hnm hZ X0 e0
  have hown : s.vm.findClass "com/example/montegancedo/montegancedo/ocl/CollectionKind" = some m.cls := hown
  obtain ⟨-, -, -, -, -, -, -, -, -, -, -, -, -, -, -, -, -, -, -, -, -, -, -, -, -⟩ := id H
  refine own_ent (ef_1 m w_CollectionKind_SEQUENCE w_CollectionKind_SEQUENCE) ?_
  refine own_aload_n X0 hx (hb hby d1_0) rfl rfl 1 rfl ?_
  refine own_aload_n X0 hx (hb hby d1_1) rfl rfl 2 rfl ?_
  refine own_acmp X0 hx true (hb hby d1_2) rfl rfl (decide_eq_true rfl) 12 (by decide) (by decide) ?_
  refine own_iconst X0 hx (hb hby d1_12) (1 : Int32) rfl 13 rfl ?_
  refine own_goto X0 hx (hb hby d1_13) 17 (by decide) (by decide) ?_
  exact own_retZ X0 hx hk hret (hb hby d1_17) rfl ⟨rfl, e0, rfl⟩ (by decide) (by decide)
theorem rm_conformsTo_25 (l : Launch) (Z : State) (a0 : Array Value) (hw : own_HW Z a0) (ws : List Jvm.Cond)  (h0 : Heap) (n0 : Nat) {w_CollectionKind_COLLECTION w_CollectionKind_SEQUENCE w_CollectionKind_ORDERED_SET w_CollectionKind_SET w_CollectionKind_BAG : Addr} (H : own_C Z h0 w_CollectionKind_COLLECTION w_CollectionKind_SEQUENCE w_CollectionKind_ORDERED_SET w_CollectionKind_SET w_CollectionKind_BAG) :
    own_Met l (⟨"com/example/montegancedo/montegancedo/ocl/CollectionKind", "conformsTo", "(Lcom/example/montegancedo/montegancedo/ocl/CollectionKind;)Z"⟩ : MethodName) prog_79_method_6_code 2 (some .boolean) ws (own_rm 0 0 0 0) Z #[(.ref w_CollectionKind_SEQUENCE), (.ref w_CollectionKind_ORDERED_SET)] h0 (own_R (some (.int (0 : Int32))) h0) := by
  refine own_met (plainFor_of_name pn_1) ?_
  intro p e s m below meth c T0 hx hby hml hown hret hk hnm hZ X0 e0
  have hown : s.vm.findClass "com/example/montegancedo/montegancedo/ocl/CollectionKind" = some m.cls := hown
  obtain ⟨S_w_CollectionKind_COLLECTION, -, -, -, -, -, -, -, -, -, -, -, -, -, -, -, ne_w_CollectionKind_COLLECTION_w_CollectionKind_ORDERED_SET, -, -, ne_w_CollectionKind_ORDERED_SET_w_CollectionKind_SEQUENCE, -, -, -, -, -⟩ := id H
  refine own_ent (ef_1 m w_CollectionKind_SEQUENCE w_CollectionKind_ORDERED_SET) ?_
  refine own_aload_n X0 hx (hb hby d1_0) rfl rfl 1 rfl ?_
  refine own_aload_n X0 hx (hb hby d1_1) rfl rfl 2 rfl ?_
  refine own_acmp X0 hx false (hb hby d1_2) rfl rfl (decide_eq_false fun q => (Ne.symm ne_w_CollectionKind_ORDERED_SET_w_CollectionKind_SEQUENCE) (Value.ref.inj q)) 5 (by decide) (by decide) ?_
  refine own_aload_n X0 hx (hb hby d1_5) rfl rfl 6 rfl ?_
  refine own_getS X0 hx hZ hown (host := "") (Or.inl (own_w hw 15 rfl)) Via.refl e0 S_w_CollectionKind_COLLECTION (hb hby d1_6) 9 rfl fun T1 X1 e1 => ?_
  refine own_acmp X1 hx false (hb hby d1_9) rfl rfl (decide_eq_false fun q => (Ne.symm ne_w_CollectionKind_COLLECTION_w_CollectionKind_ORDERED_SET) (Value.ref.inj q)) 16 (by decide) (by decide) ?_
  refine own_iconst X1 hx (hb hby d1_16) (0 : Int32) rfl 17 rfl ?_
  exact own_retZ X1 hx hk hret (hb hby d1_17) rfl ⟨rfl, e1, rfl⟩ (by decide) (by decide)
theorem rm_conformsTo_26 (l : Launch) (Z : State) (a0 : Array Value) (hw : own_HW Z a0) (ws : List Jvm.Cond)  (h0 : Heap) (n0 : Nat) {w_CollectionKind_COLLECTION w_CollectionKind_SEQUENCE w_CollectionKind_ORDERED_SET w_CollectionKind_SET w_CollectionKind_BAG : Addr} (H : own_C Z h0 w_CollectionKind_COLLECTION w_CollectionKind_SEQUENCE w_CollectionKind_ORDERED_SET w_CollectionKind_SET w_CollectionKind_BAG) :
    own_Met l (⟨"com/example/montegancedo/montegancedo/ocl/CollectionKind", "conformsTo", "(Lcom/example/montegancedo/montegancedo/ocl/CollectionKind;)Z"⟩ : MethodName) prog_79_method_6_code 2 (some .boolean) ws (own_rm 0 0 0 0) Z #[(.ref w_CollectionKind_ORDERED_SET), (.ref w_CollectionKind_COLLECTION)] h0 (own_R (some (.int (1 : Int32))) h0) := by
  refine own_met (plainFor_of_name pn_1) ?_
  intro p e s m below meth c T0 hx hby hml hown hret hk hnm hZ X0 e0
  have hown : s.vm.findClass "com/example/montegancedo/montegancedo/ocl/CollectionKind" = some m.cls := hown
  obtain ⟨S_w_CollectionKind_COLLECTION, -, -, -, -, -, -, -, -, -, -, -, -, -, -, -, ne_w_CollectionKind_COLLECTION_w_CollectionKind_ORDERED_SET, -, -, -, -, -, -, -, -⟩ := id H
  refine own_ent (ef_1 m w_CollectionKind_ORDERED_SET w_CollectionKind_COLLECTION) ?_
  refine own_aload_n X0 hx (hb hby d1_0) rfl rfl 1 rfl ?_
  refine own_aload_n X0 hx (hb hby d1_1) rfl rfl 2 rfl ?_
  refine own_acmp X0 hx false (hb hby d1_2) rfl rfl (decide_eq_false fun q => (Ne.symm ne_w_CollectionKind_COLLECTION_w_CollectionKind_ORDERED_SET) (Value.ref.inj q)) 5 (by decide) (by decide) ?_
  refine own_aload_n X0 hx (hb hby d1_5) rfl rfl 6 rfl ?_
  refine own_getS X0 hx hZ hown (host := "") (Or.inl (own_w hw 15 rfl)) Via.refl e0 S_w_CollectionKind_COLLECTION (hb hby d1_6) 9 rfl fun T1 X1 e1 => ?_
  refine own_acmp X1 hx true (hb hby d1_9) rfl rfl (decide_eq_true rfl) 12 (by decide) (by decide) ?_
  refine own_iconst X1 hx (hb hby d1_12) (1 : Int32) rfl 13 rfl ?_
  refine own_goto X1 hx (hb hby d1_13) 17 (by decide) (by decide) ?_
  exact own_retZ X1 hx hk hret (hb hby d1_17) rfl ⟨rfl, e1, rfl⟩ (by decide) (by decide)
theorem rm_conformsTo_27 (l : Launch) (Z : State) (a0 : Array Value) (hw : own_HW Z a0) (ws : List Jvm.Cond)  (h0 : Heap) (n0 : Nat) {w_CollectionKind_COLLECTION w_CollectionKind_SEQUENCE w_CollectionKind_ORDERED_SET w_CollectionKind_SET w_CollectionKind_BAG : Addr} (H : own_C Z h0 w_CollectionKind_COLLECTION w_CollectionKind_SEQUENCE w_CollectionKind_ORDERED_SET w_CollectionKind_SET w_CollectionKind_BAG) :
    own_Met l (⟨"com/example/montegancedo/montegancedo/ocl/CollectionKind", "conformsTo", "(Lcom/example/montegancedo/montegancedo/ocl/CollectionKind;)Z"⟩ : MethodName) prog_79_method_6_code 2 (some .boolean) ws (own_rm 0 0 0 0) Z #[(.ref w_CollectionKind_ORDERED_SET), (.ref w_CollectionKind_SET)] h0 (own_R (some (.int (0 : Int32))) h0) := by
  refine own_met (plainFor_of_name pn_1) ?_
  intro p e s m below meth c T0 hx hby hml hown hret hk hnm hZ X0 e0
  have hown : s.vm.findClass "com/example/montegancedo/montegancedo/ocl/CollectionKind" = some m.cls := hown
  obtain ⟨S_w_CollectionKind_COLLECTION, -, -, -, -, -, -, -, -, -, -, -, -, -, -, -, -, ne_w_CollectionKind_COLLECTION_w_CollectionKind_SET, -, -, ne_w_CollectionKind_ORDERED_SET_w_CollectionKind_SET, -, -, -, -⟩ := id H
  refine own_ent (ef_1 m w_CollectionKind_ORDERED_SET w_CollectionKind_SET) ?_
  refine own_aload_n X0 hx (hb hby d1_0) rfl rfl 1 rfl ?_
  refine own_aload_n X0 hx (hb hby d1_1) rfl rfl 2 rfl ?_
  refine own_acmp X0 hx false (hb hby d1_2) rfl rfl (decide_eq_false fun q => ne_w_CollectionKind_ORDERED_SET_w_CollectionKind_SET (Value.ref.inj q)) 5 (by decide) (by decide) ?_
  refine own_aload_n X0 hx (hb hby d1_5) rfl rfl 6 rfl ?_
  refine own_getS X0 hx hZ hown (host := "") (Or.inl (own_w hw 15 rfl)) Via.refl e0 S_w_CollectionKind_COLLECTION (hb hby d1_6) 9 rfl fun T1 X1 e1 => ?_
  refine own_acmp X1 hx false (hb hby d1_9) rfl rfl (decide_eq_false fun q => (Ne.symm ne_w_CollectionKind_COLLECTION_w_CollectionKind_SET) (Value.ref.inj q)) 16 (by decide) (by decide) ?_
  refine own_iconst X1 hx (hb hby d1_16) (0 : Int32) rfl 17 rfl ?_
  exact own_retZ X1 hx hk hret (hb hby d1_17) rfl ⟨rfl, e1, rfl⟩ (by decide) (by decide)
theorem rm_conformsTo_28 (l : Launch) (Z : State) (a0 : Array Value) (hw : own_HW Z a0) (ws : List Jvm.Cond)  (h0 : Heap) (n0 : Nat) {w_CollectionKind_COLLECTION w_CollectionKind_SEQUENCE w_CollectionKind_ORDERED_SET w_CollectionKind_SET w_CollectionKind_BAG : Addr} (H : own_C Z h0 w_CollectionKind_COLLECTION w_CollectionKind_SEQUENCE w_CollectionKind_ORDERED_SET w_CollectionKind_SET w_CollectionKind_BAG) :
    own_Met l (⟨"com/example/montegancedo/montegancedo/ocl/CollectionKind", "conformsTo", "(Lcom/example/montegancedo/montegancedo/ocl/CollectionKind;)Z"⟩ : MethodName) prog_79_method_6_code 2 (some .boolean) ws (own_rm 0 0 0 0) Z #[(.ref w_CollectionKind_ORDERED_SET), (.ref w_CollectionKind_BAG)] h0 (own_R (some (.int (0 : Int32))) h0) := by
  refine own_met (plainFor_of_name pn_1) ?_
  intro p e s m below meth c T0 hx hby hml hown hret hk hnm hZ X0 e0
  have hown : s.vm.findClass "com/example/montegancedo/montegancedo/ocl/CollectionKind" = some m.cls := hown
  obtain ⟨S_w_CollectionKind_COLLECTION, -, -, -, -, -, -, -, -, -, -, -, -, -, -, -, -, -, -, -, -, ne_w_CollectionKind_BAG_w_CollectionKind_COLLECTION, -, ne_w_CollectionKind_BAG_w_CollectionKind_ORDERED_SET, -⟩ := id H
  refine own_ent (ef_1 m w_CollectionKind_ORDERED_SET w_CollectionKind_BAG) ?_
  refine own_aload_n X0 hx (hb hby d1_0) rfl rfl 1 rfl ?_
  refine own_aload_n X0 hx (hb hby d1_1) rfl rfl 2 rfl ?_
  refine own_acmp X0 hx false (hb hby d1_2) rfl rfl (decide_eq_false fun q => (Ne.symm ne_w_CollectionKind_BAG_w_CollectionKind_ORDERED_SET) (Value.ref.inj q)) 5 (by decide) (by decide) ?_
  refine own_aload_n X0 hx (hb hby d1_5) rfl rfl 6 rfl ?_
  refine own_getS X0 hx hZ hown (host := "") (Or.inl (own_w hw 15 rfl)) Via.refl e0 S_w_CollectionKind_COLLECTION (hb hby d1_6) 9 rfl fun T1 X1 e1 => ?_
  refine own_acmp X1 hx false (hb hby d1_9) rfl rfl (decide_eq_false fun q => ne_w_CollectionKind_BAG_w_CollectionKind_COLLECTION (Value.ref.inj q)) 16 (by decide) (by decide) ?_
  refine own_iconst X1 hx (hb hby d1_16) (0 : Int32) rfl 17 rfl ?_
  exact own_retZ X1 hx hk hret (hb hby d1_17) rfl ⟨rfl, e1, rfl⟩ (by decide) (by decide)
theorem rm_conformsTo_29 (l : Launch) (Z : State) (a0 : Array Value) (hw : own_HW Z a0) (ws : List Jvm.Cond)  (h0 : Heap) (n0 : Nat) {w_CollectionKind_COLLECTION w_CollectionKind_SEQUENCE w_CollectionKind_ORDERED_SET w_CollectionKind_SET w_CollectionKind_BAG : Addr} (H : own_C Z h0 w_CollectionKind_COLLECTION w_CollectionKind_SEQUENCE w_CollectionKind_ORDERED_SET w_CollectionKind_SET w_CollectionKind_BAG) :
    own_Met l (⟨"com/example/montegancedo/montegancedo/ocl/CollectionKind", "conformsTo", "(Lcom/example/montegancedo/montegancedo/ocl/CollectionKind;)Z"⟩ : MethodName) prog_79_method_6_code 2 (some .boolean) ws (own_rm 0 0 0 0) Z #[(.ref w_CollectionKind_ORDERED_SET), (.ref w_CollectionKind_SEQUENCE)] h0 (own_R (some (.int (0 : Int32))) h0) := by
  refine own_met (plainFor_of_name pn_1) ?_
  intro p e s m below meth c T0 hx hby hml hown hret hk hnm hZ X0 e0
  have hown : s.vm.findClass "com/example/montegancedo/montegancedo/ocl/CollectionKind" = some m.cls := hown
  obtain ⟨S_w_CollectionKind_COLLECTION, -, -, -, -, -, -, -, -, -, -, -, -, -, -, ne_w_CollectionKind_COLLECTION_w_CollectionKind_SEQUENCE, -, -, -, ne_w_CollectionKind_ORDERED_SET_w_CollectionKind_SEQUENCE, -, -, -, -, -⟩ := id H
  refine own_ent (ef_1 m w_CollectionKind_ORDERED_SET w_CollectionKind_SEQUENCE) ?_
  refine own_aload_n X0 hx (hb hby d1_0) rfl rfl 1 rfl ?_
  refine own_aload_n X0 hx (hb hby d1_1) rfl rfl 2 rfl ?_
  refine own_acmp X0 hx false (hb hby d1_2) rfl rfl (decide_eq_false fun q => ne_w_CollectionKind_ORDERED_SET_w_CollectionKind_SEQUENCE (Value.ref.inj q)) 5 (by decide) (by decide) ?_
  refine own_aload_n X0 hx (hb hby d1_5) rfl rfl 6 rfl ?_
  refine own_getS X0 hx hZ hown (host := "") (Or.inl (own_w hw 15 rfl)) Via.refl e0 S_w_CollectionKind_COLLECTION (hb hby d1_6) 9 rfl fun T1 X1 e1 => ?_
  refine own_acmp X1 hx false (hb hby d1_9) rfl rfl (decide_eq_false fun q => (Ne.symm ne_w_CollectionKind_COLLECTION_w_CollectionKind_SEQUENCE) (Value.ref.inj q)) 16 (by decide) (by decide) ?_
  refine own_iconst X1 hx (hb hby d1_16) (0 : Int32) rfl 17 rfl ?_
  exact own_retZ X1 hx hk hret (hb hby d1_17) rfl ⟨rfl, e1, rfl⟩ (by decide) (by decide)
theorem rm_conformsTo_30 (l : Launch) (Z : State) (a0 : Array Value) (hw : own_HW Z a0) (ws : List Jvm.Cond)  (h0 : Heap) (n0 : Nat) {w_CollectionKind_COLLECTION w_CollectionKind_SEQUENCE w_CollectionKind_ORDERED_SET w_CollectionKind_SET w_CollectionKind_BAG : Addr} (H : own_C Z h0 w_CollectionKind_COLLECTION w_CollectionKind_SEQUENCE w_CollectionKind_ORDERED_SET w_CollectionKind_SET w_CollectionKind_BAG) :
    own_Met l (⟨"com/example/montegancedo/montegancedo/ocl/CollectionKind", "conformsTo", "(Lcom/example/montegancedo/montegancedo/ocl/CollectionKind;)Z"⟩ : MethodName) prog_79_method_6_code 2 (some .boolean) ws (own_rm 0 0 0 0) Z #[(.ref w_CollectionKind_ORDERED_SET), (.ref w_CollectionKind_ORDERED_SET)] h0 (own_R (some (.int (1 : Int32))) h0) := by
  refine own_met (plainFor_of_name pn_1) ?_
  intro p e s m below meth c T0 hx hby hml hown hret hk hnm hZ X0 e0
  have hown : s.vm.findClass "com/example/montegancedo/montegancedo/ocl/CollectionKind" = some m.cls := hown
  obtain ⟨-, -, -, -, -, -, -, -, -, -, -, -, -, -, -, -, -, -, -, -, -, -, -, -, -⟩ := id H
  refine own_ent (ef_1 m w_CollectionKind_ORDERED_SET w_CollectionKind_ORDERED_SET) ?_
  refine own_aload_n X0 hx (hb hby d1_0) rfl rfl 1 rfl ?_
  refine own_aload_n X0 hx (hb hby d1_1) rfl rfl 2 rfl ?_
  refine own_acmp X0 hx true (hb hby d1_2) rfl rfl (decide_eq_true rfl) 12 (by decide) (by decide) ?_
  refine own_iconst X0 hx (hb hby d1_12) (1 : Int32) rfl 13 rfl ?_
  refine own_goto X0 hx (hb hby d1_13) 17 (by decide) (by decide) ?_
  exact own_retZ X0 hx hk hret (hb hby d1_17) rfl ⟨rfl, e0, rfl⟩ (by decide) (by decide)
theorem pd_0 : parseMethodDescriptor "(I)Lcom/example/montegancedo/montegancedo/ocl/CollectionKind;" = some ⟨[.int], some (.object "com/example/montegancedo/montegancedo/ocl/CollectionKind")⟩ := by decide +kernel
theorem pd_1 : parseMethodDescriptor "(Lcom/example/montegancedo/montegancedo/ocl/CollectionKind;)Z" = some ⟨[(.object "com/example/montegancedo/montegancedo/ocl/CollectionKind")], some .boolean⟩ := by decide +kernel
theorem ef_2 (m : MethodId) (y0 : Int32) (y1 : Int32) : entryFrame m #[(.int y0), (.int y1)] maxLocals = mkF m 0 #[.val (.int y0), .val (.int y1), .unset, .unset, .unset, .unset, .unset] [] := by first | (simp [entryFrame, mkF, argsToLocals, Value.category, maxLocals]; done) | rfl
theorem rm0 (l : Launch) (Z : State) (a0 : Array Value) (hw : own_HW Z a0) (ws : List Jvm.Cond) (x0 : Int32) (x1 : Int32) (h0 : Heap) (n0 : Nat) {w_CollectionKind_COLLECTION w_CollectionKind_SEQUENCE w_CollectionKind_ORDERED_SET w_CollectionKind_SET w_CollectionKind_BAG : Addr} (H : own_C Z h0 w_CollectionKind_COLLECTION w_CollectionKind_SEQUENCE w_CollectionKind_ORDERED_SET w_CollectionKind_SET w_CollectionKind_BAG) :
    own_Met l x code maxLocals ret ws room_1 Z #[(.int x0), (.int x1)] h0 (own_Q0 n0) := by
  refine own_met (plainFor_of_name pn_0) ?_
  intro p e s m below meth c T0 hx hby hml hown hret hk hnm hZ X0 e0
  have hown : s.vm.findClass "com/example/montegancedo/montegancedo/ocl/CollectionKindConformsToPinLaw" = some m.cls := hown
  obtain ⟨-, E_w_CollectionKind_COLLECTION, -, E_w_CollectionKind_SEQUENCE, -, E_w_CollectionKind_ORDERED_SET, -, E_w_CollectionKind_SET, -, E_w_CollectionKind_BAG, -, -, -, -, -, -, -, -, -, -, -, -, -, -, -⟩ := id H
  refine own_ent (ef_2 m x0 x1) ?_
  refine own_iload_n X0 hx (hb hby at_0) rfl 1 rfl ?_
  refine own_ldc X0 hx hZ hown (own_w hw 0 rfl) (hb hby at_1) 3 rfl ?_
  refine own_iand X0 hx (hb hby at_3) 4 rfl ?_
  refine own_iconst X0 hx (hb hby at_4) (5 : Int32) rfl 5 rfl ?_
  refine own_irem X0 hx (hb hby at_5) (by decide) 6 rfl ?_
  rcases own_mod5 x0 with q1 | q1 | q1 | q1 | q1
  · rw [q1]
    refine own_istore_n X0 hx (hb hby at_6) #[.val (.int x0), .val (.int x1), .val (.int (0 : Int32)), .unset, .unset, .unset, .unset] rfl 7 rfl ?_
    refine own_iload_n X0 hx (hb hby at_7) rfl 8 rfl ?_
    refine own_ldc X0 hx hZ hown (own_w hw 0 rfl) (hb hby at_8) 10 rfl ?_
    refine own_iand X0 hx (hb hby at_10) 11 rfl ?_
    refine own_iconst X0 hx (hb hby at_11) (5 : Int32) rfl 12 rfl ?_
    refine own_irem X0 hx (hb hby at_12) (by decide) 13 rfl ?_
    rcases own_mod5 x1 with q2 | q2 | q2 | q2 | q2
    · rw [q2]
      refine own_istore_n X0 hx (hb hby at_13) #[.val (.int x0), .val (.int x1), .val (.int (0 : Int32)), .val (.int (0 : Int32)), .unset, .unset, .unset] rfl 14 rfl ?_
      refine own_iload_n X0 hx (hb hby at_14) rfl 15 rfl ?_
      refine own_pureS X0 hx hZ hown (own_w hw 1 rfl) (own_w hw 2 rfl) (own_w hw 3 rfl) (own_w hw 4 rfl) (by decide) [(.int (0 : Int32))] [] 0 (rm_kind_1 l Z a0 hw []  h0 n0 H) (by decide) (by decide) rfl rfl e0 (by rw [hml]; rfl) (lenOf pd_0 rfl) (Nat.le_of_eq rfl) (hb hby at_15) 18 rfl rfl (by decide) (by decide) fun T4 X4 e4 => ?_
      refine own_astore X4 hx (hb hby at_18) #[.val (.int x0), .val (.int x1), .val (.int (0 : Int32)), .val (.int (0 : Int32)), .val (.ref w_CollectionKind_COLLECTION), .unset, .unset] rfl rfl 20 rfl ?_
      refine own_iload_n X4 hx (hb hby at_20) rfl 21 rfl ?_
      refine own_pureS X4 hx hZ hown (own_w hw 1 rfl) (own_w hw 2 rfl) (own_w hw 3 rfl) (own_w hw 4 rfl) (by decide) [(.int (0 : Int32))] [] 0 (rm_kind_1 l Z a0 hw []  h0 n0 H) (by decide) (by decide) rfl rfl e4 (by rw [hml]; rfl) (lenOf pd_0 rfl) (Nat.le_of_eq rfl) (hb hby at_21) 24 rfl rfl (by decide) (by decide) fun T6 X6 e6 => ?_
      refine own_astore X6 hx (hb hby at_24) #[.val (.int x0), .val (.int x1), .val (.int (0 : Int32)), .val (.int (0 : Int32)), .val (.ref w_CollectionKind_COLLECTION), .val (.ref w_CollectionKind_COLLECTION), .unset] rfl rfl 26 rfl ?_
      refine own_iload_n X6 hx (hb hby at_26) rfl 27 rfl ?_
      refine own_ifN X6 hx (hb hby at_27) ((if0 _ _).trans (teq (by decide : (0 : Int32) = (0 : Int32))).2) 30 rfl ?_
      refine own_iconst X6 hx (hb hby at_30) (1 : Int32) rfl 31 rfl ?_
      refine own_istore X6 hx (hb hby at_31) #[.val (.int x0), .val (.int x1), .val (.int (0 : Int32)), .val (.int (0 : Int32)), .val (.ref w_CollectionKind_COLLECTION), .val (.ref w_CollectionKind_COLLECTION), .val (.int (1 : Int32))] rfl 33 rfl ?_
      refine own_goto X6 hx (hb hby at_33) 48 (by decide) (by decide) ?_
      refine own_aload X6 hx (hb hby at_48) rfl rfl 50 rfl ?_
      refine own_aload X6 hx (hb hby at_50) rfl rfl 52 rfl ?_
      refine own_pureV X6 hx hZ hown (own_w hw 10 rfl) (own_w hw 11 rfl) (notFace_of_selects (args := #[]) (mvT hZ (own_w hw 13 rfl))) (own_w hw 13 rfl) (own_w hw 12 rfl) (own_w hw 6 rfl) (own_w hw 14 rfl) (by decide) w_CollectionKind_COLLECTION [(.ref w_CollectionKind_COLLECTION)] [] 0 (rm_conformsTo_2 l Z a0 hw []  h0 n0 H) (by decide) (by decide) rfl rfl e6 E_w_CollectionKind_COLLECTION (by rw [hml]; rfl) (lenOf pd_1 rfl) (Nat.le_of_eq rfl) (hb hby at_52) 55 rfl rfl (by decide) (by decide) fun T8 X8 e8 => ?_
      refine own_iload X8 hx (hb hby at_55) rfl 57 rfl ?_
      refine own_icmpN X8 hx (hb hby at_57) (teq (by decide : (1 : Int32) = (1 : Int32))).2 60 rfl ?_
      refine own_iconst X8 hx (hb hby at_60) (1 : Int32) rfl 61 rfl ?_
      refine own_goto X8 hx (hb hby at_61) 65 (by decide) (by decide) ?_
      exact own_retZ X8 hx hk hret (hb hby at_65) rfl ⟨rfl, Fr.nil _⟩ (by decide) (by decide)
    · rw [q2]
      refine own_istore_n X0 hx (hb hby at_13) #[.val (.int x0), .val (.int x1), .val (.int (0 : Int32)), .val (.int (1 : Int32)), .unset, .unset, .unset] rfl 14 rfl ?_
      refine own_iload_n X0 hx (hb hby at_14) rfl 15 rfl ?_
      refine own_pureS X0 hx hZ hown (own_w hw 1 rfl) (own_w hw 2 rfl) (own_w hw 3 rfl) (own_w hw 4 rfl) (by decide) [(.int (0 : Int32))] [] 0 (rm_kind_1 l Z a0 hw []  h0 n0 H) (by decide) (by decide) rfl rfl e0 (by rw [hml]; rfl) (lenOf pd_0 rfl) (Nat.le_of_eq rfl) (hb hby at_15) 18 rfl rfl (by decide) (by decide) fun T10 X10 e10 => ?_
      refine own_astore X10 hx (hb hby at_18) #[.val (.int x0), .val (.int x1), .val (.int (0 : Int32)), .val (.int (1 : Int32)), .val (.ref w_CollectionKind_COLLECTION), .unset, .unset] rfl rfl 20 rfl ?_
      refine own_iload_n X10 hx (hb hby at_20) rfl 21 rfl ?_
      refine own_pureS X10 hx hZ hown (own_w hw 1 rfl) (own_w hw 2 rfl) (own_w hw 3 rfl) (own_w hw 4 rfl) (by decide) [(.int (1 : Int32))] [] 0 (rm_kind_3 l Z a0 hw []  h0 n0 H) (by decide) (by decide) rfl rfl e10 (by rw [hml]; rfl) (lenOf pd_0 rfl) (Nat.le_of_eq rfl) (hb hby at_21) 24 rfl rfl (by decide) (by decide) fun T12 X12 e12 => ?_
      refine own_astore X12 hx (hb hby at_24) #[.val (.int x0), .val (.int x1), .val (.int (0 : Int32)), .val (.int (1 : Int32)), .val (.ref w_CollectionKind_COLLECTION), .val (.ref w_CollectionKind_SET), .unset] rfl rfl 26 rfl ?_
      refine own_iload_n X12 hx (hb hby at_26) rfl 27 rfl ?_
      refine own_ifY X12 hx (hb hby at_27) ((if0 _ _).trans (feq (by decide : ¬ ((1 : Int32) = (0 : Int32)))).2) 36 (by decide) (by decide) ?_
      refine own_iload_n X12 hx (hb hby at_36) rfl 37 rfl ?_
      refine own_iload_n X12 hx (hb hby at_37) rfl 38 rfl ?_
      refine own_icmpY X12 hx (hb hby at_38) (feq (by decide : ¬ ((0 : Int32) = (1 : Int32)))).2 45 (by decide) (by decide) ?_
      refine own_iconst X12 hx (hb hby at_45) (0 : Int32) rfl 46 rfl ?_
      refine own_istore X12 hx (hb hby at_46) #[.val (.int x0), .val (.int x1), .val (.int (0 : Int32)), .val (.int (1 : Int32)), .val (.ref w_CollectionKind_COLLECTION), .val (.ref w_CollectionKind_SET), .val (.int (0 : Int32))] rfl 48 rfl ?_
      refine own_aload X12 hx (hb hby at_48) rfl rfl 50 rfl ?_
      refine own_aload X12 hx (hb hby at_50) rfl rfl 52 rfl ?_
      refine own_pureV X12 hx hZ hown (own_w hw 10 rfl) (own_w hw 11 rfl) (notFace_of_selects (args := #[]) (mvT hZ (own_w hw 13 rfl))) (own_w hw 13 rfl) (own_w hw 12 rfl) (own_w hw 6 rfl) (own_w hw 14 rfl) (by decide) w_CollectionKind_COLLECTION [(.ref w_CollectionKind_SET)] [] 0 (rm_conformsTo_4 l Z a0 hw []  h0 n0 H) (by decide) (by decide) rfl rfl e12 E_w_CollectionKind_COLLECTION (by rw [hml]; rfl) (lenOf pd_1 rfl) (Nat.le_of_eq rfl) (hb hby at_52) 55 rfl rfl (by decide) (by decide) fun T14 X14 e14 => ?_
      refine own_iload X14 hx (hb hby at_55) rfl 57 rfl ?_
      refine own_icmpN X14 hx (hb hby at_57) (teq (by decide : (0 : Int32) = (0 : Int32))).2 60 rfl ?_
      refine own_iconst X14 hx (hb hby at_60) (1 : Int32) rfl 61 rfl ?_
      refine own_goto X14 hx (hb hby at_61) 65 (by decide) (by decide) ?_
      exact own_retZ X14 hx hk hret (hb hby at_65) rfl ⟨rfl, Fr.nil _⟩ (by decide) (by decide)
    · rw [q2]
      refine own_istore_n X0 hx (hb hby at_13) #[.val (.int x0), .val (.int x1), .val (.int (0 : Int32)), .val (.int (2 : Int32)), .unset, .unset, .unset] rfl 14 rfl ?_
      refine own_iload_n X0 hx (hb hby at_14) rfl 15 rfl ?_
      refine own_pureS X0 hx hZ hown (own_w hw 1 rfl) (own_w hw 2 rfl) (own_w hw 3 rfl) (own_w hw 4 rfl) (by decide) [(.int (0 : Int32))] [] 0 (rm_kind_1 l Z a0 hw []  h0 n0 H) (by decide) (by decide) rfl rfl e0 (by rw [hml]; rfl) (lenOf pd_0 rfl) (Nat.le_of_eq rfl) (hb hby at_15) 18 rfl rfl (by decide) (by decide) fun T16 X16 e16 => ?_
      refine own_astore X16 hx (hb hby at_18) #[.val (.int x0), .val (.int x1), .val (.int (0 : Int32)), .val (.int (2 : Int32)), .val (.ref w_CollectionKind_COLLECTION), .unset, .unset] rfl rfl 20 rfl ?_
      refine own_iload_n X16 hx (hb hby at_20) rfl 21 rfl ?_
      refine own_pureS X16 hx hZ hown (own_w hw 1 rfl) (own_w hw 2 rfl) (own_w hw 3 rfl) (own_w hw 4 rfl) (by decide) [(.int (2 : Int32))] [] 0 (rm_kind_5 l Z a0 hw []  h0 n0 H) (by decide) (by decide) rfl rfl e16 (by rw [hml]; rfl) (lenOf pd_0 rfl) (Nat.le_of_eq rfl) (hb hby at_21) 24 rfl rfl (by decide) (by decide) fun T18 X18 e18 => ?_
      refine own_astore X18 hx (hb hby at_24) #[.val (.int x0), .val (.int x1), .val (.int (0 : Int32)), .val (.int (2 : Int32)), .val (.ref w_CollectionKind_COLLECTION), .val (.ref w_CollectionKind_BAG), .unset] rfl rfl 26 rfl ?_
      refine own_iload_n X18 hx (hb hby at_26) rfl 27 rfl ?_
      refine own_ifY X18 hx (hb hby at_27) ((if0 _ _).trans (feq (by decide : ¬ ((2 : Int32) = (0 : Int32)))).2) 36 (by decide) (by decide) ?_
      refine own_iload_n X18 hx (hb hby at_36) rfl 37 rfl ?_
      refine own_iload_n X18 hx (hb hby at_37) rfl 38 rfl ?_
      refine own_icmpY X18 hx (hb hby at_38) (feq (by decide : ¬ ((0 : Int32) = (2 : Int32)))).2 45 (by decide) (by decide) ?_
      refine own_iconst X18 hx (hb hby at_45) (0 : Int32) rfl 46 rfl ?_
      refine own_istore X18 hx (hb hby at_46) #[.val (.int x0), .val (.int x1), .val (.int (0 : Int32)), .val (.int (2 : Int32)), .val (.ref w_CollectionKind_COLLECTION), .val (.ref w_CollectionKind_BAG), .val (.int (0 : Int32))] rfl 48 rfl ?_
      refine own_aload X18 hx (hb hby at_48) rfl rfl 50 rfl ?_
      refine own_aload X18 hx (hb hby at_50) rfl rfl 52 rfl ?_
      refine own_pureV X18 hx hZ hown (own_w hw 10 rfl) (own_w hw 11 rfl) (notFace_of_selects (args := #[]) (mvT hZ (own_w hw 13 rfl))) (own_w hw 13 rfl) (own_w hw 12 rfl) (own_w hw 6 rfl) (own_w hw 14 rfl) (by decide) w_CollectionKind_COLLECTION [(.ref w_CollectionKind_BAG)] [] 0 (rm_conformsTo_6 l Z a0 hw []  h0 n0 H) (by decide) (by decide) rfl rfl e18 E_w_CollectionKind_COLLECTION (by rw [hml]; rfl) (lenOf pd_1 rfl) (Nat.le_of_eq rfl) (hb hby at_52) 55 rfl rfl (by decide) (by decide) fun T20 X20 e20 => ?_
      refine own_iload X20 hx (hb hby at_55) rfl 57 rfl ?_
      refine own_icmpN X20 hx (hb hby at_57) (teq (by decide : (0 : Int32) = (0 : Int32))).2 60 rfl ?_
      refine own_iconst X20 hx (hb hby at_60) (1 : Int32) rfl 61 rfl ?_
      refine own_goto X20 hx (hb hby at_61) 65 (by decide) (by decide) ?_
      exact own_retZ X20 hx hk hret (hb hby at_65) rfl ⟨rfl, Fr.nil _⟩ (by decide) (by decide)
    · rw [q2]
      refine own_istore_n X0 hx (hb hby at_13) #[.val (.int x0), .val (.int x1), .val (.int (0 : Int32)), .val (.int (3 : Int32)), .unset, .unset, .unset] rfl 14 rfl ?_
      refine own_iload_n X0 hx (hb hby at_14) rfl 15 rfl ?_
      refine own_pureS X0 hx hZ hown (own_w hw 1 rfl) (own_w hw 2 rfl) (own_w hw 3 rfl) (own_w hw 4 rfl) (by decide) [(.int (0 : Int32))] [] 0 (rm_kind_1 l Z a0 hw []  h0 n0 H) (by decide) (by decide) rfl rfl e0 (by rw [hml]; rfl) (lenOf pd_0 rfl) (Nat.le_of_eq rfl) (hb hby at_15) 18 rfl rfl (by decide) (by decide) fun T22 X22 e22 => ?_
      refine own_astore X22 hx (hb hby at_18) #[.val (.int x0), .val (.int x1), .val (.int (0 : Int32)), .val (.int (3 : Int32)), .val (.ref w_CollectionKind_COLLECTION), .unset, .unset] rfl rfl 20 rfl ?_
      refine own_iload_n X22 hx (hb hby at_20) rfl 21 rfl ?_
      refine own_pureS X22 hx hZ hown (own_w hw 1 rfl) (own_w hw 2 rfl) (own_w hw 3 rfl) (own_w hw 4 rfl) (by decide) [(.int (3 : Int32))] [] 0 (rm_kind_7 l Z a0 hw []  h0 n0 H) (by decide) (by decide) rfl rfl e22 (by rw [hml]; rfl) (lenOf pd_0 rfl) (Nat.le_of_eq rfl) (hb hby at_21) 24 rfl rfl (by decide) (by decide) fun T24 X24 e24 => ?_
      refine own_astore X24 hx (hb hby at_24) #[.val (.int x0), .val (.int x1), .val (.int (0 : Int32)), .val (.int (3 : Int32)), .val (.ref w_CollectionKind_COLLECTION), .val (.ref w_CollectionKind_SEQUENCE), .unset] rfl rfl 26 rfl ?_
      refine own_iload_n X24 hx (hb hby at_26) rfl 27 rfl ?_
      refine own_ifY X24 hx (hb hby at_27) ((if0 _ _).trans (feq (by decide : ¬ ((3 : Int32) = (0 : Int32)))).2) 36 (by decide) (by decide) ?_
      refine own_iload_n X24 hx (hb hby at_36) rfl 37 rfl ?_
      refine own_iload_n X24 hx (hb hby at_37) rfl 38 rfl ?_
      refine own_icmpY X24 hx (hb hby at_38) (feq (by decide : ¬ ((0 : Int32) = (3 : Int32)))).2 45 (by decide) (by decide) ?_
      refine own_iconst X24 hx (hb hby at_45) (0 : Int32) rfl 46 rfl ?_
      refine own_istore X24 hx (hb hby at_46) #[.val (.int x0), .val (.int x1), .val (.int (0 : Int32)), .val (.int (3 : Int32)), .val (.ref w_CollectionKind_COLLECTION), .val (.ref w_CollectionKind_SEQUENCE), .val (.int (0 : Int32))] rfl 48 rfl ?_
      refine own_aload X24 hx (hb hby at_48) rfl rfl 50 rfl ?_
      refine own_aload X24 hx (hb hby at_50) rfl rfl 52 rfl ?_
      refine own_pureV X24 hx hZ hown (own_w hw 10 rfl) (own_w hw 11 rfl) (notFace_of_selects (args := #[]) (mvT hZ (own_w hw 13 rfl))) (own_w hw 13 rfl) (own_w hw 12 rfl) (own_w hw 6 rfl) (own_w hw 14 rfl) (by decide) w_CollectionKind_COLLECTION [(.ref w_CollectionKind_SEQUENCE)] [] 0 (rm_conformsTo_8 l Z a0 hw []  h0 n0 H) (by decide) (by decide) rfl rfl e24 E_w_CollectionKind_COLLECTION (by rw [hml]; rfl) (lenOf pd_1 rfl) (Nat.le_of_eq rfl) (hb hby at_52) 55 rfl rfl (by decide) (by decide) fun T26 X26 e26 => ?_
      refine own_iload X26 hx (hb hby at_55) rfl 57 rfl ?_
      refine own_icmpN X26 hx (hb hby at_57) (teq (by decide : (0 : Int32) = (0 : Int32))).2 60 rfl ?_
      refine own_iconst X26 hx (hb hby at_60) (1 : Int32) rfl 61 rfl ?_
      refine own_goto X26 hx (hb hby at_61) 65 (by decide) (by decide) ?_
      exact own_retZ X26 hx hk hret (hb hby at_65) rfl ⟨rfl, Fr.nil _⟩ (by decide) (by decide)
    · rw [q2]
      refine own_istore_n X0 hx (hb hby at_13) #[.val (.int x0), .val (.int x1), .val (.int (0 : Int32)), .val (.int (4 : Int32)), .unset, .unset, .unset] rfl 14 rfl ?_
      refine own_iload_n X0 hx (hb hby at_14) rfl 15 rfl ?_
      refine own_pureS X0 hx hZ hown (own_w hw 1 rfl) (own_w hw 2 rfl) (own_w hw 3 rfl) (own_w hw 4 rfl) (by decide) [(.int (0 : Int32))] [] 0 (rm_kind_1 l Z a0 hw []  h0 n0 H) (by decide) (by decide) rfl rfl e0 (by rw [hml]; rfl) (lenOf pd_0 rfl) (Nat.le_of_eq rfl) (hb hby at_15) 18 rfl rfl (by decide) (by decide) fun T28 X28 e28 => ?_
      refine own_astore X28 hx (hb hby at_18) #[.val (.int x0), .val (.int x1), .val (.int (0 : Int32)), .val (.int (4 : Int32)), .val (.ref w_CollectionKind_COLLECTION), .unset, .unset] rfl rfl 20 rfl ?_
      refine own_iload_n X28 hx (hb hby at_20) rfl 21 rfl ?_
      refine own_pureS X28 hx hZ hown (own_w hw 1 rfl) (own_w hw 2 rfl) (own_w hw 3 rfl) (own_w hw 4 rfl) (by decide) [(.int (4 : Int32))] [] 0 (rm_kind_9 l Z a0 hw []  h0 n0 H) (by decide) (by decide) rfl rfl e28 (by rw [hml]; rfl) (lenOf pd_0 rfl) (Nat.le_of_eq rfl) (hb hby at_21) 24 rfl rfl (by decide) (by decide) fun T30 X30 e30 => ?_
      refine own_astore X30 hx (hb hby at_24) #[.val (.int x0), .val (.int x1), .val (.int (0 : Int32)), .val (.int (4 : Int32)), .val (.ref w_CollectionKind_COLLECTION), .val (.ref w_CollectionKind_ORDERED_SET), .unset] rfl rfl 26 rfl ?_
      refine own_iload_n X30 hx (hb hby at_26) rfl 27 rfl ?_
      refine own_ifY X30 hx (hb hby at_27) ((if0 _ _).trans (feq (by decide : ¬ ((4 : Int32) = (0 : Int32)))).2) 36 (by decide) (by decide) ?_
      refine own_iload_n X30 hx (hb hby at_36) rfl 37 rfl ?_
      refine own_iload_n X30 hx (hb hby at_37) rfl 38 rfl ?_
      refine own_icmpY X30 hx (hb hby at_38) (feq (by decide : ¬ ((0 : Int32) = (4 : Int32)))).2 45 (by decide) (by decide) ?_
      refine own_iconst X30 hx (hb hby at_45) (0 : Int32) rfl 46 rfl ?_
      refine own_istore X30 hx (hb hby at_46) #[.val (.int x0), .val (.int x1), .val (.int (0 : Int32)), .val (.int (4 : Int32)), .val (.ref w_CollectionKind_COLLECTION), .val (.ref w_CollectionKind_ORDERED_SET), .val (.int (0 : Int32))] rfl 48 rfl ?_
      refine own_aload X30 hx (hb hby at_48) rfl rfl 50 rfl ?_
      refine own_aload X30 hx (hb hby at_50) rfl rfl 52 rfl ?_
      refine own_pureV X30 hx hZ hown (own_w hw 10 rfl) (own_w hw 11 rfl) (notFace_of_selects (args := #[]) (mvT hZ (own_w hw 13 rfl))) (own_w hw 13 rfl) (own_w hw 12 rfl) (own_w hw 6 rfl) (own_w hw 14 rfl) (by decide) w_CollectionKind_COLLECTION [(.ref w_CollectionKind_ORDERED_SET)] [] 0 (rm_conformsTo_10 l Z a0 hw []  h0 n0 H) (by decide) (by decide) rfl rfl e30 E_w_CollectionKind_COLLECTION (by rw [hml]; rfl) (lenOf pd_1 rfl) (Nat.le_of_eq rfl) (hb hby at_52) 55 rfl rfl (by decide) (by decide) fun T32 X32 e32 => ?_
      refine own_iload X32 hx (hb hby at_55) rfl 57 rfl ?_
      refine own_icmpN X32 hx (hb hby at_57) (teq (by decide : (0 : Int32) = (0 : Int32))).2 60 rfl ?_
      refine own_iconst X32 hx (hb hby at_60) (1 : Int32) rfl 61 rfl ?_
      refine own_goto X32 hx (hb hby at_61) 65 (by decide) (by decide) ?_
      exact own_retZ X32 hx hk hret (hb hby at_65) rfl ⟨rfl, Fr.nil _⟩ (by decide) (by decide)
  · rw [q1]
    refine own_istore_n X0 hx (hb hby at_6) #[.val (.int x0), .val (.int x1), .val (.int (1 : Int32)), .unset, .unset, .unset, .unset] rfl 7 rfl ?_
    refine own_iload_n X0 hx (hb hby at_7) rfl 8 rfl ?_
    refine own_ldc X0 hx hZ hown (own_w hw 0 rfl) (hb hby at_8) 10 rfl ?_
    refine own_iand X0 hx (hb hby at_10) 11 rfl ?_
    refine own_iconst X0 hx (hb hby at_11) (5 : Int32) rfl 12 rfl ?_
    refine own_irem X0 hx (hb hby at_12) (by decide) 13 rfl ?_
    rcases own_mod5 x1 with q33 | q33 | q33 | q33 | q33
    · rw [q33]
      refine own_istore_n X0 hx (hb hby at_13) #[.val (.int x0), .val (.int x1), .val (.int (1 : Int32)), .val (.int (0 : Int32)), .unset, .unset, .unset] rfl 14 rfl ?_
      refine own_iload_n X0 hx (hb hby at_14) rfl 15 rfl ?_
      refine own_pureS X0 hx hZ hown (own_w hw 1 rfl) (own_w hw 2 rfl) (own_w hw 3 rfl) (own_w hw 4 rfl) (by decide) [(.int (1 : Int32))] [] 0 (rm_kind_3 l Z a0 hw []  h0 n0 H) (by decide) (by decide) rfl rfl e0 (by rw [hml]; rfl) (lenOf pd_0 rfl) (Nat.le_of_eq rfl) (hb hby at_15) 18 rfl rfl (by decide) (by decide) fun T35 X35 e35 => ?_
      refine own_astore X35 hx (hb hby at_18) #[.val (.int x0), .val (.int x1), .val (.int (1 : Int32)), .val (.int (0 : Int32)), .val (.ref w_CollectionKind_SET), .unset, .unset] rfl rfl 20 rfl ?_
      refine own_iload_n X35 hx (hb hby at_20) rfl 21 rfl ?_
      refine own_pureS X35 hx hZ hown (own_w hw 1 rfl) (own_w hw 2 rfl) (own_w hw 3 rfl) (own_w hw 4 rfl) (by decide) [(.int (0 : Int32))] [] 0 (rm_kind_1 l Z a0 hw []  h0 n0 H) (by decide) (by decide) rfl rfl e35 (by rw [hml]; rfl) (lenOf pd_0 rfl) (Nat.le_of_eq rfl) (hb hby at_21) 24 rfl rfl (by decide) (by decide) fun T37 X37 e37 => ?_
      refine own_astore X37 hx (hb hby at_24) #[.val (.int x0), .val (.int x1), .val (.int (1 : Int32)), .val (.int (0 : Int32)), .val (.ref w_CollectionKind_SET), .val (.ref w_CollectionKind_COLLECTION), .unset] rfl rfl 26 rfl ?_
      refine own_iload_n X37 hx (hb hby at_26) rfl 27 rfl ?_
      refine own_ifN X37 hx (hb hby at_27) ((if0 _ _).trans (teq (by decide : (0 : Int32) = (0 : Int32))).2) 30 rfl ?_
      refine own_iconst X37 hx (hb hby at_30) (1 : Int32) rfl 31 rfl ?_
      refine own_istore X37 hx (hb hby at_31) #[.val (.int x0), .val (.int x1), .val (.int (1 : Int32)), .val (.int (0 : Int32)), .val (.ref w_CollectionKind_SET), .val (.ref w_CollectionKind_COLLECTION), .val (.int (1 : Int32))] rfl 33 rfl ?_
      refine own_goto X37 hx (hb hby at_33) 48 (by decide) (by decide) ?_
      refine own_aload X37 hx (hb hby at_48) rfl rfl 50 rfl ?_
      refine own_aload X37 hx (hb hby at_50) rfl rfl 52 rfl ?_
      refine own_pureV X37 hx hZ hown (own_w hw 10 rfl) (own_w hw 11 rfl) (notFace_of_selects (args := #[]) (mvT hZ (own_w hw 13 rfl))) (own_w hw 13 rfl) (own_w hw 12 rfl) (own_w hw 6 rfl) (own_w hw 14 rfl) (by decide) w_CollectionKind_SET [(.ref w_CollectionKind_COLLECTION)] [] 0 (rm_conformsTo_11 l Z a0 hw []  h0 n0 H) (by decide) (by decide) rfl rfl e37 E_w_CollectionKind_SET (by rw [hml]; rfl) (lenOf pd_1 rfl) (Nat.le_of_eq rfl) (hb hby at_52) 55 rfl rfl (by decide) (by decide) fun T39 X39 e39 => ?_
      refine own_iload X39 hx (hb hby at_55) rfl 57 rfl ?_
      refine own_icmpN X39 hx (hb hby at_57) (teq (by decide : (1 : Int32) = (1 : Int32))).2 60 rfl ?_
      refine own_iconst X39 hx (hb hby at_60) (1 : Int32) rfl 61 rfl ?_
      refine own_goto X39 hx (hb hby at_61) 65 (by decide) (by decide) ?_
      exact own_retZ X39 hx hk hret (hb hby at_65) rfl ⟨rfl, Fr.nil _⟩ (by decide) (by decide)
    · rw [q33]
      refine own_istore_n X0 hx (hb hby at_13) #[.val (.int x0), .val (.int x1), .val (.int (1 : Int32)), .val (.int (1 : Int32)), .unset, .unset, .unset] rfl 14 rfl ?_
      refine own_iload_n X0 hx (hb hby at_14) rfl 15 rfl ?_
      refine own_pureS X0 hx hZ hown (own_w hw 1 rfl) (own_w hw 2 rfl) (own_w hw 3 rfl) (own_w hw 4 rfl) (by decide) [(.int (1 : Int32))] [] 0 (rm_kind_3 l Z a0 hw []  h0 n0 H) (by decide) (by decide) rfl rfl e0 (by rw [hml]; rfl) (lenOf pd_0 rfl) (Nat.le_of_eq rfl) (hb hby at_15) 18 rfl rfl (by decide) (by decide) fun T41 X41 e41 => ?_
      refine own_astore X41 hx (hb hby at_18) #[.val (.int x0), .val (.int x1), .val (.int (1 : Int32)), .val (.int (1 : Int32)), .val (.ref w_CollectionKind_SET), .unset, .unset] rfl rfl 20 rfl ?_
      refine own_iload_n X41 hx (hb hby at_20) rfl 21 rfl ?_
      refine own_pureS X41 hx hZ hown (own_w hw 1 rfl) (own_w hw 2 rfl) (own_w hw 3 rfl) (own_w hw 4 rfl) (by decide) [(.int (1 : Int32))] [] 0 (rm_kind_3 l Z a0 hw []  h0 n0 H) (by decide) (by decide) rfl rfl e41 (by rw [hml]; rfl) (lenOf pd_0 rfl) (Nat.le_of_eq rfl) (hb hby at_21) 24 rfl rfl (by decide) (by decide) fun T43 X43 e43 => ?_
      refine own_astore X43 hx (hb hby at_24) #[.val (.int x0), .val (.int x1), .val (.int (1 : Int32)), .val (.int (1 : Int32)), .val (.ref w_CollectionKind_SET), .val (.ref w_CollectionKind_SET), .unset] rfl rfl 26 rfl ?_
      refine own_iload_n X43 hx (hb hby at_26) rfl 27 rfl ?_
      refine own_ifY X43 hx (hb hby at_27) ((if0 _ _).trans (feq (by decide : ¬ ((1 : Int32) = (0 : Int32)))).2) 36 (by decide) (by decide) ?_
      refine own_iload_n X43 hx (hb hby at_36) rfl 37 rfl ?_
      refine own_iload_n X43 hx (hb hby at_37) rfl 38 rfl ?_
      refine own_icmpN X43 hx (hb hby at_38) (teq (by decide : (1 : Int32) = (1 : Int32))).2 41 rfl ?_
      refine own_iconst X43 hx (hb hby at_41) (1 : Int32) rfl 42 rfl ?_
      refine own_goto X43 hx (hb hby at_42) 46 (by decide) (by decide) ?_
      refine own_istore X43 hx (hb hby at_46) #[.val (.int x0), .val (.int x1), .val (.int (1 : Int32)), .val (.int (1 : Int32)), .val (.ref w_CollectionKind_SET), .val (.ref w_CollectionKind_SET), .val (.int (1 : Int32))] rfl 48 rfl ?_
      refine own_aload X43 hx (hb hby at_48) rfl rfl 50 rfl ?_
      refine own_aload X43 hx (hb hby at_50) rfl rfl 52 rfl ?_
      refine own_pureV X43 hx hZ hown (own_w hw 10 rfl) (own_w hw 11 rfl) (notFace_of_selects (args := #[]) (mvT hZ (own_w hw 13 rfl))) (own_w hw 13 rfl) (own_w hw 12 rfl) (own_w hw 6 rfl) (own_w hw 14 rfl) (by decide) w_CollectionKind_SET [(.ref w_CollectionKind_SET)] [] 0 (rm_conformsTo_12 l Z a0 hw []  h0 n0 H) (by decide) (by decide) rfl rfl e43 E_w_CollectionKind_SET (by rw [hml]; rfl) (lenOf pd_1 rfl) (Nat.le_of_eq rfl) (hb hby at_52) 55 rfl rfl (by decide) (by decide) fun T45 X45 e45 => ?_
      refine own_iload X45 hx (hb hby at_55) rfl 57 rfl ?_
      refine own_icmpN X45 hx (hb hby at_57) (teq (by decide : (1 : Int32) = (1 : Int32))).2 60 rfl ?_
      refine own_iconst X45 hx (hb hby at_60) (1 : Int32) rfl 61 rfl ?_
      refine own_goto X45 hx (hb hby at_61) 65 (by decide) (by decide) ?_
      exact own_retZ X45 hx hk hret (hb hby at_65) rfl ⟨rfl, Fr.nil _⟩ (by decide) (by decide)
    · rw [q33]
      refine own_istore_n X0 hx (hb hby at_13) #[.val (.int x0), .val (.int x1), .val (.int (1 : Int32)), .val (.int (2 : Int32)), .unset, .unset, .unset] rfl 14 rfl ?_
      refine own_iload_n X0 hx (hb hby at_14) rfl 15 rfl ?_
      refine own_pureS X0 hx hZ hown (own_w hw 1 rfl) (own_w hw 2 rfl) (own_w hw 3 rfl) (own_w hw 4 rfl) (by decide) [(.int (1 : Int32))] [] 0 (rm_kind_3 l Z a0 hw []  h0 n0 H) (by decide) (by decide) rfl rfl e0 (by rw [hml]; rfl) (lenOf pd_0 rfl) (Nat.le_of_eq rfl) (hb hby at_15) 18 rfl rfl (by decide) (by decide) fun T47 X47 e47 => ?_
      refine own_astore X47 hx (hb hby at_18) #[.val (.int x0), .val (.int x1), .val (.int (1 : Int32)), .val (.int (2 : Int32)), .val (.ref w_CollectionKind_SET), .unset, .unset] rfl rfl 20 rfl ?_
      refine own_iload_n X47 hx (hb hby at_20) rfl 21 rfl ?_
      refine own_pureS X47 hx hZ hown (own_w hw 1 rfl) (own_w hw 2 rfl) (own_w hw 3 rfl) (own_w hw 4 rfl) (by decide) [(.int (2 : Int32))] [] 0 (rm_kind_5 l Z a0 hw []  h0 n0 H) (by decide) (by decide) rfl rfl e47 (by rw [hml]; rfl) (lenOf pd_0 rfl) (Nat.le_of_eq rfl) (hb hby at_21) 24 rfl rfl (by decide) (by decide) fun T49 X49 e49 => ?_
      refine own_astore X49 hx (hb hby at_24) #[.val (.int x0), .val (.int x1), .val (.int (1 : Int32)), .val (.int (2 : Int32)), .val (.ref w_CollectionKind_SET), .val (.ref w_CollectionKind_BAG), .unset] rfl rfl 26 rfl ?_
      refine own_iload_n X49 hx (hb hby at_26) rfl 27 rfl ?_
      refine own_ifY X49 hx (hb hby at_27) ((if0 _ _).trans (feq (by decide : ¬ ((2 : Int32) = (0 : Int32)))).2) 36 (by decide) (by decide) ?_
      refine own_iload_n X49 hx (hb hby at_36) rfl 37 rfl ?_
      refine own_iload_n X49 hx (hb hby at_37) rfl 38 rfl ?_
      refine own_icmpY X49 hx (hb hby at_38) (feq (by decide : ¬ ((1 : Int32) = (2 : Int32)))).2 45 (by decide) (by decide) ?_
      refine own_iconst X49 hx (hb hby at_45) (0 : Int32) rfl 46 rfl ?_
      refine own_istore X49 hx (hb hby at_46) #[.val (.int x0), .val (.int x1), .val (.int (1 : Int32)), .val (.int (2 : Int32)), .val (.ref w_CollectionKind_SET), .val (.ref w_CollectionKind_BAG), .val (.int (0 : Int32))] rfl 48 rfl ?_
      refine own_aload X49 hx (hb hby at_48) rfl rfl 50 rfl ?_
      refine own_aload X49 hx (hb hby at_50) rfl rfl 52 rfl ?_
      refine own_pureV X49 hx hZ hown (own_w hw 10 rfl) (own_w hw 11 rfl) (notFace_of_selects (args := #[]) (mvT hZ (own_w hw 13 rfl))) (own_w hw 13 rfl) (own_w hw 12 rfl) (own_w hw 6 rfl) (own_w hw 14 rfl) (by decide) w_CollectionKind_SET [(.ref w_CollectionKind_BAG)] [] 0 (rm_conformsTo_13 l Z a0 hw []  h0 n0 H) (by decide) (by decide) rfl rfl e49 E_w_CollectionKind_SET (by rw [hml]; rfl) (lenOf pd_1 rfl) (Nat.le_of_eq rfl) (hb hby at_52) 55 rfl rfl (by decide) (by decide) fun T51 X51 e51 => ?_
      refine own_iload X51 hx (hb hby at_55) rfl 57 rfl ?_
      refine own_icmpN X51 hx (hb hby at_57) (teq (by decide : (0 : Int32) = (0 : Int32))).2 60 rfl ?_
      refine own_iconst X51 hx (hb hby at_60) (1 : Int32) rfl 61 rfl ?_
      refine own_goto X51 hx (hb hby at_61) 65 (by decide) (by decide) ?_
      exact own_retZ X51 hx hk hret (hb hby at_65) rfl ⟨rfl, Fr.nil _⟩ (by decide) (by decide)
    · rw [q33]
      refine own_istore_n X0 hx (hb hby at_13) #[.val (.int x0), .val (.int x1), .val (.int (1 : Int32)), .val (.int (3 : Int32)), .unset, .unset, .unset] rfl 14 rfl ?_
      refine own_iload_n X0 hx (hb hby at_14) rfl 15 rfl ?_
      refine own_pureS X0 hx hZ hown (own_w hw 1 rfl) (own_w hw 2 rfl) (own_w hw 3 rfl) (own_w hw 4 rfl) (by decide) [(.int (1 : Int32))] [] 0 (rm_kind_3 l Z a0 hw []  h0 n0 H) (by decide) (by decide) rfl rfl e0 (by rw [hml]; rfl) (lenOf pd_0 rfl) (Nat.le_of_eq rfl) (hb hby at_15) 18 rfl rfl (by decide) (by decide) fun T53 X53 e53 => ?_
      refine own_astore X53 hx (hb hby at_18) #[.val (.int x0), .val (.int x1), .val (.int (1 : Int32)), .val (.int (3 : Int32)), .val (.ref w_CollectionKind_SET), .unset, .unset] rfl rfl 20 rfl ?_
      refine own_iload_n X53 hx (hb hby at_20) rfl 21 rfl ?_
      refine own_pureS X53 hx hZ hown (own_w hw 1 rfl) (own_w hw 2 rfl) (own_w hw 3 rfl) (own_w hw 4 rfl) (by decide) [(.int (3 : Int32))] [] 0 (rm_kind_7 l Z a0 hw []  h0 n0 H) (by decide) (by decide) rfl rfl e53 (by rw [hml]; rfl) (lenOf pd_0 rfl) (Nat.le_of_eq rfl) (hb hby at_21) 24 rfl rfl (by decide) (by decide) fun T55 X55 e55 => ?_
      refine own_astore X55 hx (hb hby at_24) #[.val (.int x0), .val (.int x1), .val (.int (1 : Int32)), .val (.int (3 : Int32)), .val (.ref w_CollectionKind_SET), .val (.ref w_CollectionKind_SEQUENCE), .unset] rfl rfl 26 rfl ?_
      refine own_iload_n X55 hx (hb hby at_26) rfl 27 rfl ?_
      refine own_ifY X55 hx (hb hby at_27) ((if0 _ _).trans (feq (by decide : ¬ ((3 : Int32) = (0 : Int32)))).2) 36 (by decide) (by decide) ?_
      refine own_iload_n X55 hx (hb hby at_36) rfl 37 rfl ?_
      refine own_iload_n X55 hx (hb hby at_37) rfl 38 rfl ?_
      refine own_icmpY X55 hx (hb hby at_38) (feq (by decide : ¬ ((1 : Int32) = (3 : Int32)))).2 45 (by decide) (by decide) ?_
      refine own_iconst X55 hx (hb hby at_45) (0 : Int32) rfl 46 rfl ?_
      refine own_istore X55 hx (hb hby at_46) #[.val (.int x0), .val (.int x1), .val (.int (1 : Int32)), .val (.int (3 : Int32)), .val (.ref w_CollectionKind_SET), .val (.ref w_CollectionKind_SEQUENCE), .val (.int (0 : Int32))] rfl 48 rfl ?_
      refine own_aload X55 hx (hb hby at_48) rfl rfl 50 rfl ?_
      refine own_aload X55 hx (hb hby at_50) rfl rfl 52 rfl ?_
      refine own_pureV X55 hx hZ hown (own_w hw 10 rfl) (own_w hw 11 rfl) (notFace_of_selects (args := #[]) (mvT hZ (own_w hw 13 rfl))) (own_w hw 13 rfl) (own_w hw 12 rfl) (own_w hw 6 rfl) (own_w hw 14 rfl) (by decide) w_CollectionKind_SET [(.ref w_CollectionKind_SEQUENCE)] [] 0 (rm_conformsTo_14 l Z a0 hw []  h0 n0 H) (by decide) (by decide) rfl rfl e55 E_w_CollectionKind_SET (by rw [hml]; rfl) (lenOf pd_1 rfl) (Nat.le_of_eq rfl) (hb hby at_52) 55 rfl rfl (by decide) (by decide) fun T57 X57 e57 => ?_
      refine own_iload X57 hx (hb hby at_55) rfl 57 rfl ?_
      refine own_icmpN X57 hx (hb hby at_57) (teq (by decide : (0 : Int32) = (0 : Int32))).2 60 rfl ?_
      refine own_iconst X57 hx (hb hby at_60) (1 : Int32) rfl 61 rfl ?_
      refine own_goto X57 hx (hb hby at_61) 65 (by decide) (by decide) ?_
      exact own_retZ X57 hx hk hret (hb hby at_65) rfl ⟨rfl, Fr.nil _⟩ (by decide) (by decide)
    · rw [q33]
      refine own_istore_n X0 hx (hb hby at_13) #[.val (.int x0), .val (.int x1), .val (.int (1 : Int32)), .val (.int (4 : Int32)), .unset, .unset, .unset] rfl 14 rfl ?_
      refine own_iload_n X0 hx (hb hby at_14) rfl 15 rfl ?_
      refine own_pureS X0 hx hZ hown (own_w hw 1 rfl) (own_w hw 2 rfl) (own_w hw 3 rfl) (own_w hw 4 rfl) (by decide) [(.int (1 : Int32))] [] 0 (rm_kind_3 l Z a0 hw []  h0 n0 H) (by decide) (by decide) rfl rfl e0 (by rw [hml]; rfl) (lenOf pd_0 rfl) (Nat.le_of_eq rfl) (hb hby at_15) 18 rfl rfl (by decide) (by decide) fun T59 X59 e59 => ?_
      refine own_astore X59 hx (hb hby at_18) #[.val (.int x0), .val (.int x1), .val (.int (1 : Int32)), .val (.int (4 : Int32)), .val (.ref w_CollectionKind_SET), .unset, .unset] rfl rfl 20 rfl ?_
      refine own_iload_n X59 hx (hb hby at_20) rfl 21 rfl ?_
      refine own_pureS X59 hx hZ hown (own_w hw 1 rfl) (own_w hw 2 rfl) (own_w hw 3 rfl) (own_w hw 4 rfl) (by decide) [(.int (4 : Int32))] [] 0 (rm_kind_9 l Z a0 hw []  h0 n0 H) (by decide) (by decide) rfl rfl e59 (by rw [hml]; rfl) (lenOf pd_0 rfl) (Nat.le_of_eq rfl) (hb hby at_21) 24 rfl rfl (by decide) (by decide) fun T61 X61 e61 => ?_
      refine own_astore X61 hx (hb hby at_24) #[.val (.int x0), .val (.int x1), .val (.int (1 : Int32)), .val (.int (4 : Int32)), .val (.ref w_CollectionKind_SET), .val (.ref w_CollectionKind_ORDERED_SET), .unset] rfl rfl 26 rfl ?_
      refine own_iload_n X61 hx (hb hby at_26) rfl 27 rfl ?_
      refine own_ifY X61 hx (hb hby at_27) ((if0 _ _).trans (feq (by decide : ¬ ((4 : Int32) = (0 : Int32)))).2) 36 (by decide) (by decide) ?_
      refine own_iload_n X61 hx (hb hby at_36) rfl 37 rfl ?_
      refine own_iload_n X61 hx (hb hby at_37) rfl 38 rfl ?_
      refine own_icmpY X61 hx (hb hby at_38) (feq (by decide : ¬ ((1 : Int32) = (4 : Int32)))).2 45 (by decide) (by decide) ?_
      refine own_iconst X61 hx (hb hby at_45) (0 : Int32) rfl 46 rfl ?_
      refine own_istore X61 hx (hb hby at_46) #[.val (.int x0), .val (.int x1), .val (.int (1 : Int32)), .val (.int (4 : Int32)), .val (.ref w_CollectionKind_SET), .val (.ref w_CollectionKind_ORDERED_SET), .val (.int (0 : Int32))] rfl 48 rfl ?_
      refine own_aload X61 hx (hb hby at_48) rfl rfl 50 rfl ?_
      refine own_aload X61 hx (hb hby at_50) rfl rfl 52 rfl ?_
      refine own_pureV X61 hx hZ hown (own_w hw 10 rfl) (own_w hw 11 rfl) (notFace_of_selects (args := #[]) (mvT hZ (own_w hw 13 rfl))) (own_w hw 13 rfl) (own_w hw 12 rfl) (own_w hw 6 rfl) (own_w hw 14 rfl) (by decide) w_CollectionKind_SET [(.ref w_CollectionKind_ORDERED_SET)] [] 0 (rm_conformsTo_15 l Z a0 hw []  h0 n0 H) (by decide) (by decide) rfl rfl e61 E_w_CollectionKind_SET (by rw [hml]; rfl) (lenOf pd_1 rfl) (Nat.le_of_eq rfl) (hb hby at_52) 55 rfl rfl (by decide) (by decide) fun T63 X63 e63 => ?_
      refine own_iload X63 hx (hb hby at_55) rfl 57 rfl ?_
      refine own_icmpN X63 hx (hb hby at_57) (teq (by decide : (0 : Int32) = (0 : Int32))).2 60 rfl ?_
      refine own_iconst X63 hx (hb hby at_60) (1 : Int32) rfl 61 rfl ?_
      refine own_goto X63 hx (hb hby at_61) 65 (by decide) (by decide) ?_
      exact own_retZ X63 hx hk hret (hb hby at_65) rfl ⟨rfl, Fr.nil _⟩ (by decide) (by decide)
  · rw [q1]
    refine own_istore_n X0 hx (hb hby at_6) #[.val (.int x0), .val (.int x1), .val (.int (2 : Int32)), .unset, .unset, .unset, .unset] rfl 7 rfl ?_
    refine own_iload_n X0 hx (hb hby at_7) rfl 8 rfl ?_
    refine own_ldc X0 hx hZ hown (own_w hw 0 rfl) (hb hby at_8) 10 rfl ?_
    refine own_iand X0 hx (hb hby at_10) 11 rfl ?_
    refine own_iconst X0 hx (hb hby at_11) (5 : Int32) rfl 12 rfl ?_
    refine own_irem X0 hx (hb hby at_12) (by decide) 13 rfl ?_
    rcases own_mod5 x1 with q64 | q64 | q64 | q64 | q64
    · rw [q64]
      refine own_istore_n X0 hx (hb hby at_13) #[.val (.int x0), .val (.int x1), .val (.int (2 : Int32)), .val (.int (0 : Int32)), .unset, .unset, .unset] rfl 14 rfl ?_
      refine own_iload_n X0 hx (hb hby at_14) rfl 15 rfl ?_
      refine own_pureS X0 hx hZ hown (own_w hw 1 rfl) (own_w hw 2 rfl) (own_w hw 3 rfl) (own_w hw 4 rfl) (by decide) [(.int (2 : Int32))] [] 0 (rm_kind_5 l Z a0 hw []  h0 n0 H) (by decide) (by decide) rfl rfl e0 (by rw [hml]; rfl) (lenOf pd_0 rfl) (Nat.le_of_eq rfl) (hb hby at_15) 18 rfl rfl (by decide) (by decide) fun T66 X66 e66 => ?_
      refine own_astore X66 hx (hb hby at_18) #[.val (.int x0), .val (.int x1), .val (.int (2 : Int32)), .val (.int (0 : Int32)), .val (.ref w_CollectionKind_BAG), .unset, .unset] rfl rfl 20 rfl ?_
      refine own_iload_n X66 hx (hb hby at_20) rfl 21 rfl ?_
      refine own_pureS X66 hx hZ hown (own_w hw 1 rfl) (own_w hw 2 rfl) (own_w hw 3 rfl) (own_w hw 4 rfl) (by decide) [(.int (0 : Int32))] [] 0 (rm_kind_1 l Z a0 hw []  h0 n0 H) (by decide) (by decide) rfl rfl e66 (by rw [hml]; rfl) (lenOf pd_0 rfl) (Nat.le_of_eq rfl) (hb hby at_21) 24 rfl rfl (by decide) (by decide) fun T68 X68 e68 => ?_
      refine own_astore X68 hx (hb hby at_24) #[.val (.int x0), .val (.int x1), .val (.int (2 : Int32)), .val (.int (0 : Int32)), .val (.ref w_CollectionKind_BAG), .val (.ref w_CollectionKind_COLLECTION), .unset] rfl rfl 26 rfl ?_
      refine own_iload_n X68 hx (hb hby at_26) rfl 27 rfl ?_
      refine own_ifN X68 hx (hb hby at_27) ((if0 _ _).trans (teq (by decide : (0 : Int32) = (0 : Int32))).2) 30 rfl ?_
      refine own_iconst X68 hx (hb hby at_30) (1 : Int32) rfl 31 rfl ?_
      refine own_istore X68 hx (hb hby at_31) #[.val (.int x0), .val (.int x1), .val (.int (2 : Int32)), .val (.int (0 : Int32)), .val (.ref w_CollectionKind_BAG), .val (.ref w_CollectionKind_COLLECTION), .val (.int (1 : Int32))] rfl 33 rfl ?_
      refine own_goto X68 hx (hb hby at_33) 48 (by decide) (by decide) ?_
      refine own_aload X68 hx (hb hby at_48) rfl rfl 50 rfl ?_
      refine own_aload X68 hx (hb hby at_50) rfl rfl 52 rfl ?_
      refine own_pureV X68 hx hZ hown (own_w hw 10 rfl) (own_w hw 11 rfl) (notFace_of_selects (args := #[]) (mvT hZ (own_w hw 13 rfl))) (own_w hw 13 rfl) (own_w hw 12 rfl) (own_w hw 6 rfl) (own_w hw 14 rfl) (by decide) w_CollectionKind_BAG [(.ref w_CollectionKind_COLLECTION)] [] 0 (rm_conformsTo_16 l Z a0 hw []  h0 n0 H) (by decide) (by decide) rfl rfl e68 E_w_CollectionKind_BAG (by rw [hml]; rfl) (lenOf pd_1 rfl) (Nat.le_of_eq rfl) (hb hby at_52) 55 rfl rfl (by decide) (by decide) fun T70 X70 e70 => ?_
      refine own_iload X70 hx (hb hby at_55) rfl 57 rfl ?_
      refine own_icmpN X70 hx (hb hby at_57) (teq (by decide : (1 : Int32) = (1 : Int32))).2 60 rfl ?_
      refine own_iconst X70 hx (hb hby at_60) (1 : Int32) rfl 61 rfl ?_
      refine own_goto X70 hx (hb hby at_61) 65 (by decide) (by decide) ?_
      exact own_retZ X70 hx hk hret (hb hby at_65) rfl ⟨rfl, Fr.nil _⟩ (by decide) (by decide)
    · rw [q64]
      refine own_istore_n X0 hx (hb hby at_13) #[.val (.int x0), .val (.int x1), .val (.int (2 : Int32)), .val (.int (1 : Int32)), .unset, .unset, .unset] rfl 14 rfl ?_
      refine own_iload_n X0 hx (hb hby at_14) rfl 15 rfl ?_
      refine own_pureS X0 hx hZ hown (own_w hw 1 rfl) (own_w hw 2 rfl) (own_w hw 3 rfl) (own_w hw 4 rfl) (by decide) [(.int (2 : Int32))] [] 0 (rm_kind_5 l Z a0 hw []  h0 n0 H) (by decide) (by decide) rfl rfl e0 (by rw [hml]; rfl) (lenOf pd_0 rfl) (Nat.le_of_eq rfl) (hb hby at_15) 18 rfl rfl (by decide) (by decide) fun T72 X72 e72 => ?_
      refine own_astore X72 hx (hb hby at_18) #[.val (.int x0), .val (.int x1), .val (.int (2 : Int32)), .val (.int (1 : Int32)), .val (.ref w_CollectionKind_BAG), .unset, .unset] rfl rfl 20 rfl ?_
      refine own_iload_n X72 hx (hb hby at_20) rfl 21 rfl ?_
      refine own_pureS X72 hx hZ hown (own_w hw 1 rfl) (own_w hw 2 rfl) (own_w hw 3 rfl) (own_w hw 4 rfl) (by decide) [(.int (1 : Int32))] [] 0 (rm_kind_3 l Z a0 hw []  h0 n0 H) (by decide) (by decide) rfl rfl e72 (by rw [hml]; rfl) (lenOf pd_0 rfl) (Nat.le_of_eq rfl) (hb hby at_21) 24 rfl rfl (by decide) (by decide) fun T74 X74 e74 => ?_
      refine own_astore X74 hx (hb hby at_24) #[.val (.int x0), .val (.int x1), .val (.int (2 : Int32)), .val (.int (1 : Int32)), .val (.ref w_CollectionKind_BAG), .val (.ref w_CollectionKind_SET), .unset] rfl rfl 26 rfl ?_
      refine own_iload_n X74 hx (hb hby at_26) rfl 27 rfl ?_
      refine own_ifY X74 hx (hb hby at_27) ((if0 _ _).trans (feq (by decide : ¬ ((1 : Int32) = (0 : Int32)))).2) 36 (by decide) (by decide) ?_
      refine own_iload_n X74 hx (hb hby at_36) rfl 37 rfl ?_
      refine own_iload_n X74 hx (hb hby at_37) rfl 38 rfl ?_
      refine own_icmpY X74 hx (hb hby at_38) (feq (by decide : ¬ ((2 : Int32) = (1 : Int32)))).2 45 (by decide) (by decide) ?_
      refine own_iconst X74 hx (hb hby at_45) (0 : Int32) rfl 46 rfl ?_
      refine own_istore X74 hx (hb hby at_46) #[.val (.int x0), .val (.int x1), .val (.int (2 : Int32)), .val (.int (1 : Int32)), .val (.ref w_CollectionKind_BAG), .val (.ref w_CollectionKind_SET), .val (.int (0 : Int32))] rfl 48 rfl ?_
      refine own_aload X74 hx (hb hby at_48) rfl rfl 50 rfl ?_
      refine own_aload X74 hx (hb hby at_50) rfl rfl 52 rfl ?_
      refine own_pureV X74 hx hZ hown (own_w hw 10 rfl) (own_w hw 11 rfl) (notFace_of_selects (args := #[]) (mvT hZ (own_w hw 13 rfl))) (own_w hw 13 rfl) (own_w hw 12 rfl) (own_w hw 6 rfl) (own_w hw 14 rfl) (by decide) w_CollectionKind_BAG [(.ref w_CollectionKind_SET)] [] 0 (rm_conformsTo_17 l Z a0 hw []  h0 n0 H) (by decide) (by decide) rfl rfl e74 E_w_CollectionKind_BAG (by rw [hml]; rfl) (lenOf pd_1 rfl) (Nat.le_of_eq rfl) (hb hby at_52) 55 rfl rfl (by decide) (by decide) fun T76 X76 e76 => ?_
      refine own_iload X76 hx (hb hby at_55) rfl 57 rfl ?_
      refine own_icmpN X76 hx (hb hby at_57) (teq (by decide : (0 : Int32) = (0 : Int32))).2 60 rfl ?_
      refine own_iconst X76 hx (hb hby at_60) (1 : Int32) rfl 61 rfl ?_
      refine own_goto X76 hx (hb hby at_61) 65 (by decide) (by decide) ?_
      exact own_retZ X76 hx hk hret (hb hby at_65) rfl ⟨rfl, Fr.nil _⟩ (by decide) (by decide)
    · rw [q64]
      refine own_istore_n X0 hx (hb hby at_13) #[.val (.int x0), .val (.int x1), .val (.int (2 : Int32)), .val (.int (2 : Int32)), .unset, .unset, .unset] rfl 14 rfl ?_
      refine own_iload_n X0 hx (hb hby at_14) rfl 15 rfl ?_
      refine own_pureS X0 hx hZ hown (own_w hw 1 rfl) (own_w hw 2 rfl) (own_w hw 3 rfl) (own_w hw 4 rfl) (by decide) [(.int (2 : Int32))] [] 0 (rm_kind_5 l Z a0 hw []  h0 n0 H) (by decide) (by decide) rfl rfl e0 (by rw [hml]; rfl) (lenOf pd_0 rfl) (Nat.le_of_eq rfl) (hb hby at_15) 18 rfl rfl (by decide) (by decide) fun T78 X78 e78 => ?_
      refine own_astore X78 hx (hb hby at_18) #[.val (.int x0), .val (.int x1), .val (.int (2 : Int32)), .val (.int (2 : Int32)), .val (.ref w_CollectionKind_BAG), .unset, .unset] rfl rfl 20 rfl ?_
      refine own_iload_n X78 hx (hb hby at_20) rfl 21 rfl ?_
      refine own_pureS X78 hx hZ hown (own_w hw 1 rfl) (own_w hw 2 rfl) (own_w hw 3 rfl) (own_w hw 4 rfl) (by decide) [(.int (2 : Int32))] [] 0 (rm_kind_5 l Z a0 hw []  h0 n0 H) (by decide) (by decide) rfl rfl e78 (by rw [hml]; rfl) (lenOf pd_0 rfl) (Nat.le_of_eq rfl) (hb hby at_21) 24 rfl rfl (by decide) (by decide) fun T80 X80 e80 => ?_
      refine own_astore X80 hx (hb hby at_24) #[.val (.int x0), .val (.int x1), .val (.int (2 : Int32)), .val (.int (2 : Int32)), .val (.ref w_CollectionKind_BAG), .val (.ref w_CollectionKind_BAG), .unset] rfl rfl 26 rfl ?_
      refine own_iload_n X80 hx (hb hby at_26) rfl 27 rfl ?_
      refine own_ifY X80 hx (hb hby at_27) ((if0 _ _).trans (feq (by decide : ¬ ((2 : Int32) = (0 : Int32)))).2) 36 (by decide) (by decide) ?_
      refine own_iload_n X80 hx (hb hby at_36) rfl 37 rfl ?_
      refine own_iload_n X80 hx (hb hby at_37) rfl 38 rfl ?_
      refine own_icmpN X80 hx (hb hby at_38) (teq (by decide : (2 : Int32) = (2 : Int32))).2 41 rfl ?_
      refine own_iconst X80 hx (hb hby at_41) (1 : Int32) rfl 42 rfl ?_
      refine own_goto X80 hx (hb hby at_42) 46 (by decide) (by decide) ?_
      refine own_istore X80 hx (hb hby at_46) #[.val (.int x0), .val (.int x1), .val (.int (2 : Int32)), .val (.int (2 : Int32)), .val (.ref w_CollectionKind_BAG), .val (.ref w_CollectionKind_BAG), .val (.int (1 : Int32))] rfl 48 rfl ?_
      refine own_aload X80 hx (hb hby at_48) rfl rfl 50 rfl ?_
      refine own_aload X80 hx (hb hby at_50) rfl rfl 52 rfl ?_
      refine own_pureV X80 hx hZ hown (own_w hw 10 rfl) (own_w hw 11 rfl) (notFace_of_selects (args := #[]) (mvT hZ (own_w hw 13 rfl))) (own_w hw 13 rfl) (own_w hw 12 rfl) (own_w hw 6 rfl) (own_w hw 14 rfl) (by decide) w_CollectionKind_BAG [(.ref w_CollectionKind_BAG)] [] 0 (rm_conformsTo_18 l Z a0 hw []  h0 n0 H) (by decide) (by decide) rfl rfl e80 E_w_CollectionKind_BAG (by rw [hml]; rfl) (lenOf pd_1 rfl) (Nat.le_of_eq rfl) (hb hby at_52) 55 rfl rfl (by decide) (by decide) fun T82 X82 e82 => ?_
      refine own_iload X82 hx (hb hby at_55) rfl 57 rfl ?_
      refine own_icmpN X82 hx (hb hby at_57) (teq (by decide : (1 : Int32) = (1 : Int32))).2 60 rfl ?_
      refine own_iconst X82 hx (hb hby at_60) (1 : Int32) rfl 61 rfl ?_
      refine own_goto X82 hx (hb hby at_61) 65 (by decide) (by decide) ?_
      exact own_retZ X82 hx hk hret (hb hby at_65) rfl ⟨rfl, Fr.nil _⟩ (by decide) (by decide)
    · rw [q64]
      refine own_istore_n X0 hx (hb hby at_13) #[.val (.int x0), .val (.int x1), .val (.int (2 : Int32)), .val (.int (3 : Int32)), .unset, .unset, .unset] rfl 14 rfl ?_
      refine own_iload_n X0 hx (hb hby at_14) rfl 15 rfl ?_
      refine own_pureS X0 hx hZ hown (own_w hw 1 rfl) (own_w hw 2 rfl) (own_w hw 3 rfl) (own_w hw 4 rfl) (by decide) [(.int (2 : Int32))] [] 0 (rm_kind_5 l Z a0 hw []  h0 n0 H) (by decide) (by decide) rfl rfl e0 (by rw [hml]; rfl) (lenOf pd_0 rfl) (Nat.le_of_eq rfl) (hb hby at_15) 18 rfl rfl (by decide) (by decide) fun T84 X84 e84 => ?_
      refine own_astore X84 hx (hb hby at_18) #[.val (.int x0), .val (.int x1), .val (.int (2 : Int32)), .val (.int (3 : Int32)), .val (.ref w_CollectionKind_BAG), .unset, .unset] rfl rfl 20 rfl ?_
      refine own_iload_n X84 hx (hb hby at_20) rfl 21 rfl ?_
      refine own_pureS X84 hx hZ hown (own_w hw 1 rfl) (own_w hw 2 rfl) (own_w hw 3 rfl) (own_w hw 4 rfl) (by decide) [(.int (3 : Int32))] [] 0 (rm_kind_7 l Z a0 hw []  h0 n0 H) (by decide) (by decide) rfl rfl e84 (by rw [hml]; rfl) (lenOf pd_0 rfl) (Nat.le_of_eq rfl) (hb hby at_21) 24 rfl rfl (by decide) (by decide) fun T86 X86 e86 => ?_
      refine own_astore X86 hx (hb hby at_24) #[.val (.int x0), .val (.int x1), .val (.int (2 : Int32)), .val (.int (3 : Int32)), .val (.ref w_CollectionKind_BAG), .val (.ref w_CollectionKind_SEQUENCE), .unset] rfl rfl 26 rfl ?_
      refine own_iload_n X86 hx (hb hby at_26) rfl 27 rfl ?_
      refine own_ifY X86 hx (hb hby at_27) ((if0 _ _).trans (feq (by decide : ¬ ((3 : Int32) = (0 : Int32)))).2) 36 (by decide) (by decide) ?_
      refine own_iload_n X86 hx (hb hby at_36) rfl 37 rfl ?_
      refine own_iload_n X86 hx (hb hby at_37) rfl 38 rfl ?_
      refine own_icmpY X86 hx (hb hby at_38) (feq (by decide : ¬ ((2 : Int32) = (3 : Int32)))).2 45 (by decide) (by decide) ?_
      refine own_iconst X86 hx (hb hby at_45) (0 : Int32) rfl 46 rfl ?_
      refine own_istore X86 hx (hb hby at_46) #[.val (.int x0), .val (.int x1), .val (.int (2 : Int32)), .val (.int (3 : Int32)), .val (.ref w_CollectionKind_BAG), .val (.ref w_CollectionKind_SEQUENCE), .val (.int (0 : Int32))] rfl 48 rfl ?_
      refine own_aload X86 hx (hb hby at_48) rfl rfl 50 rfl ?_
      refine own_aload X86 hx (hb hby at_50) rfl rfl 52 rfl ?_
      refine own_pureV X86 hx hZ hown (own_w hw 10 rfl) (own_w hw 11 rfl) (notFace_of_selects (args := #[]) (mvT hZ (own_w hw 13 rfl))) (own_w hw 13 rfl) (own_w hw 12 rfl) (own_w hw 6 rfl) (own_w hw 14 rfl) (by decide) w_CollectionKind_BAG [(.ref w_CollectionKind_SEQUENCE)] [] 0 (rm_conformsTo_19 l Z a0 hw []  h0 n0 H) (by decide) (by decide) rfl rfl e86 E_w_CollectionKind_BAG (by rw [hml]; rfl) (lenOf pd_1 rfl) (Nat.le_of_eq rfl) (hb hby at_52) 55 rfl rfl (by decide) (by decide) fun T88 X88 e88 => ?_
      refine own_iload X88 hx (hb hby at_55) rfl 57 rfl ?_
      refine own_icmpN X88 hx (hb hby at_57) (teq (by decide : (0 : Int32) = (0 : Int32))).2 60 rfl ?_
      refine own_iconst X88 hx (hb hby at_60) (1 : Int32) rfl 61 rfl ?_
      refine own_goto X88 hx (hb hby at_61) 65 (by decide) (by decide) ?_
      exact own_retZ X88 hx hk hret (hb hby at_65) rfl ⟨rfl, Fr.nil _⟩ (by decide) (by decide)
    · rw [q64]
      refine own_istore_n X0 hx (hb hby at_13) #[.val (.int x0), .val (.int x1), .val (.int (2 : Int32)), .val (.int (4 : Int32)), .unset, .unset, .unset] rfl 14 rfl ?_
      refine own_iload_n X0 hx (hb hby at_14) rfl 15 rfl ?_
      refine own_pureS X0 hx hZ hown (own_w hw 1 rfl) (own_w hw 2 rfl) (own_w hw 3 rfl) (own_w hw 4 rfl) (by decide) [(.int (2 : Int32))] [] 0 (rm_kind_5 l Z a0 hw []  h0 n0 H) (by decide) (by decide) rfl rfl e0 (by rw [hml]; rfl) (lenOf pd_0 rfl) (Nat.le_of_eq rfl) (hb hby at_15) 18 rfl rfl (by decide) (by decide) fun T90 X90 e90 => ?_
      refine own_astore X90 hx (hb hby at_18) #[.val (.int x0), .val (.int x1), .val (.int (2 : Int32)), .val (.int (4 : Int32)), .val (.ref w_CollectionKind_BAG), .unset, .unset] rfl rfl 20 rfl ?_
      refine own_iload_n X90 hx (hb hby at_20) rfl 21 rfl ?_
      refine own_pureS X90 hx hZ hown (own_w hw 1 rfl) (own_w hw 2 rfl) (own_w hw 3 rfl) (own_w hw 4 rfl) (by decide) [(.int (4 : Int32))] [] 0 (rm_kind_9 l Z a0 hw []  h0 n0 H) (by decide) (by decide) rfl rfl e90 (by rw [hml]; rfl) (lenOf pd_0 rfl) (Nat.le_of_eq rfl) (hb hby at_21) 24 rfl rfl (by decide) (by decide) fun T92 X92 e92 => ?_
      refine own_astore X92 hx (hb hby at_24) #[.val (.int x0), .val (.int x1), .val (.int (2 : Int32)), .val (.int (4 : Int32)), .val (.ref w_CollectionKind_BAG), .val (.ref w_CollectionKind_ORDERED_SET), .unset] rfl rfl 26 rfl ?_
      refine own_iload_n X92 hx (hb hby at_26) rfl 27 rfl ?_
      refine own_ifY X92 hx (hb hby at_27) ((if0 _ _).trans (feq (by decide : ¬ ((4 : Int32) = (0 : Int32)))).2) 36 (by decide) (by decide) ?_
      refine own_iload_n X92 hx (hb hby at_36) rfl 37 rfl ?_
      refine own_iload_n X92 hx (hb hby at_37) rfl 38 rfl ?_
      refine own_icmpY X92 hx (hb hby at_38) (feq (by decide : ¬ ((2 : Int32) = (4 : Int32)))).2 45 (by decide) (by decide) ?_
      refine own_iconst X92 hx (hb hby at_45) (0 : Int32) rfl 46 rfl ?_
      refine own_istore X92 hx (hb hby at_46) #[.val (.int x0), .val (.int x1), .val (.int (2 : Int32)), .val (.int (4 : Int32)), .val (.ref w_CollectionKind_BAG), .val (.ref w_CollectionKind_ORDERED_SET), .val (.int (0 : Int32))] rfl 48 rfl ?_
      refine own_aload X92 hx (hb hby at_48) rfl rfl 50 rfl ?_
      refine own_aload X92 hx (hb hby at_50) rfl rfl 52 rfl ?_
      refine own_pureV X92 hx hZ hown (own_w hw 10 rfl) (own_w hw 11 rfl) (notFace_of_selects (args := #[]) (mvT hZ (own_w hw 13 rfl))) (own_w hw 13 rfl) (own_w hw 12 rfl) (own_w hw 6 rfl) (own_w hw 14 rfl) (by decide) w_CollectionKind_BAG [(.ref w_CollectionKind_ORDERED_SET)] [] 0 (rm_conformsTo_20 l Z a0 hw []  h0 n0 H) (by decide) (by decide) rfl rfl e92 E_w_CollectionKind_BAG (by rw [hml]; rfl) (lenOf pd_1 rfl) (Nat.le_of_eq rfl) (hb hby at_52) 55 rfl rfl (by decide) (by decide) fun T94 X94 e94 => ?_
      refine own_iload X94 hx (hb hby at_55) rfl 57 rfl ?_
      refine own_icmpN X94 hx (hb hby at_57) (teq (by decide : (0 : Int32) = (0 : Int32))).2 60 rfl ?_
      refine own_iconst X94 hx (hb hby at_60) (1 : Int32) rfl 61 rfl ?_
      refine own_goto X94 hx (hb hby at_61) 65 (by decide) (by decide) ?_
      exact own_retZ X94 hx hk hret (hb hby at_65) rfl ⟨rfl, Fr.nil _⟩ (by decide) (by decide)
  · rw [q1]
    refine own_istore_n X0 hx (hb hby at_6) #[.val (.int x0), .val (.int x1), .val (.int (3 : Int32)), .unset, .unset, .unset, .unset] rfl 7 rfl ?_
    refine own_iload_n X0 hx (hb hby at_7) rfl 8 rfl ?_
    refine own_ldc X0 hx hZ hown (own_w hw 0 rfl) (hb hby at_8) 10 rfl ?_
    refine own_iand X0 hx (hb hby at_10) 11 rfl ?_
    refine own_iconst X0 hx (hb hby at_11) (5 : Int32) rfl 12 rfl ?_
    refine own_irem X0 hx (hb hby at_12) (by decide) 13 rfl ?_
    rcases own_mod5 x1 with q95 | q95 | q95 | q95 | q95
    · rw [q95]
      refine own_istore_n X0 hx (hb hby at_13) #[.val (.int x0), .val (.int x1), .val (.int (3 : Int32)), .val (.int (0 : Int32)), .unset, .unset, .unset] rfl 14 rfl ?_
      refine own_iload_n X0 hx (hb hby at_14) rfl 15 rfl ?_
      refine own_pureS X0 hx hZ hown (own_w hw 1 rfl) (own_w hw 2 rfl) (own_w hw 3 rfl) (own_w hw 4 rfl) (by decide) [(.int (3 : Int32))] [] 0 (rm_kind_7 l Z a0 hw []  h0 n0 H) (by decide) (by decide) rfl rfl e0 (by rw [hml]; rfl) (lenOf pd_0 rfl) (Nat.le_of_eq rfl) (hb hby at_15) 18 rfl rfl (by decide) (by decide) fun T97 X97 e97 => ?_
      refine own_astore X97 hx (hb hby at_18) #[.val (.int x0), .val (.int x1), .val (.int (3 : Int32)), .val (.int (0 : Int32)), .val (.ref w_CollectionKind_SEQUENCE), .unset, .unset] rfl rfl 20 rfl ?_
      refine own_iload_n X97 hx (hb hby at_20) rfl 21 rfl ?_
      refine own_pureS X97 hx hZ hown (own_w hw 1 rfl) (own_w hw 2 rfl) (own_w hw 3 rfl) (own_w hw 4 rfl) (by decide) [(.int (0 : Int32))] [] 0 (rm_kind_1 l Z a0 hw []  h0 n0 H) (by decide) (by decide) rfl rfl e97 (by rw [hml]; rfl) (lenOf pd_0 rfl) (Nat.le_of_eq rfl) (hb hby at_21) 24 rfl rfl (by decide) (by decide) fun T99 X99 e99 => ?_
      refine own_astore X99 hx (hb hby at_24) #[.val (.int x0), .val (.int x1), .val (.int (3 : Int32)), .val (.int (0 : Int32)), .val (.ref w_CollectionKind_SEQUENCE), .val (.ref w_CollectionKind_COLLECTION), .unset] rfl rfl 26 rfl ?_
      refine own_iload_n X99 hx (hb hby at_26) rfl 27 rfl ?_
      refine own_ifN X99 hx (hb hby at_27) ((if0 _ _).trans (teq (by decide : (0 : Int32) = (0 : Int32))).2) 30 rfl ?_
      refine own_iconst X99 hx (hb hby at_30) (1 : Int32) rfl 31 rfl ?_
      refine own_istore X99 hx (hb hby at_31) #[.val (.int x0), .val (.int x1), .val (.int (3 : Int32)), .val (.int (0 : Int32)), .val (.ref w_CollectionKind_SEQUENCE), .val (.ref w_CollectionKind_COLLECTION), .val (.int (1 : Int32))] rfl 33 rfl ?_
      refine own_goto X99 hx (hb hby at_33) 48 (by decide) (by decide) ?_
      refine own_aload X99 hx (hb hby at_48) rfl rfl 50 rfl ?_
      refine own_aload X99 hx (hb hby at_50) rfl rfl 52 rfl ?_
      refine own_pureV X99 hx hZ hown (own_w hw 10 rfl) (own_w hw 11 rfl) (notFace_of_selects (args := #[]) (mvT hZ (own_w hw 13 rfl))) (own_w hw 13 rfl) (own_w hw 12 rfl) (own_w hw 6 rfl) (own_w hw 14 rfl) (by decide) w_CollectionKind_SEQUENCE [(.ref w_CollectionKind_COLLECTION)] [] 0 (rm_conformsTo_21 l Z a0 hw []  h0 n0 H) (by decide) (by decide) rfl rfl e99 E_w_CollectionKind_SEQUENCE (by rw [hml]; rfl) (lenOf pd_1 rfl) (Nat.le_of_eq rfl) (hb hby at_52) 55 rfl rfl (by decide) (by decide) fun T101 X101 e101 => ?_
      refine own_iload X101 hx (hb hby at_55) rfl 57 rfl ?_
      refine own_icmpN X101 hx (hb hby at_57) (teq (by decide : (1 : Int32) = (1 : Int32))).2 60 rfl ?_
      refine own_iconst X101 hx (hb hby at_60) (1 : Int32) rfl 61 rfl ?_
      refine own_goto X101 hx (hb hby at_61) 65 (by decide) (by decide) ?_
      exact own_retZ X101 hx hk hret (hb hby at_65) rfl ⟨rfl, Fr.nil _⟩ (by decide) (by decide)
    · rw [q95]
      refine own_istore_n X0 hx (hb hby at_13) #[.val (.int x0), .val (.int x1), .val (.int (3 : Int32)), .val (.int (1 : Int32)), .unset, .unset, .unset] rfl 14 rfl ?_
      refine own_iload_n X0 hx (hb hby at_14) rfl 15 rfl ?_
      refine own_pureS X0 hx hZ hown (own_w hw 1 rfl) (own_w hw 2 rfl) (own_w hw 3 rfl) (own_w hw 4 rfl) (by decide) [(.int (3 : Int32))] [] 0 (rm_kind_7 l Z a0 hw []  h0 n0 H) (by decide) (by decide) rfl rfl e0 (by rw [hml]; rfl) (lenOf pd_0 rfl) (Nat.le_of_eq rfl) (hb hby at_15) 18 rfl rfl (by decide) (by decide) fun T103 X103 e103 => ?_
      refine own_astore X103 hx (hb hby at_18) #[.val (.int x0), .val (.int x1), .val (.int (3 : Int32)), .val (.int (1 : Int32)), .val (.ref w_CollectionKind_SEQUENCE), .unset, .unset] rfl rfl 20 rfl ?_
      refine own_iload_n X103 hx (hb hby at_20) rfl 21 rfl ?_
      refine own_pureS X103 hx hZ hown (own_w hw 1 rfl) (own_w hw 2 rfl) (own_w hw 3 rfl) (own_w hw 4 rfl) (by decide) [(.int (1 : Int32))] [] 0 (rm_kind_3 l Z a0 hw []  h0 n0 H) (by decide) (by decide) rfl rfl e103 (by rw [hml]; rfl) (lenOf pd_0 rfl) (Nat.le_of_eq rfl) (hb hby at_21) 24 rfl rfl (by decide) (by decide) fun T105 X105 e105 => ?_
      refine own_astore X105 hx (hb hby at_24) #[.val (.int x0), .val (.int x1), .val (.int (3 : Int32)), .val (.int (1 : Int32)), .val (.ref w_CollectionKind_SEQUENCE), .val (.ref w_CollectionKind_SET), .unset] rfl rfl 26 rfl ?_
      refine own_iload_n X105 hx (hb hby at_26) rfl 27 rfl ?_
      refine own_ifY X105 hx (hb hby at_27) ((if0 _ _).trans (feq (by decide : ¬ ((1 : Int32) = (0 : Int32)))).2) 36 (by decide) (by decide) ?_
      refine own_iload_n X105 hx (hb hby at_36) rfl 37 rfl ?_
      refine own_iload_n X105 hx (hb hby at_37) rfl 38 rfl ?_
      refine own_icmpY X105 hx (hb hby at_38) (feq (by decide : ¬ ((3 : Int32) = (1 : Int32)))).2 45 (by decide) (by decide) ?_
      refine own_iconst X105 hx (hb hby at_45) (0 : Int32) rfl 46 rfl ?_
      refine own_istore X105 hx (hb hby at_46) #[.val (.int x0), .val (.int x1), .val (.int (3 : Int32)), .val (.int (1 : Int32)), .val (.ref w_CollectionKind_SEQUENCE), .val (.ref w_CollectionKind_SET), .val (.int (0 : Int32))] rfl 48 rfl ?_
      refine own_aload X105 hx (hb hby at_48) rfl rfl 50 rfl ?_
      refine own_aload X105 hx (hb hby at_50) rfl rfl 52 rfl ?_
      refine own_pureV X105 hx hZ hown (own_w hw 10 rfl) (own_w hw 11 rfl) (notFace_of_selects (args := #[]) (mvT hZ (own_w hw 13 rfl))) (own_w hw 13 rfl) (own_w hw 12 rfl) (own_w hw 6 rfl) (own_w hw 14 rfl) (by decide) w_CollectionKind_SEQUENCE [(.ref w_CollectionKind_SET)] [] 0 (rm_conformsTo_22 l Z a0 hw []  h0 n0 H) (by decide) (by decide) rfl rfl e105 E_w_CollectionKind_SEQUENCE (by rw [hml]; rfl) (lenOf pd_1 rfl) (Nat.le_of_eq rfl) (hb hby at_52) 55 rfl rfl (by decide) (by decide) fun T107 X107 e107 => ?_
      refine own_iload X107 hx (hb hby at_55) rfl 57 rfl ?_
      refine own_icmpN X107 hx (hb hby at_57) (teq (by decide : (0 : Int32) = (0 : Int32))).2 60 rfl ?_
      refine own_iconst X107 hx (hb hby at_60) (1 : Int32) rfl 61 rfl ?_
      refine own_goto X107 hx (hb hby at_61) 65 (by decide) (by decide) ?_
      exact own_retZ X107 hx hk hret (hb hby at_65) rfl ⟨rfl, Fr.nil _⟩ (by decide) (by decide)
    · rw [q95]
      refine own_istore_n X0 hx (hb hby at_13) #[.val (.int x0), .val (.int x1), .val (.int (3 : Int32)), .val (.int (2 : Int32)), .unset, .unset, .unset] rfl 14 rfl ?_
      refine own_iload_n X0 hx (hb hby at_14) rfl 15 rfl ?_
      refine own_pureS X0 hx hZ hown (own_w hw 1 rfl) (own_w hw 2 rfl) (own_w hw 3 rfl) (own_w hw 4 rfl) (by decide) [(.int (3 : Int32))] [] 0 (rm_kind_7 l Z a0 hw []  h0 n0 H) (by decide) (by decide) rfl rfl e0 (by rw [hml]; rfl) (lenOf pd_0 rfl) (Nat.le_of_eq rfl) (hb hby at_15) 18 rfl rfl (by decide) (by decide) fun T109 X109 e109 => ?_
      refine own_astore X109 hx (hb hby at_18) #[.val (.int x0), .val (.int x1), .val (.int (3 : Int32)), .val (.int (2 : Int32)), .val (.ref w_CollectionKind_SEQUENCE), .unset, .unset] rfl rfl 20 rfl ?_
      refine own_iload_n X109 hx (hb hby at_20) rfl 21 rfl ?_
      refine own_pureS X109 hx hZ hown (own_w hw 1 rfl) (own_w hw 2 rfl) (own_w hw 3 rfl) (own_w hw 4 rfl) (by decide) [(.int (2 : Int32))] [] 0 (rm_kind_5 l Z a0 hw []  h0 n0 H) (by decide) (by decide) rfl rfl e109 (by rw [hml]; rfl) (lenOf pd_0 rfl) (Nat.le_of_eq rfl) (hb hby at_21) 24 rfl rfl (by decide) (by decide) fun T111 X111 e111 => ?_
      refine own_astore X111 hx (hb hby at_24) #[.val (.int x0), .val (.int x1), .val (.int (3 : Int32)), .val (.int (2 : Int32)), .val (.ref w_CollectionKind_SEQUENCE), .val (.ref w_CollectionKind_BAG), .unset] rfl rfl 26 rfl ?_
      refine own_iload_n X111 hx (hb hby at_26) rfl 27 rfl ?_
      refine own_ifY X111 hx (hb hby at_27) ((if0 _ _).trans (feq (by decide : ¬ ((2 : Int32) = (0 : Int32)))).2) 36 (by decide) (by decide) ?_
      refine own_iload_n X111 hx (hb hby at_36) rfl 37 rfl ?_
      refine own_iload_n X111 hx (hb hby at_37) rfl 38 rfl ?_
      refine own_icmpY X111 hx (hb hby at_38) (feq (by decide : ¬ ((3 : Int32) = (2 : Int32)))).2 45 (by decide) (by decide) ?_
      refine own_iconst X111 hx (hb hby at_45) (0 : Int32) rfl 46 rfl ?_
      refine own_istore X111 hx (hb hby at_46) #[.val (.int x0), .val (.int x1), .val (.int (3 : Int32)), .val (.int (2 : Int32)), .val (.ref w_CollectionKind_SEQUENCE), .val (.ref w_CollectionKind_BAG), .val (.int (0 : Int32))] rfl 48 rfl ?_
      refine own_aload X111 hx (hb hby at_48) rfl rfl 50 rfl ?_
      refine own_aload X111 hx (hb hby at_50) rfl rfl 52 rfl ?_
      refine own_pureV X111 hx hZ hown (own_w hw 10 rfl) (own_w hw 11 rfl) (notFace_of_selects (args := #[]) (mvT hZ (own_w hw 13 rfl))) (own_w hw 13 rfl) (own_w hw 12 rfl) (own_w hw 6 rfl) (own_w hw 14 rfl) (by decide) w_CollectionKind_SEQUENCE [(.ref w_CollectionKind_BAG)] [] 0 (rm_conformsTo_23 l Z a0 hw []  h0 n0 H) (by decide) (by decide) rfl rfl e111 E_w_CollectionKind_SEQUENCE (by rw [hml]; rfl) (lenOf pd_1 rfl) (Nat.le_of_eq rfl) (hb hby at_52) 55 rfl rfl (by decide) (by decide) fun T113 X113 e113 => ?_
      refine own_iload X113 hx (hb hby at_55) rfl 57 rfl ?_
      refine own_icmpN X113 hx (hb hby at_57) (teq (by decide : (0 : Int32) = (0 : Int32))).2 60 rfl ?_
      refine own_iconst X113 hx (hb hby at_60) (1 : Int32) rfl 61 rfl ?_
      refine own_goto X113 hx (hb hby at_61) 65 (by decide) (by decide) ?_
      exact own_retZ X113 hx hk hret (hb hby at_65) rfl ⟨rfl, Fr.nil _⟩ (by decide) (by decide)
    · rw [q95]
      refine own_istore_n X0 hx (hb hby at_13) #[.val (.int x0), .val (.int x1), .val (.int (3 : Int32)), .val (.int (3 : Int32)), .unset, .unset, .unset] rfl 14 rfl ?_
      refine own_iload_n X0 hx (hb hby at_14) rfl 15 rfl ?_
      refine own_pureS X0 hx hZ hown (own_w hw 1 rfl) (own_w hw 2 rfl) (own_w hw 3 rfl) (own_w hw 4 rfl) (by decide) [(.int (3 : Int32))] [] 0 (rm_kind_7 l Z a0 hw []  h0 n0 H) (by decide) (by decide) rfl rfl e0 (by rw [hml]; rfl) (lenOf pd_0 rfl) (Nat.le_of_eq rfl) (hb hby at_15) 18 rfl rfl (by decide) (by decide) fun T115 X115 e115 => ?_
      refine own_astore X115 hx (hb hby at_18) #[.val (.int x0), .val (.int x1), .val (.int (3 : Int32)), .val (.int (3 : Int32)), .val (.ref w_CollectionKind_SEQUENCE), .unset, .unset] rfl rfl 20 rfl ?_
      refine own_iload_n X115 hx (hb hby at_20) rfl 21 rfl ?_
      refine own_pureS X115 hx hZ hown (own_w hw 1 rfl) (own_w hw 2 rfl) (own_w hw 3 rfl) (own_w hw 4 rfl) (by decide) [(.int (3 : Int32))] [] 0 (rm_kind_7 l Z a0 hw []  h0 n0 H) (by decide) (by decide) rfl rfl e115 (by rw [hml]; rfl) (lenOf pd_0 rfl) (Nat.le_of_eq rfl) (hb hby at_21) 24 rfl rfl (by decide) (by decide) fun T117 X117 e117 => ?_
      refine own_astore X117 hx (hb hby at_24) #[.val (.int x0), .val (.int x1), .val (.int (3 : Int32)), .val (.int (3 : Int32)), .val (.ref w_CollectionKind_SEQUENCE), .val (.ref w_CollectionKind_SEQUENCE), .unset] rfl rfl 26 rfl ?_
      refine own_iload_n X117 hx (hb hby at_26) rfl 27 rfl ?_
      refine own_ifY X117 hx (hb hby at_27) ((if0 _ _).trans (feq (by decide : ¬ ((3 : Int32) = (0 : Int32)))).2) 36 (by decide) (by decide) ?_
      refine own_iload_n X117 hx (hb hby at_36) rfl 37 rfl ?_
      refine own_iload_n X117 hx (hb hby at_37) rfl 38 rfl ?_
      refine own_icmpN X117 hx (hb hby at_38) (teq (by decide : (3 : Int32) = (3 : Int32))).2 41 rfl ?_
      refine own_iconst X117 hx (hb hby at_41) (1 : Int32) rfl 42 rfl ?_
      refine own_goto X117 hx (hb hby at_42) 46 (by decide) (by decide) ?_
      refine own_istore X117 hx (hb hby at_46) #[.val (.int x0), .val (.int x1), .val (.int (3 : Int32)), .val (.int (3 : Int32)), .val (.ref w_CollectionKind_SEQUENCE), .val (.ref w_CollectionKind_SEQUENCE), .val (.int (1 : Int32))] rfl 48 rfl ?_
      refine own_aload X117 hx (hb hby at_48) rfl rfl 50 rfl ?_
      refine own_aload X117 hx (hb hby at_50) rfl rfl 52 rfl ?_
      refine own_pureV X117 hx hZ hown (own_w hw 10 rfl) (own_w hw 11 rfl) (notFace_of_selects (args := #[]) (mvT hZ (own_w hw 13 rfl))) (own_w hw 13 rfl) (own_w hw 12 rfl) (own_w hw 6 rfl) (own_w hw 14 rfl) (by decide) w_CollectionKind_SEQUENCE [(.ref w_CollectionKind_SEQUENCE)] [] 0 (rm_conformsTo_24 l Z a0 hw []  h0 n0 H) (by decide) (by decide) rfl rfl e117 E_w_CollectionKind_SEQUENCE (by rw [hml]; rfl) (lenOf pd_1 rfl) (Nat.le_of_eq rfl) (hb hby at_52) 55 rfl rfl (by decide) (by decide) fun T119 X119 e119 => ?_
      refine own_iload X119 hx (hb hby at_55) rfl 57 rfl ?_
      refine own_icmpN X119 hx (hb hby at_57) (teq (by decide : (1 : Int32) = (1 : Int32))).2 60 rfl ?_
      refine own_iconst X119 hx (hb hby at_60) (1 : Int32) rfl 61 rfl ?_
      refine own_goto X119 hx (hb hby at_61) 65 (by decide) (by decide) ?_
      exact own_retZ X119 hx hk hret (hb hby at_65) rfl ⟨rfl, Fr.nil _⟩ (by decide) (by decide)
    · rw [q95]
      refine own_istore_n X0 hx (hb hby at_13) #[.val (.int x0), .val (.int x1), .val (.int (3 : Int32)), .val (.int (4 : Int32)), .unset, .unset, .unset] rfl 14 rfl ?_
      refine own_iload_n X0 hx (hb hby at_14) rfl 15 rfl ?_
      refine own_pureS X0 hx hZ hown (own_w hw 1 rfl) (own_w hw 2 rfl) (own_w hw 3 rfl) (own_w hw 4 rfl) (by decide) [(.int (3 : Int32))] [] 0 (rm_kind_7 l Z a0 hw []  h0 n0 H) (by decide) (by decide) rfl rfl e0 (by rw [hml]; rfl) (lenOf pd_0 rfl) (Nat.le_of_eq rfl) (hb hby at_15) 18 rfl rfl (by decide) (by decide) fun T121 X121 e121 => ?_
      refine own_astore X121 hx (hb hby at_18) #[.val (.int x0), .val (.int x1), .val (.int (3 : Int32)), .val (.int (4 : Int32)), .val (.ref w_CollectionKind_SEQUENCE), .unset, .unset] rfl rfl 20 rfl ?_
      refine own_iload_n X121 hx (hb hby at_20) rfl 21 rfl ?_
      refine own_pureS X121 hx hZ hown (own_w hw 1 rfl) (own_w hw 2 rfl) (own_w hw 3 rfl) (own_w hw 4 rfl) (by decide) [(.int (4 : Int32))] [] 0 (rm_kind_9 l Z a0 hw []  h0 n0 H) (by decide) (by decide) rfl rfl e121 (by rw [hml]; rfl) (lenOf pd_0 rfl) (Nat.le_of_eq rfl) (hb hby at_21) 24 rfl rfl (by decide) (by decide) fun T123 X123 e123 => ?_
      refine own_astore X123 hx (hb hby at_24) #[.val (.int x0), .val (.int x1), .val (.int (3 : Int32)), .val (.int (4 : Int32)), .val (.ref w_CollectionKind_SEQUENCE), .val (.ref w_CollectionKind_ORDERED_SET), .unset] rfl rfl 26 rfl ?_
      refine own_iload_n X123 hx (hb hby at_26) rfl 27 rfl ?_
      refine own_ifY X123 hx (hb hby at_27) ((if0 _ _).trans (feq (by decide : ¬ ((4 : Int32) = (0 : Int32)))).2) 36 (by decide) (by decide) ?_
      refine own_iload_n X123 hx (hb hby at_36) rfl 37 rfl ?_
      refine own_iload_n X123 hx (hb hby at_37) rfl 38 rfl ?_
      refine own_icmpY X123 hx (hb hby at_38) (feq (by decide : ¬ ((3 : Int32) = (4 : Int32)))).2 45 (by decide) (by decide) ?_
      refine own_iconst X123 hx (hb hby at_45) (0 : Int32) rfl 46 rfl ?_
      refine own_istore X123 hx (hb hby at_46) #[.val (.int x0), .val (.int x1), .val (.int (3 : Int32)), .val (.int (4 : Int32)), .val (.ref w_CollectionKind_SEQUENCE), .val (.ref w_CollectionKind_ORDERED_SET), .val (.int (0 : Int32))] rfl 48 rfl ?_
      refine own_aload X123 hx (hb hby at_48) rfl rfl 50 rfl ?_
      refine own_aload X123 hx (hb hby at_50) rfl rfl 52 rfl ?_
      refine own_pureV X123 hx hZ hown (own_w hw 10 rfl) (own_w hw 11 rfl) (notFace_of_selects (args := #[]) (mvT hZ (own_w hw 13 rfl))) (own_w hw 13 rfl) (own_w hw 12 rfl) (own_w hw 6 rfl) (own_w hw 14 rfl) (by decide) w_CollectionKind_SEQUENCE [(.ref w_CollectionKind_ORDERED_SET)] [] 0 (rm_conformsTo_25 l Z a0 hw []  h0 n0 H) (by decide) (by decide) rfl rfl e123 E_w_CollectionKind_SEQUENCE (by rw [hml]; rfl) (lenOf pd_1 rfl) (Nat.le_of_eq rfl) (hb hby at_52) 55 rfl rfl (by decide) (by decide) fun T125 X125 e125 => ?_
      refine own_iload X125 hx (hb hby at_55) rfl 57 rfl ?_
      refine own_icmpN X125 hx (hb hby at_57) (teq (by decide : (0 : Int32) = (0 : Int32))).2 60 rfl ?_
      refine own_iconst X125 hx (hb hby at_60) (1 : Int32) rfl 61 rfl ?_
      refine own_goto X125 hx (hb hby at_61) 65 (by decide) (by decide) ?_
      exact own_retZ X125 hx hk hret (hb hby at_65) rfl ⟨rfl, Fr.nil _⟩ (by decide) (by decide)
  · rw [q1]
    refine own_istore_n X0 hx (hb hby at_6) #[.val (.int x0), .val (.int x1), .val (.int (4 : Int32)), .unset, .unset, .unset, .unset] rfl 7 rfl ?_
    refine own_iload_n X0 hx (hb hby at_7) rfl 8 rfl ?_
    refine own_ldc X0 hx hZ hown (own_w hw 0 rfl) (hb hby at_8) 10 rfl ?_
    refine own_iand X0 hx (hb hby at_10) 11 rfl ?_
    refine own_iconst X0 hx (hb hby at_11) (5 : Int32) rfl 12 rfl ?_
    refine own_irem X0 hx (hb hby at_12) (by decide) 13 rfl ?_
    rcases own_mod5 x1 with q126 | q126 | q126 | q126 | q126
    · rw [q126]
      refine own_istore_n X0 hx (hb hby at_13) #[.val (.int x0), .val (.int x1), .val (.int (4 : Int32)), .val (.int (0 : Int32)), .unset, .unset, .unset] rfl 14 rfl ?_
      refine own_iload_n X0 hx (hb hby at_14) rfl 15 rfl ?_
      refine own_pureS X0 hx hZ hown (own_w hw 1 rfl) (own_w hw 2 rfl) (own_w hw 3 rfl) (own_w hw 4 rfl) (by decide) [(.int (4 : Int32))] [] 0 (rm_kind_9 l Z a0 hw []  h0 n0 H) (by decide) (by decide) rfl rfl e0 (by rw [hml]; rfl) (lenOf pd_0 rfl) (Nat.le_of_eq rfl) (hb hby at_15) 18 rfl rfl (by decide) (by decide) fun T128 X128 e128 => ?_
      refine own_astore X128 hx (hb hby at_18) #[.val (.int x0), .val (.int x1), .val (.int (4 : Int32)), .val (.int (0 : Int32)), .val (.ref w_CollectionKind_ORDERED_SET), .unset, .unset] rfl rfl 20 rfl ?_
      refine own_iload_n X128 hx (hb hby at_20) rfl 21 rfl ?_
      refine own_pureS X128 hx hZ hown (own_w hw 1 rfl) (own_w hw 2 rfl) (own_w hw 3 rfl) (own_w hw 4 rfl) (by decide) [(.int (0 : Int32))] [] 0 (rm_kind_1 l Z a0 hw []  h0 n0 H) (by decide) (by decide) rfl rfl e128 (by rw [hml]; rfl) (lenOf pd_0 rfl) (Nat.le_of_eq rfl) (hb hby at_21) 24 rfl rfl (by decide) (by decide) fun T130 X130 e130 => ?_
      refine own_astore X130 hx (hb hby at_24) #[.val (.int x0), .val (.int x1), .val (.int (4 : Int32)), .val (.int (0 : Int32)), .val (.ref w_CollectionKind_ORDERED_SET), .val (.ref w_CollectionKind_COLLECTION), .unset] rfl rfl 26 rfl ?_
      refine own_iload_n X130 hx (hb hby at_26) rfl 27 rfl ?_
      refine own_ifN X130 hx (hb hby at_27) ((if0 _ _).trans (teq (by decide : (0 : Int32) = (0 : Int32))).2) 30 rfl ?_
      refine own_iconst X130 hx (hb hby at_30) (1 : Int32) rfl 31 rfl ?_
      refine own_istore X130 hx (hb hby at_31) #[.val (.int x0), .val (.int x1), .val (.int (4 : Int32)), .val (.int (0 : Int32)), .val (.ref w_CollectionKind_ORDERED_SET), .val (.ref w_CollectionKind_COLLECTION), .val (.int (1 : Int32))] rfl 33 rfl ?_
      refine own_goto X130 hx (hb hby at_33) 48 (by decide) (by decide) ?_
      refine own_aload X130 hx (hb hby at_48) rfl rfl 50 rfl ?_
      refine own_aload X130 hx (hb hby at_50) rfl rfl 52 rfl ?_
      refine own_pureV X130 hx hZ hown (own_w hw 10 rfl) (own_w hw 11 rfl) (notFace_of_selects (args := #[]) (mvT hZ (own_w hw 13 rfl))) (own_w hw 13 rfl) (own_w hw 12 rfl) (own_w hw 6 rfl) (own_w hw 14 rfl) (by decide) w_CollectionKind_ORDERED_SET [(.ref w_CollectionKind_COLLECTION)] [] 0 (rm_conformsTo_26 l Z a0 hw []  h0 n0 H) (by decide) (by decide) rfl rfl e130 E_w_CollectionKind_ORDERED_SET (by rw [hml]; rfl) (lenOf pd_1 rfl) (Nat.le_of_eq rfl) (hb hby at_52) 55 rfl rfl (by decide) (by decide) fun T132 X132 e132 => ?_
      refine own_iload X132 hx (hb hby at_55) rfl 57 rfl ?_
      refine own_icmpN X132 hx (hb hby at_57) (teq (by decide : (1 : Int32) = (1 : Int32))).2 60 rfl ?_
      refine own_iconst X132 hx (hb hby at_60) (1 : Int32) rfl 61 rfl ?_
      refine own_goto X132 hx (hb hby at_61) 65 (by decide) (by decide) ?_
      exact own_retZ X132 hx hk hret (hb hby at_65) rfl ⟨rfl, Fr.nil _⟩ (by decide) (by decide)
    · rw [q126]
      refine own_istore_n X0 hx (hb hby at_13) #[.val (.int x0), .val (.int x1), .val (.int (4 : Int32)), .val (.int (1 : Int32)), .unset, .unset, .unset] rfl 14 rfl ?_
      refine own_iload_n X0 hx (hb hby at_14) rfl 15 rfl ?_
      refine own_pureS X0 hx hZ hown (own_w hw 1 rfl) (own_w hw 2 rfl) (own_w hw 3 rfl) (own_w hw 4 rfl) (by decide) [(.int (4 : Int32))] [] 0 (rm_kind_9 l Z a0 hw []  h0 n0 H) (by decide) (by decide) rfl rfl e0 (by rw [hml]; rfl) (lenOf pd_0 rfl) (Nat.le_of_eq rfl) (hb hby at_15) 18 rfl rfl (by decide) (by decide) fun T134 X134 e134 => ?_
      refine own_astore X134 hx (hb hby at_18) #[.val (.int x0), .val (.int x1), .val (.int (4 : Int32)), .val (.int (1 : Int32)), .val (.ref w_CollectionKind_ORDERED_SET), .unset, .unset] rfl rfl 20 rfl ?_
      refine own_iload_n X134 hx (hb hby at_20) rfl 21 rfl ?_
      refine own_pureS X134 hx hZ hown (own_w hw 1 rfl) (own_w hw 2 rfl) (own_w hw 3 rfl) (own_w hw 4 rfl) (by decide) [(.int (1 : Int32))] [] 0 (rm_kind_3 l Z a0 hw []  h0 n0 H) (by decide) (by decide) rfl rfl e134 (by rw [hml]; rfl) (lenOf pd_0 rfl) (Nat.le_of_eq rfl) (hb hby at_21) 24 rfl rfl (by decide) (by decide) fun T136 X136 e136 => ?_
      refine own_astore X136 hx (hb hby at_24) #[.val (.int x0), .val (.int x1), .val (.int (4 : Int32)), .val (.int (1 : Int32)), .val (.ref w_CollectionKind_ORDERED_SET), .val (.ref w_CollectionKind_SET), .unset] rfl rfl 26 rfl ?_
      refine own_iload_n X136 hx (hb hby at_26) rfl 27 rfl ?_
      refine own_ifY X136 hx (hb hby at_27) ((if0 _ _).trans (feq (by decide : ¬ ((1 : Int32) = (0 : Int32)))).2) 36 (by decide) (by decide) ?_
      refine own_iload_n X136 hx (hb hby at_36) rfl 37 rfl ?_
      refine own_iload_n X136 hx (hb hby at_37) rfl 38 rfl ?_
      refine own_icmpY X136 hx (hb hby at_38) (feq (by decide : ¬ ((4 : Int32) = (1 : Int32)))).2 45 (by decide) (by decide) ?_
      refine own_iconst X136 hx (hb hby at_45) (0 : Int32) rfl 46 rfl ?_
      refine own_istore X136 hx (hb hby at_46) #[.val (.int x0), .val (.int x1), .val (.int (4 : Int32)), .val (.int (1 : Int32)), .val (.ref w_CollectionKind_ORDERED_SET), .val (.ref w_CollectionKind_SET), .val (.int (0 : Int32))] rfl 48 rfl ?_
      refine own_aload X136 hx (hb hby at_48) rfl rfl 50 rfl ?_
      refine own_aload X136 hx (hb hby at_50) rfl rfl 52 rfl ?_
      refine own_pureV X136 hx hZ hown (own_w hw 10 rfl) (own_w hw 11 rfl) (notFace_of_selects (args := #[]) (mvT hZ (own_w hw 13 rfl))) (own_w hw 13 rfl) (own_w hw 12 rfl) (own_w hw 6 rfl) (own_w hw 14 rfl) (by decide) w_CollectionKind_ORDERED_SET [(.ref w_CollectionKind_SET)] [] 0 (rm_conformsTo_27 l Z a0 hw []  h0 n0 H) (by decide) (by decide) rfl rfl e136 E_w_CollectionKind_ORDERED_SET (by rw [hml]; rfl) (lenOf pd_1 rfl) (Nat.le_of_eq rfl) (hb hby at_52) 55 rfl rfl (by decide) (by decide) fun T138 X138 e138 => ?_
      refine own_iload X138 hx (hb hby at_55) rfl 57 rfl ?_
      refine own_icmpN X138 hx (hb hby at_57) (teq (by decide : (0 : Int32) = (0 : Int32))).2 60 rfl ?_
      refine own_iconst X138 hx (hb hby at_60) (1 : Int32) rfl 61 rfl ?_
      refine own_goto X138 hx (hb hby at_61) 65 (by decide) (by decide) ?_
      exact own_retZ X138 hx hk hret (hb hby at_65) rfl ⟨rfl, Fr.nil _⟩ (by decide) (by decide)
    · rw [q126]
      refine own_istore_n X0 hx (hb hby at_13) #[.val (.int x0), .val (.int x1), .val (.int (4 : Int32)), .val (.int (2 : Int32)), .unset, .unset, .unset] rfl 14 rfl ?_
      refine own_iload_n X0 hx (hb hby at_14) rfl 15 rfl ?_
      refine own_pureS X0 hx hZ hown (own_w hw 1 rfl) (own_w hw 2 rfl) (own_w hw 3 rfl) (own_w hw 4 rfl) (by decide) [(.int (4 : Int32))] [] 0 (rm_kind_9 l Z a0 hw []  h0 n0 H) (by decide) (by decide) rfl rfl e0 (by rw [hml]; rfl) (lenOf pd_0 rfl) (Nat.le_of_eq rfl) (hb hby at_15) 18 rfl rfl (by decide) (by decide) fun T140 X140 e140 => ?_
      refine own_astore X140 hx (hb hby at_18) #[.val (.int x0), .val (.int x1), .val (.int (4 : Int32)), .val (.int (2 : Int32)), .val (.ref w_CollectionKind_ORDERED_SET), .unset, .unset] rfl rfl 20 rfl ?_
      refine own_iload_n X140 hx (hb hby at_20) rfl 21 rfl ?_
      refine own_pureS X140 hx hZ hown (own_w hw 1 rfl) (own_w hw 2 rfl) (own_w hw 3 rfl) (own_w hw 4 rfl) (by decide) [(.int (2 : Int32))] [] 0 (rm_kind_5 l Z a0 hw []  h0 n0 H) (by decide) (by decide) rfl rfl e140 (by rw [hml]; rfl) (lenOf pd_0 rfl) (Nat.le_of_eq rfl) (hb hby at_21) 24 rfl rfl (by decide) (by decide) fun T142 X142 e142 => ?_
      refine own_astore X142 hx (hb hby at_24) #[.val (.int x0), .val (.int x1), .val (.int (4 : Int32)), .val (.int (2 : Int32)), .val (.ref w_CollectionKind_ORDERED_SET), .val (.ref w_CollectionKind_BAG), .unset] rfl rfl 26 rfl ?_
      refine own_iload_n X142 hx (hb hby at_26) rfl 27 rfl ?_
      refine own_ifY X142 hx (hb hby at_27) ((if0 _ _).trans (feq (by decide : ¬ ((2 : Int32) = (0 : Int32)))).2) 36 (by decide) (by decide) ?_
      refine own_iload_n X142 hx (hb hby at_36) rfl 37 rfl ?_
      refine own_iload_n X142 hx (hb hby at_37) rfl 38 rfl ?_
      refine own_icmpY X142 hx (hb hby at_38) (feq (by decide : ¬ ((4 : Int32) = (2 : Int32)))).2 45 (by decide) (by decide) ?_
      refine own_iconst X142 hx (hb hby at_45) (0 : Int32) rfl 46 rfl ?_
      refine own_istore X142 hx (hb hby at_46) #[.val (.int x0), .val (.int x1), .val (.int (4 : Int32)), .val (.int (2 : Int32)), .val (.ref w_CollectionKind_ORDERED_SET), .val (.ref w_CollectionKind_BAG), .val (.int (0 : Int32))] rfl 48 rfl ?_
      refine own_aload X142 hx (hb hby at_48) rfl rfl 50 rfl ?_
      refine own_aload X142 hx (hb hby at_50) rfl rfl 52 rfl ?_
      refine own_pureV X142 hx hZ hown (own_w hw 10 rfl) (own_w hw 11 rfl) (notFace_of_selects (args := #[]) (mvT hZ (own_w hw 13 rfl))) (own_w hw 13 rfl) (own_w hw 12 rfl) (own_w hw 6 rfl) (own_w hw 14 rfl) (by decide) w_CollectionKind_ORDERED_SET [(.ref w_CollectionKind_BAG)] [] 0 (rm_conformsTo_28 l Z a0 hw []  h0 n0 H) (by decide) (by decide) rfl rfl e142 E_w_CollectionKind_ORDERED_SET (by rw [hml]; rfl) (lenOf pd_1 rfl) (Nat.le_of_eq rfl) (hb hby at_52) 55 rfl rfl (by decide) (by decide) fun T144 X144 e144 => ?_
      refine own_iload X144 hx (hb hby at_55) rfl 57 rfl ?_
      refine own_icmpN X144 hx (hb hby at_57) (teq (by decide : (0 : Int32) = (0 : Int32))).2 60 rfl ?_
      refine own_iconst X144 hx (hb hby at_60) (1 : Int32) rfl 61 rfl ?_
      refine own_goto X144 hx (hb hby at_61) 65 (by decide) (by decide) ?_
      exact own_retZ X144 hx hk hret (hb hby at_65) rfl ⟨rfl, Fr.nil _⟩ (by decide) (by decide)
    · rw [q126]
      refine own_istore_n X0 hx (hb hby at_13) #[.val (.int x0), .val (.int x1), .val (.int (4 : Int32)), .val (.int (3 : Int32)), .unset, .unset, .unset] rfl 14 rfl ?_
      refine own_iload_n X0 hx (hb hby at_14) rfl 15 rfl ?_
      refine own_pureS X0 hx hZ hown (own_w hw 1 rfl) (own_w hw 2 rfl) (own_w hw 3 rfl) (own_w hw 4 rfl) (by decide) [(.int (4 : Int32))] [] 0 (rm_kind_9 l Z a0 hw []  h0 n0 H) (by decide) (by decide) rfl rfl e0 (by rw [hml]; rfl) (lenOf pd_0 rfl) (Nat.le_of_eq rfl) (hb hby at_15) 18 rfl rfl (by decide) (by decide) fun T146 X146 e146 => ?_
      refine own_astore X146 hx (hb hby at_18) #[.val (.int x0), .val (.int x1), .val (.int (4 : Int32)), .val (.int (3 : Int32)), .val (.ref w_CollectionKind_ORDERED_SET), .unset, .unset] rfl rfl 20 rfl ?_
      refine own_iload_n X146 hx (hb hby at_20) rfl 21 rfl ?_
      refine own_pureS X146 hx hZ hown (own_w hw 1 rfl) (own_w hw 2 rfl) (own_w hw 3 rfl) (own_w hw 4 rfl) (by decide) [(.int (3 : Int32))] [] 0 (rm_kind_7 l Z a0 hw []  h0 n0 H) (by decide) (by decide) rfl rfl e146 (by rw [hml]; rfl) (lenOf pd_0 rfl) (Nat.le_of_eq rfl) (hb hby at_21) 24 rfl rfl (by decide) (by decide) fun T148 X148 e148 => ?_
      refine own_astore X148 hx (hb hby at_24) #[.val (.int x0), .val (.int x1), .val (.int (4 : Int32)), .val (.int (3 : Int32)), .val (.ref w_CollectionKind_ORDERED_SET), .val (.ref w_CollectionKind_SEQUENCE), .unset] rfl rfl 26 rfl ?_
      refine own_iload_n X148 hx (hb hby at_26) rfl 27 rfl ?_
      refine own_ifY X148 hx (hb hby at_27) ((if0 _ _).trans (feq (by decide : ¬ ((3 : Int32) = (0 : Int32)))).2) 36 (by decide) (by decide) ?_
      refine own_iload_n X148 hx (hb hby at_36) rfl 37 rfl ?_
      refine own_iload_n X148 hx (hb hby at_37) rfl 38 rfl ?_
      refine own_icmpY X148 hx (hb hby at_38) (feq (by decide : ¬ ((4 : Int32) = (3 : Int32)))).2 45 (by decide) (by decide) ?_
      refine own_iconst X148 hx (hb hby at_45) (0 : Int32) rfl 46 rfl ?_
      refine own_istore X148 hx (hb hby at_46) #[.val (.int x0), .val (.int x1), .val (.int (4 : Int32)), .val (.int (3 : Int32)), .val (.ref w_CollectionKind_ORDERED_SET), .val (.ref w_CollectionKind_SEQUENCE), .val (.int (0 : Int32))] rfl 48 rfl ?_
      refine own_aload X148 hx (hb hby at_48) rfl rfl 50 rfl ?_
      refine own_aload X148 hx (hb hby at_50) rfl rfl 52 rfl ?_
      refine own_pureV X148 hx hZ hown (own_w hw 10 rfl) (own_w hw 11 rfl) (notFace_of_selects (args := #[]) (mvT hZ (own_w hw 13 rfl))) (own_w hw 13 rfl) (own_w hw 12 rfl) (own_w hw 6 rfl) (own_w hw 14 rfl) (by decide) w_CollectionKind_ORDERED_SET [(.ref w_CollectionKind_SEQUENCE)] [] 0 (rm_conformsTo_29 l Z a0 hw []  h0 n0 H) (by decide) (by decide) rfl rfl e148 E_w_CollectionKind_ORDERED_SET (by rw [hml]; rfl) (lenOf pd_1 rfl) (Nat.le_of_eq rfl) (hb hby at_52) 55 rfl rfl (by decide) (by decide) fun T150 X150 e150 => ?_
      refine own_iload X150 hx (hb hby at_55) rfl 57 rfl ?_
      refine own_icmpN X150 hx (hb hby at_57) (teq (by decide : (0 : Int32) = (0 : Int32))).2 60 rfl ?_
      refine own_iconst X150 hx (hb hby at_60) (1 : Int32) rfl 61 rfl ?_
      refine own_goto X150 hx (hb hby at_61) 65 (by decide) (by decide) ?_
      exact own_retZ X150 hx hk hret (hb hby at_65) rfl ⟨rfl, Fr.nil _⟩ (by decide) (by decide)
    · rw [q126]
      refine own_istore_n X0 hx (hb hby at_13) #[.val (.int x0), .val (.int x1), .val (.int (4 : Int32)), .val (.int (4 : Int32)), .unset, .unset, .unset] rfl 14 rfl ?_
      refine own_iload_n X0 hx (hb hby at_14) rfl 15 rfl ?_
      refine own_pureS X0 hx hZ hown (own_w hw 1 rfl) (own_w hw 2 rfl) (own_w hw 3 rfl) (own_w hw 4 rfl) (by decide) [(.int (4 : Int32))] [] 0 (rm_kind_9 l Z a0 hw []  h0 n0 H) (by decide) (by decide) rfl rfl e0 (by rw [hml]; rfl) (lenOf pd_0 rfl) (Nat.le_of_eq rfl) (hb hby at_15) 18 rfl rfl (by decide) (by decide) fun T152 X152 e152 => ?_
      refine own_astore X152 hx (hb hby at_18) #[.val (.int x0), .val (.int x1), .val (.int (4 : Int32)), .val (.int (4 : Int32)), .val (.ref w_CollectionKind_ORDERED_SET), .unset, .unset] rfl rfl 20 rfl ?_
      refine own_iload_n X152 hx (hb hby at_20) rfl 21 rfl ?_
      refine own_pureS X152 hx hZ hown (own_w hw 1 rfl) (own_w hw 2 rfl) (own_w hw 3 rfl) (own_w hw 4 rfl) (by decide) [(.int (4 : Int32))] [] 0 (rm_kind_9 l Z a0 hw []  h0 n0 H) (by decide) (by decide) rfl rfl e152 (by rw [hml]; rfl) (lenOf pd_0 rfl) (Nat.le_of_eq rfl) (hb hby at_21) 24 rfl rfl (by decide) (by decide) fun T154 X154 e154 => ?_
      refine own_astore X154 hx (hb hby at_24) #[.val (.int x0), .val (.int x1), .val (.int (4 : Int32)), .val (.int (4 : Int32)), .val (.ref w_CollectionKind_ORDERED_SET), .val (.ref w_CollectionKind_ORDERED_SET), .unset] rfl rfl 26 rfl ?_
      refine own_iload_n X154 hx (hb hby at_26) rfl 27 rfl ?_
      refine own_ifY X154 hx (hb hby at_27) ((if0 _ _).trans (feq (by decide : ¬ ((4 : Int32) = (0 : Int32)))).2) 36 (by decide) (by decide) ?_
      refine own_iload_n X154 hx (hb hby at_36) rfl 37 rfl ?_
      refine own_iload_n X154 hx (hb hby at_37) rfl 38 rfl ?_
      refine own_icmpN X154 hx (hb hby at_38) (teq (by decide : (4 : Int32) = (4 : Int32))).2 41 rfl ?_
      refine own_iconst X154 hx (hb hby at_41) (1 : Int32) rfl 42 rfl ?_
      refine own_goto X154 hx (hb hby at_42) 46 (by decide) (by decide) ?_
      refine own_istore X154 hx (hb hby at_46) #[.val (.int x0), .val (.int x1), .val (.int (4 : Int32)), .val (.int (4 : Int32)), .val (.ref w_CollectionKind_ORDERED_SET), .val (.ref w_CollectionKind_ORDERED_SET), .val (.int (1 : Int32))] rfl 48 rfl ?_
      refine own_aload X154 hx (hb hby at_48) rfl rfl 50 rfl ?_
      refine own_aload X154 hx (hb hby at_50) rfl rfl 52 rfl ?_
      refine own_pureV X154 hx hZ hown (own_w hw 10 rfl) (own_w hw 11 rfl) (notFace_of_selects (args := #[]) (mvT hZ (own_w hw 13 rfl))) (own_w hw 13 rfl) (own_w hw 12 rfl) (own_w hw 6 rfl) (own_w hw 14 rfl) (by decide) w_CollectionKind_ORDERED_SET [(.ref w_CollectionKind_ORDERED_SET)] [] 0 (rm_conformsTo_30 l Z a0 hw []  h0 n0 H) (by decide) (by decide) rfl rfl e154 E_w_CollectionKind_ORDERED_SET (by rw [hml]; rfl) (lenOf pd_1 rfl) (Nat.le_of_eq rfl) (hb hby at_52) 55 rfl rfl (by decide) (by decide) fun T156 X156 e156 => ?_
      refine own_iload X156 hx (hb hby at_55) rfl 57 rfl ?_
      refine own_icmpN X156 hx (hb hby at_57) (teq (by decide : (1 : Int32) = (1 : Int32))).2 60 rfl ?_
      refine own_iconst X156 hx (hb hby at_60) (1 : Int32) rfl 61 rfl ?_
      refine own_goto X156 hx (hb hby at_61) 65 (by decide) (by decide) ?_
      exact own_retZ X156 hx hk hret (hb hby at_65) rfl ⟨rfl, Fr.nil _⟩ (by decide) (by decide)
set_option maxRecDepth 65536 in
set_option maxHeartbeats 40000000 in
theorem comes_1 {Post : Tables → Env → Array Value → State → Outcome → State → Prop} (hpost : ∀ tb e args s v u, (limb_1_1.after args s (.returned v) u = true ∧ limb_1_2.after args s (.returned v) u = true ∧ True) → FrameEnd s (.returned v) u (Jvm.fieldLocs frame_1_writes args s ++ Jvm.arrayLocs frame_1_arrays args s ++ Jvm.staticLocs frame_1_statics s) 0 0 → Post tb e args s (.returned v) u) :
    ArmFor flags0 classFile x code maxLocals ret World_1 tables_1 room_1 Calls_1 rest_1 Pre_1 Post := by
  intro l hfl _ _ p e ha hc hk s m args below hf hA hF happ hP
  obtain ⟨hcalls, hrest, hpre⟩ := hP
  obtain ⟨-, -, -, hnamed, -, -, -, hat⟩ := (Spec.applies_iff hf).mp happ
  obtain ⟨hg, hn⟩ := and_e (Cond.before_iff.mp (show (Jvm.Cond.and given_1 narrow_1).before args s = true from hpre))
  obtain ⟨hn101a, hn101b⟩ := and_e hg
  obtain ⟨hn102a, hn102b⟩ := and_e hn101b
  obtain ⟨w0, w1, rfl⟩ : ∃ w0 w1 : Value, args = #[w0, w1] := by
    have hs : args.size = 2 := by simpa [Cond.value, given_1] using hn101a
    obtain ⟨L⟩ := args
    match L, hs with
    | [w0, w1], _ => exact ⟨w0, w1, rfl⟩
  have hw := fun d (hd : d ∈ tables_1) => atoms_spec (ws := Jvm.Cond.code x code maxLocals ret :: tables_1) hat d (List.mem_cons_of_mem _ hd)
  have hfit : Fit s := fun {y c} hc i hi => by
    obtain ⟨ha, rfl⟩ := Array.getElem?_eq_some_iff.mp hc
    have q := List.all_eq_true.mp ((Array.all_eq_true_iff_forall_mem.mp hF) _ (Array.getElem_mem ha)) i (List.mem_range.mpr hi)
    simpa [Array.getElem?_eq_getElem hi] using q
  obtain ⟨i0, ei0⟩ := is_v hn102a
  obtain rfl : w0 = (.int i0) := Option.some.inj ei0
  obtain ⟨i1, ei1⟩ := is_v hn102b
  obtain rfl : w1 = (.int i1) := Option.some.inj ei1
  obtain ⟨hn1a, hn1b⟩ := and_e hn
  obtain ⟨hn2a, hn2b⟩ := and_e hn1b
  obtain ⟨hn3a, hn3b⟩ := and_e hn2b
  obtain ⟨hn4a, hn4b⟩ := and_e hn3b
  obtain ⟨hn5a, hn5b⟩ := and_e hn4b
  obtain ⟨hn6a, hn6b⟩ := and_e hn5b
  obtain ⟨hn7a, hn7b⟩ := and_e hn6b
  obtain ⟨hn8a, hn8b⟩ := and_e hn7b
  obtain ⟨hn9a, hn9b⟩ := and_e hn8b
  obtain ⟨w_CollectionKind_COLLECTION, ev_w_CollectionKind_COLLECTION⟩ := exa_v hn1a
  have S_w_CollectionKind_COLLECTION := Sta.start ev_w_CollectionKind_COLLECTION (Or.inr ⟨(own_w hw 6 rfl), (own_w hw 7 rfl)⟩)
  have E_w_CollectionKind_COLLECTION := Exa.start ev_w_CollectionKind_COLLECTION hn1a
  obtain ⟨w_CollectionKind_SEQUENCE, ev_w_CollectionKind_SEQUENCE⟩ := exa_v hn2a
  have S_w_CollectionKind_SEQUENCE := Sta.start ev_w_CollectionKind_SEQUENCE (Or.inr ⟨(own_w hw 6 rfl), (own_w hw 9 rfl)⟩)
  have E_w_CollectionKind_SEQUENCE := Exa.start ev_w_CollectionKind_SEQUENCE hn2a
  obtain ⟨w_CollectionKind_ORDERED_SET, ev_w_CollectionKind_ORDERED_SET⟩ := exa_v hn5a
  have S_w_CollectionKind_ORDERED_SET := Sta.start ev_w_CollectionKind_ORDERED_SET (Or.inr ⟨(own_w hw 6 rfl), (own_w hw 17 rfl)⟩)
  have E_w_CollectionKind_ORDERED_SET := Exa.start ev_w_CollectionKind_ORDERED_SET hn5a
  obtain ⟨w_CollectionKind_SET, ev_w_CollectionKind_SET⟩ := exa_v hn6a
  have S_w_CollectionKind_SET := Sta.start ev_w_CollectionKind_SET (Or.inr ⟨(own_w hw 6 rfl), (own_w hw 19 rfl)⟩)
  have E_w_CollectionKind_SET := Exa.start ev_w_CollectionKind_SET hn6a
  obtain ⟨w_CollectionKind_BAG, ev_w_CollectionKind_BAG⟩ := exa_v hn9a
  have S_w_CollectionKind_BAG := Sta.start ev_w_CollectionKind_BAG (Or.inr ⟨(own_w hw 6 rfl), (own_w hw 21 rfl)⟩)
  have E_w_CollectionKind_BAG := Exa.start ev_w_CollectionKind_BAG hn9a
  have F_w_CollectionKind_COLLECTION_ordinal := own_fldI ev_w_CollectionKind_COLLECTION hn3a
  have F_w_CollectionKind_SEQUENCE_ordinal := own_fldI ev_w_CollectionKind_SEQUENCE hn4a
  have F_w_CollectionKind_ORDERED_SET_ordinal := own_fldI ev_w_CollectionKind_ORDERED_SET hn7a
  have F_w_CollectionKind_SET_ordinal := own_fldI ev_w_CollectionKind_SET hn8a
  have F_w_CollectionKind_BAG_ordinal := own_fldI ev_w_CollectionKind_BAG hn9b
  have ne_w_CollectionKind_COLLECTION_w_CollectionKind_SEQUENCE : w_CollectionKind_COLLECTION ≠ w_CollectionKind_SEQUENCE := Fld.ne F_w_CollectionKind_COLLECTION_ordinal F_w_CollectionKind_SEQUENCE_ordinal (by intro q; cases q)
  have ne_w_CollectionKind_COLLECTION_w_CollectionKind_ORDERED_SET : w_CollectionKind_COLLECTION ≠ w_CollectionKind_ORDERED_SET := Fld.ne F_w_CollectionKind_COLLECTION_ordinal F_w_CollectionKind_ORDERED_SET_ordinal (by intro q; cases q)
  have ne_w_CollectionKind_COLLECTION_w_CollectionKind_SET : w_CollectionKind_COLLECTION ≠ w_CollectionKind_SET := Fld.ne F_w_CollectionKind_COLLECTION_ordinal F_w_CollectionKind_SET_ordinal (by intro q; cases q)
  have ne_w_CollectionKind_SEQUENCE_w_CollectionKind_SET : w_CollectionKind_SEQUENCE ≠ w_CollectionKind_SET := Fld.ne F_w_CollectionKind_SEQUENCE_ordinal F_w_CollectionKind_SET_ordinal (by intro q; cases q)
  have ne_w_CollectionKind_ORDERED_SET_w_CollectionKind_SEQUENCE : w_CollectionKind_ORDERED_SET ≠ w_CollectionKind_SEQUENCE := Fld.ne F_w_CollectionKind_ORDERED_SET_ordinal F_w_CollectionKind_SEQUENCE_ordinal (by intro q; cases q)
  have ne_w_CollectionKind_ORDERED_SET_w_CollectionKind_SET : w_CollectionKind_ORDERED_SET ≠ w_CollectionKind_SET := Fld.ne F_w_CollectionKind_ORDERED_SET_ordinal F_w_CollectionKind_SET_ordinal (by intro q; cases q)
  have ne_w_CollectionKind_BAG_w_CollectionKind_COLLECTION : w_CollectionKind_BAG ≠ w_CollectionKind_COLLECTION := Fld.ne F_w_CollectionKind_BAG_ordinal F_w_CollectionKind_COLLECTION_ordinal (by intro q; cases q)
  have ne_w_CollectionKind_BAG_w_CollectionKind_SEQUENCE : w_CollectionKind_BAG ≠ w_CollectionKind_SEQUENCE := Fld.ne F_w_CollectionKind_BAG_ordinal F_w_CollectionKind_SEQUENCE_ordinal (by intro q; cases q)
  have ne_w_CollectionKind_BAG_w_CollectionKind_ORDERED_SET : w_CollectionKind_BAG ≠ w_CollectionKind_ORDERED_SET := Fld.ne F_w_CollectionKind_BAG_ordinal F_w_CollectionKind_ORDERED_SET_ordinal (by intro q; cases q)
  have ne_w_CollectionKind_BAG_w_CollectionKind_SET : w_CollectionKind_BAG ≠ w_CollectionKind_SET := Fld.ne F_w_CollectionKind_BAG_ordinal F_w_CollectionKind_SET_ordinal (by intro q; cases q)
  obtain ⟨n, o, h1, h2, h3, _, L, rfl, ⟨rfl, N⟩, hq⟩ := rm0 l s _ hw tables_1 i0 i1 s.heap s.heap.size (show own_C s s.heap w_CollectionKind_COLLECTION w_CollectionKind_SEQUENCE w_CollectionKind_ORDERED_SET w_CollectionKind_SET w_CollectionKind_BAG from ⟨S_w_CollectionKind_COLLECTION, E_w_CollectionKind_COLLECTION, S_w_CollectionKind_SEQUENCE, E_w_CollectionKind_SEQUENCE, S_w_CollectionKind_ORDERED_SET, E_w_CollectionKind_ORDERED_SET, S_w_CollectionKind_SET, E_w_CollectionKind_SET, S_w_CollectionKind_BAG, E_w_CollectionKind_BAG, F_w_CollectionKind_COLLECTION_ordinal, F_w_CollectionKind_SEQUENCE_ordinal, F_w_CollectionKind_ORDERED_SET_ordinal, F_w_CollectionKind_SET_ordinal, F_w_CollectionKind_BAG_ordinal, ne_w_CollectionKind_COLLECTION_w_CollectionKind_SEQUENCE, ne_w_CollectionKind_COLLECTION_w_CollectionKind_ORDERED_SET, ne_w_CollectionKind_COLLECTION_w_CollectionKind_SET, ne_w_CollectionKind_SEQUENCE_w_CollectionKind_SET, ne_w_CollectionKind_ORDERED_SET_w_CollectionKind_SEQUENCE, ne_w_CollectionKind_ORDERED_SET_w_CollectionKind_SET, ne_w_CollectionKind_BAG_w_CollectionKind_COLLECTION, ne_w_CollectionKind_BAG_w_CollectionKind_SEQUENCE, ne_w_CollectionKind_BAG_w_CollectionKind_ORDERED_SET, ne_w_CollectionKind_BAG_w_CollectionKind_SET⟩) p e ha hc hk s m _ below hf ((Spec.applies_iff_loose hf).mp happ).1 ⟨rfl, State.Warmed39.refl s, rfl⟩ trivial
  refine ⟨n, _, h1, h2, h3, hpost _ _ _ _ _ _ ⟨Cond.after_iff.mpr rfl, Cond.after_iff.mpr (eq_i res_at (Term.int_eval (1)) rfl), trivial⟩ ⟨hq.1, hq.2.1, (hq.2.2.sift fun y hy => Or.inr (N y hy)).mono (by decide) (by decide)⟩⟩
theorem main_1_1 : Claimed_1_1 := comes_1 fun _ _ _ _ _ _ h hF => ⟨h.1, hF⟩
theorem main_1_2 : Claimed_1_2 := comes_1 fun _ _ _ _ _ _ h hF => ⟨h.2.1, hF⟩
end Jvm.Pilot.@@N@@
namespace Jvm.Pilot.@@N@@
open Jvm Jvm.ClassFile Sem Op Lib Jvm.Free Jvm.Stand Jvm.Pilot.@@N@@.Jvm.D
/-! MADE BY PROGRAM (witnessworld.py) out of the Statement's table words and the real class files: 12 classes; the members and pool entries that the words name. The judged class is class 1, her method 2. -/
namespace start1
open Jvm.ClassFile
def u (s : String) : CpInfo := .utf8 (stringToUtf16 s)
/-- a pool by its gaps: so many unusable entries, then the entry; so many at the end -/
def gap : Nat → List CpInfo → List CpInfo
  | 0, r => r
  | n + 1, r => .unusable :: gap n r
def poolList (es : List (Nat × CpInfo)) (last : Nat) : List CpInfo := es.foldr (fun e r => gap e.1 (e.2 :: r)) (gap last [])
def pool (es : List (Nat × CpInfo)) (last : Nat) : Array CpInfo := ⟨poolList es last⟩
def fileOf (pool : Array CpInfo) (this : Nat) (attrs : Array Attribute := #[]) (ms : Array MethodInfo := #[]) (fl : Nat := 33) (sup : Nat := 0) (ifs : Array Nat := #[]) (fds : Array FieldInfo := #[]) : ClassFile where
  minorVersion := 0
  majorVersion := 65
  constantPool := pool
  accessFlags := fl
  thisClass := this
  superClass := sup
  interfaces := ifs
  fields := fds
  methods := ms
  attributes := attrs
def plain (name : String) (sup : Option ClassId) : Class where
  name := name
  kind := .ordinary
  loader := none
  accessFlags := 33
  super := sup
  interfaces := #[]
  cf := none
  fields := #[]
  methods := #[]
  instanceTypes := #[]
  staticTypes := #[]
  resolved := #[]
  callSites := []
  init := .initialized
  statics := none
  mirror := none

def pool0 : Array CpInfo := pool [(5, u "<init>"), (0, u "()V"), (1, .class_ 10), (1, u "java/lang/Object")] 113

def k0m0 : Method := { name := "<init>", desc := "()V", sig := { parameters := [], returnType := none }, accessFlags := 1, code := none }
/-- java/lang/Object -/
def k0 : Class := { plain "java/lang/Object" none with
  accessFlags := 33
  interfaces := #[]
  cf := some (fileOf pool0 8 #[] #[{ accessFlags := 1, nameIndex := 5, descriptorIndex := 6, attributes := #[] }] 33 0 #[] #[])
  fields := #[]
  methods := #[k0m0]
  instanceTypes := #[]
  staticTypes := #[]
  resolved := Array.replicate 124 none
  statics := none }

def pool1 : Array CpInfo := pool [(2, .class_ 4), (1, u "java/lang/Object"), (0, u "<init>"), (0, u "()V"), (0, .fieldref 8 9), (0, .class_ 10), (0, .nameAndType 11 12), (0, u "com/example/montegancedo/montegancedo/ocl/CollectionKind"), (0, u "COLLECTION"), (0, u "Lcom/example/montegancedo/montegancedo/ocl/CollectionKind;"), (0, .fieldref 8 14), (0, .nameAndType 15 12), (0, u "SET"), (0, .fieldref 8 17), (0, .nameAndType 18 12), (0, u "BAG"), (0, .fieldref 8 20), (0, .nameAndType 21 12), (0, u "SEQUENCE"), (0, .fieldref 8 23), (0, .nameAndType 24 12), (0, u "ORDERED_SET"), (0, .integer 2147483647), (0, .methodref 27 28), (0, .class_ 29), (0, .nameAndType 30 31), (0, u "com/example/montegancedo/montegancedo/ocl/CollectionKindConformsToPinLaw"), (0, u "kind"), (0, u "(I)Lcom/example/montegancedo/montegancedo/ocl/CollectionKind;"), (0, .methodref 8 33), (0, .nameAndType 34 35), (0, u "conformsTo"), (0, u "(Lcom/example/montegancedo/montegancedo/ocl/CollectionKind;)Z"), (3, u "law"), (0, u "(II)Z")] 2

def k1m0 : Method := { name := "<init>", desc := "()V", sig := { parameters := [], returnType := none }, accessFlags := 1, code := none }
def k1c1 : Code := { maxStack := 2, maxLocals := 1, code := method_2_code, exceptionTable := #[], attributes := #[] }
def k1m1 : Method := { name := "kind", desc := "(I)Lcom/example/montegancedo/montegancedo/ocl/CollectionKind;", sig := { parameters := [.int], returnType := some (.object "com/example/montegancedo/montegancedo/ocl/CollectionKind") }, accessFlags := 10, code := some k1c1 }
def k1c2 : Code := { maxStack := 2, maxLocals := 7, code := code, exceptionTable := #[], attributes := #[] }
def k1m2 : Method := { name := "law", desc := "(II)Z", sig := { parameters := [.int, .int], returnType := some .boolean }, accessFlags := 9, code := some k1c2 }
/-- com/example/montegancedo/montegancedo/ocl/CollectionKindConformsToPinLaw -/
def k1 : Class := { plain "com/example/montegancedo/montegancedo/ocl/CollectionKindConformsToPinLaw" (some 0) with
  accessFlags := 49
  interfaces := #[]
  cf := some (fileOf pool1 27 #[] #[{ accessFlags := 1, nameIndex := 5, descriptorIndex := 6, attributes := #[] }, { accessFlags := 10, nameIndex := 30, descriptorIndex := 31, attributes := #[] }, { accessFlags := 9, nameIndex := 39, descriptorIndex := 40, attributes := #[] }] 49 2 #[] #[])
  fields := #[]
  methods := #[k1m0, k1m1, k1m2]
  instanceTypes := #[]
  staticTypes := #[]
  resolved := Array.replicate 43 none
  statics := none }

def pool2 : Array CpInfo := pool [(1, .class_ 2), (0, u "java/lang/constant/Constable"), (0, .class_ 4), (0, u "java/lang/Object")] 6

/-- java/lang/constant/Constable -/
def k2 : Class := { plain "java/lang/constant/Constable" (some 0) with
  accessFlags := 1537
  interfaces := #[]
  cf := some (fileOf pool2 1 #[] #[] 1537 3 #[] #[])
  fields := #[]
  methods := #[]
  instanceTypes := #[]
  staticTypes := #[]
  resolved := Array.replicate 11 none
  statics := none }

def pool3 : Array CpInfo := pool [(1, .class_ 2), (0, u "java/lang/Comparable"), (0, .class_ 4), (0, u "java/lang/Object")] 7

/-- java/lang/Comparable -/
def k3 : Class := { plain "java/lang/Comparable" (some 0) with
  accessFlags := 1537
  interfaces := #[]
  cf := some (fileOf pool3 1 #[] #[] 1537 3 #[] #[])
  fields := #[]
  methods := #[]
  instanceTypes := #[]
  staticTypes := #[]
  resolved := Array.replicate 12 none
  statics := none }

def pool4 : Array CpInfo := pool [(1, .class_ 2), (0, u "java/io/Serializable"), (0, .class_ 4), (0, u "java/lang/Object")] 2

/-- java/io/Serializable -/
def k4 : Class := { plain "java/io/Serializable" (some 0) with
  accessFlags := 1537
  interfaces := #[]
  cf := some (fileOf pool4 1 #[] #[] 1537 3 #[] #[])
  fields := #[]
  methods := #[]
  instanceTypes := #[]
  staticTypes := #[]
  resolved := Array.replicate 7 none
  statics := none }

def pool5 : Array CpInfo := pool [(2, .class_ 4), (1, u "java/lang/Enum"), (0, u "name"), (0, u "Ljava/lang/String;"), (2, u "ordinal"), (0, u "I"), (1, .class_ 14), (1, u "java/lang/Object"), (4, u "hash"), (86, .class_ 108), (1, u "java/lang/Enum$EnumDesc"), (2, .class_ 112), (0, u "java/lang/constant/Constable"), (0, .class_ 114), (0, u "java/lang/Comparable"), (0, .class_ 116), (0, u "java/io/Serializable")] 87

/-- java/lang/Enum -/
def k5 : Class := { plain "java/lang/Enum" (some 0) with
  accessFlags := 1057
  interfaces := #[2, 3, 4]
  cf := some (fileOf pool5 2 #[.nestMembers #[106]] #[] 1057 12 #[111, 113, 115] #[{ accessFlags := 18, nameIndex := 5, descriptorIndex := 6, attributes := #[] }, { accessFlags := 18, nameIndex := 9, descriptorIndex := 10, attributes := #[] }, { accessFlags := 2, nameIndex := 19, descriptorIndex := 10, attributes := #[] }])
  fields := #[{ name := "name", type := (.object "java/lang/String"), accessFlags := 18, slot := 0, constantValue := 0 }, { name := "ordinal", type := .int, accessFlags := 18, slot := 1, constantValue := 0 }, { name := "hash", type := .int, accessFlags := 2, slot := 2, constantValue := 0 }]
  methods := #[]
  instanceTypes := #[(.object "java/lang/String"), .int, .int]
  staticTypes := #[]
  resolved := Array.replicate 204 none
  statics := none }

def pool6 : Array CpInfo := pool [(1, .class_ 2), (0, u "com/example/montegancedo/montegancedo/ocl/CollectionKind"), (0, .fieldref 1 4), (0, .nameAndType 5 6), (0, u "COLLECTION"), (0, u "Lcom/example/montegancedo/montegancedo/ocl/CollectionKind;"), (2, u "SET"), (2, u "BAG"), (2, u "SEQUENCE"), (2, u "ORDERED_SET"), (2, u "$VALUES"), (0, u "[Lcom/example/montegancedo/montegancedo/ocl/CollectionKind;"), (6, .class_ 31), (1, u "java/lang/Enum"), (8, u "oclName"), (0, u "Ljava/lang/String;"), (2, u "ordered"), (0, u "Z"), (22, u "UNIONS"), (0, u "Ljava/util/Map;"), (18, u "INTERSECTIONS"), (42, u "conformsTo"), (0, u "(Lcom/example/montegancedo/montegancedo/ocl/CollectionKind;)Z")] 13

def k6c0 : Code := { maxStack := 2, maxLocals := 2, code := prog_79_method_6_code, exceptionTable := #[], attributes := #[] }
def k6m0 : Method := { name := "conformsTo", desc := "(Lcom/example/montegancedo/montegancedo/ocl/CollectionKind;)Z", sig := { parameters := [(.object "com/example/montegancedo/montegancedo/ocl/CollectionKind")], returnType := some .boolean }, accessFlags := 1, code := some k6c0 }
/-- com/example/montegancedo/montegancedo/ocl/CollectionKind -/
def k6 : Class := { plain "com/example/montegancedo/montegancedo/ocl/CollectionKind" (some 5) with
  accessFlags := 16433
  interfaces := #[]
  cf := some (fileOf pool6 1 #[] #[{ accessFlags := 1, nameIndex := 131, descriptorIndex := 132, attributes := #[] }] 16433 29 #[] #[{ accessFlags := 16409, nameIndex := 5, descriptorIndex := 6, attributes := #[] }, { accessFlags := 16409, nameIndex := 9, descriptorIndex := 6, attributes := #[] }, { accessFlags := 16409, nameIndex := 12, descriptorIndex := 6, attributes := #[] }, { accessFlags := 16409, nameIndex := 15, descriptorIndex := 6, attributes := #[] }, { accessFlags := 16409, nameIndex := 18, descriptorIndex := 6, attributes := #[] }, { accessFlags := 26, nameIndex := 68, descriptorIndex := 69, attributes := #[] }, { accessFlags := 26, nameIndex := 88, descriptorIndex := 69, attributes := #[] }, { accessFlags := 18, nameIndex := 40, descriptorIndex := 41, attributes := #[] }, { accessFlags := 18, nameIndex := 44, descriptorIndex := 45, attributes := #[] }, { accessFlags := 4122, nameIndex := 21, descriptorIndex := 22, attributes := #[] }])
  fields := #[{ name := "COLLECTION", type := (.object "com/example/montegancedo/montegancedo/ocl/CollectionKind"), accessFlags := 16409, slot := 0, constantValue := 0 }, { name := "SET", type := (.object "com/example/montegancedo/montegancedo/ocl/CollectionKind"), accessFlags := 16409, slot := 1, constantValue := 0 }, { name := "BAG", type := (.object "com/example/montegancedo/montegancedo/ocl/CollectionKind"), accessFlags := 16409, slot := 2, constantValue := 0 }, { name := "SEQUENCE", type := (.object "com/example/montegancedo/montegancedo/ocl/CollectionKind"), accessFlags := 16409, slot := 3, constantValue := 0 }, { name := "ORDERED_SET", type := (.object "com/example/montegancedo/montegancedo/ocl/CollectionKind"), accessFlags := 16409, slot := 4, constantValue := 0 }, { name := "UNIONS", type := (.object "java/util/Map"), accessFlags := 26, slot := 5, constantValue := 0 }, { name := "INTERSECTIONS", type := (.object "java/util/Map"), accessFlags := 26, slot := 6, constantValue := 0 }, { name := "oclName", type := (.object "java/lang/String"), accessFlags := 18, slot := 3, constantValue := 0 }, { name := "ordered", type := .boolean, accessFlags := 18, slot := 4, constantValue := 0 }, { name := "$VALUES", type := (.array (.object "com/example/montegancedo/montegancedo/ocl/CollectionKind")), accessFlags := 4122, slot := 7, constantValue := 0 }]
  methods := #[k6m0]
  instanceTypes := #[(.object "java/lang/String"), .int, .int, (.object "java/lang/String"), .boolean]
  staticTypes := #[(.object "com/example/montegancedo/montegancedo/ocl/CollectionKind"), (.object "com/example/montegancedo/montegancedo/ocl/CollectionKind"), (.object "com/example/montegancedo/montegancedo/ocl/CollectionKind"), (.object "com/example/montegancedo/montegancedo/ocl/CollectionKind"), (.object "com/example/montegancedo/montegancedo/ocl/CollectionKind"), (.object "java/util/Map"), (.object "java/util/Map"), (.array (.object "com/example/montegancedo/montegancedo/ocl/CollectionKind"))]
  resolved := Array.replicate 146 none
  statics := some 0 }

def pool7 : Array CpInfo := pool [(1, u "java/lang/Cloneable"), (0, .class_ 1), (0, u "java/lang/Object"), (0, .class_ 3)] 3

/-- java/lang/Cloneable -/
def k7 : Class := { plain "java/lang/Cloneable" (some 0) with
  accessFlags := 1537
  interfaces := #[]
  cf := some (fileOf pool7 2 #[] #[] 1537 4 #[] #[])
  fields := #[]
  methods := #[]
  instanceTypes := #[]
  staticTypes := #[]
  resolved := Array.replicate 8 none
  statics := none }

/-- the primitive byte -/
def k8 : Class := { plain "byte" none with kind := .primitive 'B', accessFlags := 0x411 }
/-- [B -/
def k9 : Class := { plain "[B" (some 0) with kind := .array 8 .byte, interfaces := #[7, 4], accessFlags := 1041 }

/-- the primitive int -/
def k10 : Class := { plain "int" none with kind := .primitive 'I', accessFlags := 0x411 }
/-- [I -/
def k11 : Class := { plain "[I" (some 0) with kind := .array 10 .int, interfaces := #[7, 4], accessFlags := 1041 }

def heap : Heap := #[{ cls := 6, slots := #[.ref 1, .ref 4, .ref 5, .ref 2, .ref 3, .null, .null, .null], vm := .statics 6 },
  { cls := 6, slots := #[.null, .int 0, .int 0, .null, .int 0], vm := .none },
  { cls := 6, slots := #[.null, .int 3, .int 0, .null, .int 0], vm := .none },
  { cls := 6, slots := #[.null, .int 4, .int 0, .null, .int 0], vm := .none },
  { cls := 6, slots := #[.null, .int 1, .int 0, .null, .int 0], vm := .none },
  { cls := 6, slots := #[.null, .int 2, .int 0, .null, .int 0], vm := .none }]
def classes : Array Class := #[k0, k1, k2, k3, k4, k5, k6, k7, k8, k9, k10, k11]
def interned : List (Array UInt16 × Addr) := []
def slotsUsed : Nat := 33
def theMethod : MethodId := ⟨1, 2⟩
def args0 : Array Value := #[.int 1, .int 2]
def aboutOver (below : List Frame) : State where
  vm := { classes := classes, interned := interned.toArray }
  heap := heap
  slotsUsed := slotsUsed
  threads := #[{ frames := .invoking theMethod args0 :: below }]
def below0 : List Frame := [.native { method := ⟨0, 0⟩, args := #[] }]
def about1 : State := aboutOver below0
def p0 : Program := .bare "" "" ""
def e0 : Env := launch0.env 0 0 0
theorem w_frames : about1.frames = Frame.invoking theMethod args0 :: below0 := rfl
set_option maxRecDepth 65536 in
theorem w_args : argsFit about1.vm theMethod args0 = true := by decide +kernel
set_option maxRecDepth 65536 in
theorem w_heap : heapFits about1 = true := by decide +kernel
set_option maxRecDepth 65536 in
theorem w_runnable : about1.curStatus? = some .runnable := by decide +kernel
set_option maxRecDepth 65536 in
theorem w_alone : about1.alone = true := by decide +kernel
set_option maxRecDepth 65536 in
theorem w_named : about1.methodNamed? x = some theMethod := by decide +kernel
set_option maxRecDepth 65536 in
theorem w_hears : about1.hears theMethod below0 = true := by decide +kernel
set_option maxRecDepth 65536 in
theorem w_ripe : about1.ripe theMethod args0 below0 = true := by decide +kernel
theorem w_running : about1.status = .running := rfl
set_option maxRecDepth 65536 in
theorem w_room : about1.hasRoom e0.platform room_1 = true :=
  launch0.hasRoom_least _ room_1 (by decide +kernel) (by decide +kernel) (by decide +kernel) (by decide +kernel) (by decide +kernel) (by decide +kernel)
theorem allAtoms_all (ts : List Jvm.Cond) (a : Array Jvm.Value) (st : Jvm.State) : (allAtoms ts).before a st = ts.all (fun c => c.before a st) := by
  induction ts with
  | nil => rfl
  | cons c t ih =>
    show (Jvm.Cond.and c (allAtoms t)).before a st = _
    rw [Jvm.Cond.before_and, ih, List.all_cons]
def words1 : List Jvm.Cond := Jvm.Cond.code x code maxLocals ret :: tables_1
/-- a 'code' word, met by the world's own term for the bytes: nothing is compared byte by byte -/
theorem code_word {y : MethodName} {bytes : ByteArray} {mx : Nat} {rt : Option FieldType} {a : Array Value} {s : State} {m : MethodId} {meth : Method} {c : Code} (h1 : s.methodNamed? y = some m) (h2 : s.vm.method? m = some meth) (h3 : meth.code = some c) (h4 : c.code = bytes)
    (h5 : (c.maxLocals == mx && c.exceptionTable.isEmpty && decide (c.maxStack ≤ mostOperands) && decide (meth.sig.returnType = rt) && !meth.locks && decide (parseMethodDescriptor y.desc = some meth.sig)) = true) : (Jvm.Cond.code y bytes mx rt).before a s = true := by
  simp only [Bool.and_eq_true, beq_iff_eq, Bool.not_eq_true', decide_eq_true_eq] at h5
  obtain ⟨⟨⟨⟨⟨g1, g2⟩, g3⟩, g4⟩, g5⟩, g6⟩ := h5
  simp [Cond.before, Cond.holds, Cond.value, h1, h2, h3, h4, g1, g2, g3, g4, g5, g6]
def isCode : Jvm.Cond → Bool
  | .code _ _ _ _ => true
  | _ => false
theorem all_split {L : List Jvm.Cond} {P : Jvm.Cond → Bool} (h1 : L.all (fun c => isCode c || P c) = true) (h2 : ∀ c ∈ L.filter isCode, P c = true) : L.all P = true := by
  refine List.all_eq_true.mpr fun c hc => ?_
  have h := List.all_eq_true.mp h1 c hc
  rcases Bool.eq_false_or_eq_true (isCode c) with hi | hi
  · exact h2 c (List.mem_filter.mpr ⟨hc, hi⟩)
  · simpa [hi] using h
set_option maxRecDepth 65536 in
theorem w_c0 : (Jvm.Cond.code x code maxLocals ret).before args0 about1 = true := code_word (m := ⟨1, 2⟩) (meth := k1m2) (c := k1c2) (by decide +kernel) rfl rfl rfl (by decide +kernel)
set_option maxRecDepth 65536 in
theorem w_c1 : (Jvm.Cond.code ({ cls := "com/example/montegancedo/montegancedo/ocl/CollectionKindConformsToPinLaw", name := "kind", desc := "(I)Lcom/example/montegancedo/montegancedo/ocl/CollectionKind;" } : Jvm.MethodName) method_2_code (1 : Nat) (Option.some (Jvm.ClassFile.FieldType.object "com/example/montegancedo/montegancedo/ocl/CollectionKind"))).before args0 about1 = true := code_word (m := ⟨1, 1⟩) (meth := k1m1) (c := k1c1) (by decide +kernel) rfl rfl rfl (by decide +kernel)
set_option maxRecDepth 65536 in
theorem w_c2 : (Jvm.Cond.code ({ cls := "com/example/montegancedo/montegancedo/ocl/CollectionKind", name := "conformsTo", desc := "(Lcom/example/montegancedo/montegancedo/ocl/CollectionKind;)Z" } : Jvm.MethodName) prog_79_method_6_code (2 : Nat) (Option.some Jvm.ClassFile.FieldType.boolean)).before args0 about1 = true := code_word (m := ⟨6, 0⟩) (meth := k6m0) (c := k6c0) (by decide +kernel) rfl rfl rfl (by decide +kernel)
def codes1 : List Jvm.Cond := [Jvm.Cond.code x code maxLocals ret, Jvm.Cond.code ({ cls := "com/example/montegancedo/montegancedo/ocl/CollectionKindConformsToPinLaw", name := "kind", desc := "(I)Lcom/example/montegancedo/montegancedo/ocl/CollectionKind;" } : Jvm.MethodName) method_2_code (1 : Nat) (Option.some (Jvm.ClassFile.FieldType.object "com/example/montegancedo/montegancedo/ocl/CollectionKind")), Jvm.Cond.code ({ cls := "com/example/montegancedo/montegancedo/ocl/CollectionKind", name := "conformsTo", desc := "(Lcom/example/montegancedo/montegancedo/ocl/CollectionKind;)Z" } : Jvm.MethodName) prog_79_method_6_code (2 : Nat) (Option.some Jvm.ClassFile.FieldType.boolean)]
set_option maxRecDepth 65536 in
theorem codes_eq : words1.filter isCode = codes1 := rfl
theorem w_codes : ∀ c ∈ words1.filter isCode, c.before args0 about1 = true := by
  rw [codes_eq]
  intro c hc
  simp only [codes1, List.mem_cons, List.not_mem_nil, or_false] at hc
  rcases hc with rfl | rfl | rfl
  · exact w_c0
  · exact w_c1
  · exact w_c2
set_option maxRecDepth 65536 in
theorem w_t1 : words1.all (fun c => isCode c || c.before args0 about1) = true := by decide +kernel
theorem w_tables : (allAtoms (Jvm.Cond.code x code maxLocals ret :: tables_1)).before args0 about1 = true := by
  rw [allAtoms_all]
  show words1.all (fun c => c.before args0 about1) = true
  refine all_split ?_ w_codes
  rw [w_t1]
set_option maxRecDepth 65536 in
theorem w_case : (Jvm.Cond.and given_1 narrow_1).before args0 about1 = true := by decide +kernel
theorem w_applies : (headSpec (Jvm.Cond.code x code maxLocals ret :: tables_1) room_1).applies x e0.platform about1 = true :=
  (Spec.applies_iff w_frames).mpr ⟨w_running, w_runnable, w_alone, w_named, w_hears, w_ripe, w_room, w_tables⟩
theorem atStart : AtStart classFile x code maxLocals ret World_1 tables_1 room_1 Calls_1 rest_1 Pre_1 launch0 p0 e0 about1 theMethod args0 below0 :=
  ⟨lists_1, trivial, launch0.admits_env _ _ _, launch0.least_env, fairChoices_fair.cas, fairChoices_fair.clock, w_frames, w_args, w_heap, w_applies, trivial, trivial, w_case⟩
end start1
theorem witness_1 : WitnessClaimed_1 := ⟨start1.p0, start1.e0, start1.about1, start1.theMethod, start1.args0, start1.below0, start1.atStart⟩
end Jvm.Pilot.@@N@@
