import JvmDerived
import JvmDerived.Pilot.@@N@@Statement
import JvmDerived.Pilot.@@N@@Code
set_option linter.unusedVariables false
set_option linter.unusedSimpArgs false
set_option maxRecDepth 65536
set_option maxHeartbeats 40000000
@@BLOCK:NumsL.lean.txt@@
namespace Jvm.Pilot.@@N@@
open Jvm Jvm.ClassFile Sem Op Lib Jvm.Free Jvm.Stand Jvm.LawKit Jvm.RoadKit Bundle Jvm.Pilot.@@N@@.Jvm.D
section OwnHead
variable {p : Program} {l : Launch} {e : Env} {R : Room} {s : State} {m : MethodId} {args : Array Value} {below : List Frame} {meth : Method} {c : Code} {T : State} {locs : List Loc} {cells slots : Nat} {Z : State} {a0 : Array Value} {h : Heap}
/-- from here the run comes to a state of which F holds -/
def own_Go (tb : Tables) (e : Env) (below : List Frame) (F : State → Prop) (U : State) : Prop := ∃ t, Steps tb e below U t ∧ F t
theorem own_by {tb : Tables} {F : State → Prop} {U U' : State} (q : ∀ t, Steps tb e below U' t → Steps tb e below U t) (k : own_Go tb e below F U') : own_Go tb e below F U := by
  obtain ⟨t, a, b⟩ := k
  exact ⟨t, q t a, b⟩
theorem own_ent {tb : Tables} {F : State → Prop} {T : State} {f g : JFrame} (q : f = g) (k : own_Go tb e below F (T.setTop g)) : own_Go tb e below F (T.setTop f) := by
  rw [q]
  exact k
abbrev own_rm (f c s l : Nat) : Room := { frames := f, cells := c, slots := s, locals := l }
theorem own_byR {tb : Tables} {F : State → Prop} {T U : State} {m : MethodId} {pc : Nat} {Ls : Array Slot} {v : Value} {rest : List Value} (q : ∀ t, Steps tb e below (T.setTop (mkF m pc Ls ((some v).toList ++ rest))) t → Steps tb e below U t) (pc' : Nat) (hp : pc = pc') (k : own_Go tb e below F (T.setTop (mkF m pc' Ls (v :: rest)))) : own_Go tb e below F U := by
  subst hp
  exact own_by q k
theorem own_byV {tb : Tables} {F : State → Prop} {T U : State} {m : MethodId} {pc : Nat} {Ls : Array Slot} {rest : List Value} (q : ∀ t, Steps tb e below (T.setTop (mkF m pc Ls ((none : Option Value).toList ++ rest))) t → Steps tb e below U t) (pc' : Nat) (hp : pc = pc') (k : own_Go tb e below F (T.setTop (mkF m pc' Ls rest))) : own_Go tb e below F U := by
  subst hp
  exact own_by q k
/-- the method has returned, and what its contract says holds -/
def own_Fin (s : State) (below : List Frame) (Q : Option Value → Heap → List Loc → Prop) (C N : Nat) (t : State) : Prop := ∃ o, t.status = .running ∧ Ended t below o ∧ ∃ v L, o = .returned v ∧ Q v t.heap L ∧ FrameEnd s o t L C N
theorem own_fin (X : Stand p l e R s m args below meth c T locs cells slots) {Q : Option Value → Heap → List Loc → Prop} {C N : Nat} {v : Option Value} (hk : meth.locks = false) (hv : meth.sig.returnType = none → v = none) {U : State}
    (hst : ∀ fs, (∀ (f : JFrame) (acts : List Action), f.method = m → f.locked = none → f.entered = [] → (doReturn e (T.setTop f) acts v).1 = T.setFrames fs) → Steps p.tables e below U (T.setFrames fs)) (hQ : Q v T.heap locs) (hC : cells ≤ C) (hN : slots ≤ N) :
    own_Go p.tables e below (own_Fin s below Q C N) U := by
  obtain ⟨fs, hr, hrun, hended, hW, hsame⟩ := X.leave (v := v) hv hk
  exact ⟨_, hst fs hr, _, hrun, hended, v, locs, rfl, hQ, ⟨_, rfl⟩, hW, hsame.mono hC hN⟩
theorem own_ret (X : Stand p l e R s m args below meth c T locs cells slots) (hx : p.tables.exec = Jvm.exec) {Q : Option Value → Heap → List Loc → Prop} {C N : Nat} (hk : meth.locks = false) {pc : Nat} {Ls : Array Slot} {w : Value} {t : FieldType} {i : Instr} {rest : List Value} (hret : meth.sig.returnType = some t) (hn : narrow t w = w)
    (hi : (i = .ireturn ∧ (t = .int ∨ t = .boolean ∨ t = .byte ∨ t = .char ∨ t = .short) ∧ ∃ z, w = .int z) ∨ (i = .lreturn ∧ t = .long ∧ ∃ z, w = .long z) ∨ (i = .dreturn ∧ t = .double ∧ ∃ z, w = .double z) ∨ (i = .freturn ∧ t = .float ∧ ∃ z, w = .float z) ∨ (i = .areturn ∧ t.isReference = true ∧ w.isRef = true))
    (hd : decode c.code pc = .ok (i, 1)) (hQ : Q (some w) T.heap locs) (hC : cells ≤ C) (hN : slots ≤ N) : own_Go p.tables e below (own_Fin s below Q C N) (T.setTop (mkF m pc Ls (w :: rest))) :=
  own_fin X hk (fun q => by rw [hret] at q; cases q) (fun fs hr => retOut X hx hret hn hi hd hr) hQ hC hN
theorem own_retI (X : Stand p l e R s m args below meth c T locs cells slots) (hx : p.tables.exec = Jvm.exec) {Q : Option Value → Heap → List Loc → Prop} {C N : Nat} (hk : meth.locks = false) {pc : Nat} {Ls : Array Slot} {z : Int32} {rest : List Value} (hret : meth.sig.returnType = some .int)
    (hd : decode c.code pc = .ok (.ireturn, 1)) (hQ : Q (some (.int z)) T.heap locs) (hC : cells ≤ C) (hN : slots ≤ N) : own_Go p.tables e below (own_Fin s below Q C N) (T.setTop (mkF m pc Ls (.int z :: rest))) :=
  own_ret X hx hk hret rfl (Or.inl ⟨rfl, Or.inl rfl, z, rfl⟩) hd hQ hC hN
theorem own_retZ (X : Stand p l e R s m args below meth c T locs cells slots) (hx : p.tables.exec = Jvm.exec) {Q : Option Value → Heap → List Loc → Prop} {C N : Nat} (hk : meth.locks = false) {pc : Nat} {Ls : Array Slot} {z z' : Int32} {rest : List Value} (hret : meth.sig.returnType = some .boolean)
    (hd : decode c.code pc = .ok (.ireturn, 1)) (hz : nar .boolean z = z') (hQ : Q (some (.int z')) T.heap locs) (hC : cells ≤ C) (hN : slots ≤ N) : own_Go p.tables e below (own_Fin s below Q C N) (T.setTop (mkF m pc Ls (.int z :: rest))) := by
  subst hz
  exact own_fin X hk (fun q => by rw [hret] at q; cases q) (fun fs hr => retN X hx hret (Or.inl rfl) hd hr) hQ hC hN
theorem own_retA (X : Stand p l e R s m args below meth c T locs cells slots) (hx : p.tables.exec = Jvm.exec) {Q : Option Value → Heap → List Loc → Prop} {C N : Nat} (hk : meth.locks = false) {pc : Nat} {Ls : Array Slot} {w : Value} {t : FieldType} {rest : List Value} (hret : meth.sig.returnType = some t) (ht : t.isReference = true) (hw : w.isRef = true)
    (hd : decode c.code pc = .ok (.areturn, 1)) (hn : narrow t w = w) (hQ : Q (some w) T.heap locs) (hC : cells ≤ C) (hN : slots ≤ N) : own_Go p.tables e below (own_Fin s below Q C N) (T.setTop (mkF m pc Ls (w :: rest))) :=
  own_ret X hx hk hret hn (Or.inr (Or.inr (Or.inr (Or.inr ⟨rfl, ht, hw⟩)))) hd hQ hC hN
theorem own_retJ (X : Stand p l e R s m args below meth c T locs cells slots) (hx : p.tables.exec = Jvm.exec) {Q : Option Value → Heap → List Loc → Prop} {C N : Nat} (hk : meth.locks = false) {pc : Nat} {Ls : Array Slot} {z : Int64} {rest : List Value} (hret : meth.sig.returnType = some .long)
    (hd : decode c.code pc = .ok (.lreturn, 1)) (hQ : Q (some (.long z)) T.heap locs) (hC : cells ≤ C) (hN : slots ≤ N) : own_Go p.tables e below (own_Fin s below Q C N) (T.setTop (mkF m pc Ls (.long z :: rest))) :=
  own_ret X hx hk hret rfl (Or.inr (Or.inl ⟨rfl, rfl, z, rfl⟩)) hd hQ hC hN
theorem own_retV (X : Stand p l e R s m args below meth c T locs cells slots) (hx : p.tables.exec = Jvm.exec) {Q : Option Value → Heap → List Loc → Prop} {C N : Nat} (hk : meth.locks = false) {pc : Nat} {Ls : Array Slot} (hret : meth.sig.returnType = none)
    (hd : decode c.code pc = .ok (.return_, 1)) (hQ : Q none T.heap locs) (hC : cells ≤ C) (hN : slots ≤ N) : own_Go p.tables e below (own_Fin s below Q C N) (T.setTop (mkF m pc Ls [])) :=
  own_fin X hk (fun _ => rfl) (fun fs hr => X.returnOut hx hret hd hr) hQ hC hN
theorem own_lsw0 {tb : Tables} [Ours tb] {target : State} {g : JFrame} (q : At T m c below) (hx : tb.exec = Jvm.exec) (hg : g.method = m) {dflt : Int} {pairs : Array (Int × Int)} {len : Nat} {o : Int} {pc0 pc' : Nat} (hpc : g.pc = pc0) (hd : decode c.code g.pc = .ok (.lookupswitch dflt pairs, len)) {i : Int32} {rest : List Value} (hs : g.stack = .int i :: rest)
    (hoff : lookupswitch.offset pairs.toList dflt i.toInt = o) (hso : (pairs.toList.zip pairs.toList.tail).all (fun q => decide (q.1.1 < q.2.1)) = true) (ho : 0 ≤ (pc0 : Int) + o) (hp : ((pc0 : Int) + o).toNat = pc') (hr : Steps tb e below (T.setTop { g with pc := pc', stack := rest }) target) : Steps tb e below (T.setTop g) target := by
  subst hg hpc hp
  jvm_step q [q.top, hx, hd, hs, hoff, ho, lookupswitch.wp_chain]
  refine ⟨fun a b a1 b1 hm => ?_, hr⟩
  simpa using List.all_eq_true.mp hso _ hm
theorem own_iload_n (X : Stand p l e R s m args below meth c T locs cells slots) (hx : p.tables.exec = Jvm.exec) {F : State → Prop} {pc : Nat} {Ls : Array Slot} {St : List Value} {i : Fin 4} {z : Int32} (hd : decode c.code pc = .ok (.iload_n i, 1)) (hl : Ls[i.val]? = some (.val (.int z))) (pc' : Nat) (hp : pc + 1 = pc') (k : own_Go p.tables e below F (T.setTop (mkF m pc' Ls (.int z :: St)))) : own_Go p.tables e below F (T.setTop (mkF m pc Ls (St))) := by
  subst hp
  exact own_by (fun _ q => XS.iloadN X.here hx rfl hd hl q) k
theorem own_iload (X : Stand p l e R s m args below meth c T locs cells slots) (hx : p.tables.exec = Jvm.exec) {F : State → Prop} {pc : Nat} {Ls : Array Slot} {St : List Value} {i : Nat} {z : Int32} (hd : decode c.code pc = .ok (.iload i, 2)) (hl : Ls[i]? = some (.val (.int z))) (pc' : Nat) (hp : pc + 2 = pc') (k : own_Go p.tables e below F (T.setTop (mkF m pc' Ls (.int z :: St)))) : own_Go p.tables e below F (T.setTop (mkF m pc Ls (St))) := by
  subst hp
  exact own_by (fun _ q => XS.iload X.here hx rfl hd hl q) k
theorem own_istore_n (X : Stand p l e R s m args below meth c T locs cells slots) (hx : p.tables.exec = Jvm.exec) {F : State → Prop} {pc : Nat} {Ls : Array Slot} {St : List Value} {i : Fin 4} {z : Int32} (hd : decode c.code pc = .ok (.istore_n i, 1)) (l' : Array Slot) (hl : storeLocals Ls i.val (.int z) = some l') (pc' : Nat) (hp : pc + 1 = pc') (k : own_Go p.tables e below F (T.setTop (mkF m pc' l' (St)))) : own_Go p.tables e below F (T.setTop (mkF m pc Ls (.int z :: St))) := by
  subst hp
  exact own_by (fun _ q => XS.istoreN X.here hx rfl hd rfl hl q) k
theorem own_istore (X : Stand p l e R s m args below meth c T locs cells slots) (hx : p.tables.exec = Jvm.exec) {F : State → Prop} {pc : Nat} {Ls : Array Slot} {St : List Value} {i : Nat} {z : Int32} (hd : decode c.code pc = .ok (.istore i, 2)) (l' : Array Slot) (hl : storeLocals Ls i (.int z) = some l') (pc' : Nat) (hp : pc + 2 = pc') (k : own_Go p.tables e below F (T.setTop (mkF m pc' l' (St)))) : own_Go p.tables e below F (T.setTop (mkF m pc Ls (.int z :: St))) := by
  subst hp
  exact own_by (fun _ q => XS.istore X.here hx rfl hd rfl hl q) k
theorem own_lload_n (X : Stand p l e R s m args below meth c T locs cells slots) (hx : p.tables.exec = Jvm.exec) {F : State → Prop} {pc : Nat} {Ls : Array Slot} {St : List Value} {i : Fin 4} {z : Int64} (hd : decode c.code pc = .ok (.lload_n i, 1)) (hl : Ls[i.val]? = some (.val (.long z))) (pc' : Nat) (hp : pc + 1 = pc') (k : own_Go p.tables e below F (T.setTop (mkF m pc' Ls (.long z :: St)))) : own_Go p.tables e below F (T.setTop (mkF m pc Ls (St))) := by
  subst hp
  exact own_by (fun _ q => XS.lloadN X.here hx rfl hd hl q) k
theorem own_lload (X : Stand p l e R s m args below meth c T locs cells slots) (hx : p.tables.exec = Jvm.exec) {F : State → Prop} {pc : Nat} {Ls : Array Slot} {St : List Value} {i : Nat} {z : Int64} (hd : decode c.code pc = .ok (.lload i, 2)) (hl : Ls[i]? = some (.val (.long z))) (pc' : Nat) (hp : pc + 2 = pc') (k : own_Go p.tables e below F (T.setTop (mkF m pc' Ls (.long z :: St)))) : own_Go p.tables e below F (T.setTop (mkF m pc Ls (St))) := by
  subst hp
  exact own_by (fun _ q => XS.lload X.here hx rfl hd hl q) k
theorem own_lstore_n (X : Stand p l e R s m args below meth c T locs cells slots) (hx : p.tables.exec = Jvm.exec) {F : State → Prop} {pc : Nat} {Ls : Array Slot} {St : List Value} {i : Fin 4} {z : Int64} (hd : decode c.code pc = .ok (.lstore_n i, 1)) (l' : Array Slot) (hl : storeLocals Ls i.val (.long z) = some l') (pc' : Nat) (hp : pc + 1 = pc') (k : own_Go p.tables e below F (T.setTop (mkF m pc' l' (St)))) : own_Go p.tables e below F (T.setTop (mkF m pc Ls (.long z :: St))) := by
  subst hp
  exact own_by (fun _ q => XS.lstoreN X.here hx rfl hd rfl hl q) k
theorem own_lstore (X : Stand p l e R s m args below meth c T locs cells slots) (hx : p.tables.exec = Jvm.exec) {F : State → Prop} {pc : Nat} {Ls : Array Slot} {St : List Value} {i : Nat} {z : Int64} (hd : decode c.code pc = .ok (.lstore i, 2)) (l' : Array Slot) (hl : storeLocals Ls i (.long z) = some l') (pc' : Nat) (hp : pc + 2 = pc') (k : own_Go p.tables e below F (T.setTop (mkF m pc' l' (St)))) : own_Go p.tables e below F (T.setTop (mkF m pc Ls (.long z :: St))) := by
  subst hp
  exact own_by (fun _ q => XS.lstore X.here hx rfl hd rfl hl q) k
theorem own_aload_n (X : Stand p l e R s m args below meth c T locs cells slots) (hx : p.tables.exec = Jvm.exec) {F : State → Prop} {pc : Nat} {Ls : Array Slot} {St : List Value} {i : Fin 4} {v : Value} (hd : decode c.code pc = .ok (.aload_n i, 1)) (hl : Ls[i.val]? = some (.val v)) (hv : v.isRef = true) (pc' : Nat) (hp : pc + 1 = pc') (k : own_Go p.tables e below F (T.setTop (mkF m pc' Ls (v :: St)))) : own_Go p.tables e below F (T.setTop (mkF m pc Ls (St))) := by
  subst hp
  exact own_by (fun _ q => XS.aloadN X.here hx rfl hd hl hv q) k
theorem own_aload (X : Stand p l e R s m args below meth c T locs cells slots) (hx : p.tables.exec = Jvm.exec) {F : State → Prop} {pc : Nat} {Ls : Array Slot} {St : List Value} {i : Nat} {v : Value} (hd : decode c.code pc = .ok (.aload i, 2)) (hl : Ls[i]? = some (.val v)) (hv : v.isRef = true) (pc' : Nat) (hp : pc + 2 = pc') (k : own_Go p.tables e below F (T.setTop (mkF m pc' Ls (v :: St)))) : own_Go p.tables e below F (T.setTop (mkF m pc Ls (St))) := by
  subst hp
  exact own_by (fun _ q => XS.aload X.here hx rfl hd hl hv q) k
theorem own_astore_n (X : Stand p l e R s m args below meth c T locs cells slots) (hx : p.tables.exec = Jvm.exec) {F : State → Prop} {pc : Nat} {Ls : Array Slot} {St : List Value} {i : Fin 4} {v : Value} (hd : decode c.code pc = .ok (.astore_n i, 1)) (l' : Array Slot) (hv : v.isRef = true) (hl : storeLocals Ls i.val v = some l') (pc' : Nat) (hp : pc + 1 = pc') (k : own_Go p.tables e below F (T.setTop (mkF m pc' l' (St)))) : own_Go p.tables e below F (T.setTop (mkF m pc Ls (v :: St))) := by
  subst hp
  exact own_by (fun _ q => XS.astoreN X.here hx rfl hd rfl hv hl q) k
theorem own_astore (X : Stand p l e R s m args below meth c T locs cells slots) (hx : p.tables.exec = Jvm.exec) {F : State → Prop} {pc : Nat} {Ls : Array Slot} {St : List Value} {i : Nat} {v : Value} (hd : decode c.code pc = .ok (.astore i, 2)) (l' : Array Slot) (hv : v.isRef = true) (hl : storeLocals Ls i v = some l') (pc' : Nat) (hp : pc + 2 = pc') (k : own_Go p.tables e below F (T.setTop (mkF m pc' l' (St)))) : own_Go p.tables e below F (T.setTop (mkF m pc Ls (v :: St))) := by
  subst hp
  exact own_by (fun _ q => XS.astore X.here hx rfl hd rfl hv hl q) k
theorem own_iconst (X : Stand p l e R s m args below meth c T locs cells slots) (hx : p.tables.exec = Jvm.exec) {F : State → Prop} {pc : Nat} {Ls : Array Slot} {St : List Value} {i : Int} (hd : decode c.code pc = .ok (.iconst i, 1)) (z : Int32) (hz : Int32.ofInt i = z) (pc' : Nat) (hp : pc + 1 = pc') (k : own_Go p.tables e below F (T.setTop (mkF m pc' Ls (.int z :: St)))) : own_Go p.tables e below F (T.setTop (mkF m pc Ls (St))) := by
  subst hp hz
  exact own_by (fun _ q => XS.iconst X.here hx rfl hd  q) k
theorem own_bipush (X : Stand p l e R s m args below meth c T locs cells slots) (hx : p.tables.exec = Jvm.exec) {F : State → Prop} {pc : Nat} {Ls : Array Slot} {St : List Value} {i : Int} (hd : decode c.code pc = .ok (.bipush i, 2)) (z : Int32) (hz : (Int8.ofInt i).toInt32 = z) (pc' : Nat) (hp : pc + 2 = pc') (k : own_Go p.tables e below F (T.setTop (mkF m pc' Ls (.int z :: St)))) : own_Go p.tables e below F (T.setTop (mkF m pc Ls (St))) := by
  subst hp hz
  exact own_by (fun _ q => XS.bipush X.here hx rfl hd  q) k
theorem own_sipush (X : Stand p l e R s m args below meth c T locs cells slots) (hx : p.tables.exec = Jvm.exec) {F : State → Prop} {pc : Nat} {Ls : Array Slot} {St : List Value} {i : Int} (hd : decode c.code pc = .ok (.sipush i, 3)) (z : Int32) (hz : (Int16.ofInt i).toInt32 = z) (pc' : Nat) (hp : pc + 3 = pc') (k : own_Go p.tables e below F (T.setTop (mkF m pc' Ls (.int z :: St)))) : own_Go p.tables e below F (T.setTop (mkF m pc Ls (St))) := by
  subst hp hz
  exact own_by (fun _ q => XS.sipush X.here hx rfl hd  q) k
theorem own_lconst (X : Stand p l e R s m args below meth c T locs cells slots) (hx : p.tables.exec = Jvm.exec) {F : State → Prop} {pc : Nat} {Ls : Array Slot} {St : List Value} {i : Fin 2} (hd : decode c.code pc = .ok (.lconst i, 1)) (z : Int64) (hz : Int64.ofNat i = z) (pc' : Nat) (hp : pc + 1 = pc') (k : own_Go p.tables e below F (T.setTop (mkF m pc' Ls (.long z :: St)))) : own_Go p.tables e below F (T.setTop (mkF m pc Ls (St))) := by
  subst hp hz
  exact own_by (fun _ q => XS.lconst X.here hx rfl hd  q) k
theorem own_aconst_null (X : Stand p l e R s m args below meth c T locs cells slots) (hx : p.tables.exec = Jvm.exec) {F : State → Prop} {pc : Nat} {Ls : Array Slot} {St : List Value}  (hd : decode c.code pc = .ok (.aconst_null, 1)) (pc' : Nat) (hp : pc + 1 = pc') (k : own_Go p.tables e below F (T.setTop (mkF m pc' Ls (.null :: St)))) : own_Go p.tables e below F (T.setTop (mkF m pc Ls (St))) := by
  subst hp
  exact own_by (fun _ q => XS.aconstNull X.here hx rfl hd  q) k
theorem own_iadd (X : Stand p l e R s m args below meth c T locs cells slots) (hx : p.tables.exec = Jvm.exec) {F : State → Prop} {pc : Nat} {Ls : Array Slot} {St : List Value} {x y : Int32} (hd : decode c.code pc = .ok (.iadd, 1)) (pc' : Nat) (hp : pc + 1 = pc') (k : own_Go p.tables e below F (T.setTop (mkF m pc' Ls (.int (x + y) :: St)))) : own_Go p.tables e below F (T.setTop (mkF m pc Ls (.int y :: .int x :: St))) := by
  subst hp
  exact own_by (fun _ q => XS.iadd X.here hx rfl hd rfl q) k
theorem own_isub (X : Stand p l e R s m args below meth c T locs cells slots) (hx : p.tables.exec = Jvm.exec) {F : State → Prop} {pc : Nat} {Ls : Array Slot} {St : List Value} {x y : Int32} (hd : decode c.code pc = .ok (.isub, 1)) (pc' : Nat) (hp : pc + 1 = pc') (k : own_Go p.tables e below F (T.setTop (mkF m pc' Ls (.int (x - y) :: St)))) : own_Go p.tables e below F (T.setTop (mkF m pc Ls (.int y :: .int x :: St))) := by
  subst hp
  exact own_by (fun _ q => XS.isub X.here hx rfl hd rfl q) k
theorem own_imul (X : Stand p l e R s m args below meth c T locs cells slots) (hx : p.tables.exec = Jvm.exec) {F : State → Prop} {pc : Nat} {Ls : Array Slot} {St : List Value} {x y : Int32} (hd : decode c.code pc = .ok (.imul, 1)) (pc' : Nat) (hp : pc + 1 = pc') (k : own_Go p.tables e below F (T.setTop (mkF m pc' Ls (.int (x * y) :: St)))) : own_Go p.tables e below F (T.setTop (mkF m pc Ls (.int y :: .int x :: St))) := by
  subst hp
  exact own_by (fun _ q => XS.imul X.here hx rfl hd rfl q) k
theorem own_iand (X : Stand p l e R s m args below meth c T locs cells slots) (hx : p.tables.exec = Jvm.exec) {F : State → Prop} {pc : Nat} {Ls : Array Slot} {St : List Value} {x y : Int32} (hd : decode c.code pc = .ok (.iand, 1)) (pc' : Nat) (hp : pc + 1 = pc') (k : own_Go p.tables e below F (T.setTop (mkF m pc' Ls (.int (x &&& y) :: St)))) : own_Go p.tables e below F (T.setTop (mkF m pc Ls (.int y :: .int x :: St))) := by
  subst hp
  exact own_by (fun _ q => XS.iand X.here hx rfl hd rfl q) k
theorem own_ior (X : Stand p l e R s m args below meth c T locs cells slots) (hx : p.tables.exec = Jvm.exec) {F : State → Prop} {pc : Nat} {Ls : Array Slot} {St : List Value} {x y : Int32} (hd : decode c.code pc = .ok (.ior, 1)) (pc' : Nat) (hp : pc + 1 = pc') (k : own_Go p.tables e below F (T.setTop (mkF m pc' Ls (.int (x ||| y) :: St)))) : own_Go p.tables e below F (T.setTop (mkF m pc Ls (.int y :: .int x :: St))) := by
  subst hp
  exact own_by (fun _ q => XS.ior X.here hx rfl hd rfl q) k
theorem own_ixor (X : Stand p l e R s m args below meth c T locs cells slots) (hx : p.tables.exec = Jvm.exec) {F : State → Prop} {pc : Nat} {Ls : Array Slot} {St : List Value} {x y : Int32} (hd : decode c.code pc = .ok (.ixor, 1)) (pc' : Nat) (hp : pc + 1 = pc') (k : own_Go p.tables e below F (T.setTop (mkF m pc' Ls (.int (x ^^^ y) :: St)))) : own_Go p.tables e below F (T.setTop (mkF m pc Ls (.int y :: .int x :: St))) := by
  subst hp
  exact own_by (fun _ q => XS.ixor X.here hx rfl hd rfl q) k
theorem own_ishl (X : Stand p l e R s m args below meth c T locs cells slots) (hx : p.tables.exec = Jvm.exec) {F : State → Prop} {pc : Nat} {Ls : Array Slot} {St : List Value} {x y : Int32} (hd : decode c.code pc = .ok (.ishl, 1)) (pc' : Nat) (hp : pc + 1 = pc') (k : own_Go p.tables e below F (T.setTop (mkF m pc' Ls (.int (x <<< (y &&& 31)) :: St)))) : own_Go p.tables e below F (T.setTop (mkF m pc Ls (.int y :: .int x :: St))) := by
  subst hp
  exact own_by (fun _ q => XS.ishl X.here hx rfl hd rfl q) k
theorem own_ishr (X : Stand p l e R s m args below meth c T locs cells slots) (hx : p.tables.exec = Jvm.exec) {F : State → Prop} {pc : Nat} {Ls : Array Slot} {St : List Value} {x y : Int32} (hd : decode c.code pc = .ok (.ishr, 1)) (pc' : Nat) (hp : pc + 1 = pc') (k : own_Go p.tables e below F (T.setTop (mkF m pc' Ls (.int (x >>> (y &&& 31)) :: St)))) : own_Go p.tables e below F (T.setTop (mkF m pc Ls (.int y :: .int x :: St))) := by
  subst hp
  exact own_by (fun _ q => XS.ishr X.here hx rfl hd rfl q) k
theorem own_iushr (X : Stand p l e R s m args below meth c T locs cells slots) (hx : p.tables.exec = Jvm.exec) {F : State → Prop} {pc : Nat} {Ls : Array Slot} {St : List Value} {x y : Int32} (hd : decode c.code pc = .ok (.iushr, 1)) (pc' : Nat) (hp : pc + 1 = pc') (k : own_Go p.tables e below F (T.setTop (mkF m pc' Ls (.int ((x.toUInt32 >>> (y &&& 31).toUInt32).toInt32) :: St)))) : own_Go p.tables e below F (T.setTop (mkF m pc Ls (.int y :: .int x :: St))) := by
  subst hp
  exact own_by (fun _ q => XS.iushr X.here hx rfl hd rfl q) k
theorem own_ladd (X : Stand p l e R s m args below meth c T locs cells slots) (hx : p.tables.exec = Jvm.exec) {F : State → Prop} {pc : Nat} {Ls : Array Slot} {St : List Value} {x y : Int64} (hd : decode c.code pc = .ok (.ladd, 1)) (pc' : Nat) (hp : pc + 1 = pc') (k : own_Go p.tables e below F (T.setTop (mkF m pc' Ls (.long (x + y) :: St)))) : own_Go p.tables e below F (T.setTop (mkF m pc Ls (.long y :: .long x :: St))) := by
  subst hp
  exact own_by (fun _ q => XS.ladd X.here hx rfl hd rfl q) k
theorem own_lsub (X : Stand p l e R s m args below meth c T locs cells slots) (hx : p.tables.exec = Jvm.exec) {F : State → Prop} {pc : Nat} {Ls : Array Slot} {St : List Value} {x y : Int64} (hd : decode c.code pc = .ok (.lsub, 1)) (pc' : Nat) (hp : pc + 1 = pc') (k : own_Go p.tables e below F (T.setTop (mkF m pc' Ls (.long (x - y) :: St)))) : own_Go p.tables e below F (T.setTop (mkF m pc Ls (.long y :: .long x :: St))) := by
  subst hp
  exact own_by (fun _ q => XS.lsub X.here hx rfl hd rfl q) k
theorem own_lmul (X : Stand p l e R s m args below meth c T locs cells slots) (hx : p.tables.exec = Jvm.exec) {F : State → Prop} {pc : Nat} {Ls : Array Slot} {St : List Value} {x y : Int64} (hd : decode c.code pc = .ok (.lmul, 1)) (pc' : Nat) (hp : pc + 1 = pc') (k : own_Go p.tables e below F (T.setTop (mkF m pc' Ls (.long (x * y) :: St)))) : own_Go p.tables e below F (T.setTop (mkF m pc Ls (.long y :: .long x :: St))) := by
  subst hp
  exact own_by (fun _ q => XS.lmul X.here hx rfl hd rfl q) k
theorem own_land (X : Stand p l e R s m args below meth c T locs cells slots) (hx : p.tables.exec = Jvm.exec) {F : State → Prop} {pc : Nat} {Ls : Array Slot} {St : List Value} {x y : Int64} (hd : decode c.code pc = .ok (.land, 1)) (pc' : Nat) (hp : pc + 1 = pc') (k : own_Go p.tables e below F (T.setTop (mkF m pc' Ls (.long (x &&& y) :: St)))) : own_Go p.tables e below F (T.setTop (mkF m pc Ls (.long y :: .long x :: St))) := by
  subst hp
  exact own_by (fun _ q => XS.land X.here hx rfl hd rfl q) k
theorem own_lor (X : Stand p l e R s m args below meth c T locs cells slots) (hx : p.tables.exec = Jvm.exec) {F : State → Prop} {pc : Nat} {Ls : Array Slot} {St : List Value} {x y : Int64} (hd : decode c.code pc = .ok (.lor, 1)) (pc' : Nat) (hp : pc + 1 = pc') (k : own_Go p.tables e below F (T.setTop (mkF m pc' Ls (.long (x ||| y) :: St)))) : own_Go p.tables e below F (T.setTop (mkF m pc Ls (.long y :: .long x :: St))) := by
  subst hp
  exact own_by (fun _ q => XS.lor X.here hx rfl hd rfl q) k
theorem own_lxor (X : Stand p l e R s m args below meth c T locs cells slots) (hx : p.tables.exec = Jvm.exec) {F : State → Prop} {pc : Nat} {Ls : Array Slot} {St : List Value} {x y : Int64} (hd : decode c.code pc = .ok (.lxor, 1)) (pc' : Nat) (hp : pc + 1 = pc') (k : own_Go p.tables e below F (T.setTop (mkF m pc' Ls (.long (x ^^^ y) :: St)))) : own_Go p.tables e below F (T.setTop (mkF m pc Ls (.long y :: .long x :: St))) := by
  subst hp
  exact own_by (fun _ q => XS.lxor X.here hx rfl hd rfl q) k
theorem own_lshl (X : Stand p l e R s m args below meth c T locs cells slots) (hx : p.tables.exec = Jvm.exec) {F : State → Prop} {pc : Nat} {Ls : Array Slot} {St : List Value} {x : Int64} {y : Int32} (hd : decode c.code pc = .ok (.lshl, 1)) (pc' : Nat) (hp : pc + 1 = pc') (k : own_Go p.tables e below F (T.setTop (mkF m pc' Ls (.long (x <<< (y &&& 0x3f).toInt64) :: St)))) : own_Go p.tables e below F (T.setTop (mkF m pc Ls (.int y :: .long x :: St))) := by
  subst hp
  exact own_by (fun _ q => XS.lshl X.here hx rfl hd rfl q) k
theorem own_lshr (X : Stand p l e R s m args below meth c T locs cells slots) (hx : p.tables.exec = Jvm.exec) {F : State → Prop} {pc : Nat} {Ls : Array Slot} {St : List Value} {x : Int64} {y : Int32} (hd : decode c.code pc = .ok (.lshr, 1)) (pc' : Nat) (hp : pc + 1 = pc') (k : own_Go p.tables e below F (T.setTop (mkF m pc' Ls (.long (x >>> (y &&& 0x3f).toInt64) :: St)))) : own_Go p.tables e below F (T.setTop (mkF m pc Ls (.int y :: .long x :: St))) := by
  subst hp
  exact own_by (fun _ q => XS.lshr X.here hx rfl hd rfl q) k
theorem own_lushr (X : Stand p l e R s m args below meth c T locs cells slots) (hx : p.tables.exec = Jvm.exec) {F : State → Prop} {pc : Nat} {Ls : Array Slot} {St : List Value} {x : Int64} {y : Int32} (hd : decode c.code pc = .ok (.lushr, 1)) (pc' : Nat) (hp : pc + 1 = pc') (k : own_Go p.tables e below F (T.setTop (mkF m pc' Ls (.long ((x.toUInt64 >>> (y &&& 0x3f).toInt64.toUInt64).toInt64) :: St)))) : own_Go p.tables e below F (T.setTop (mkF m pc Ls (.int y :: .long x :: St))) := by
  subst hp
  exact own_by (fun _ q => XS.lushr X.here hx rfl hd rfl q) k
theorem own_idiv (X : Stand p l e R s m args below meth c T locs cells slots) (hx : p.tables.exec = Jvm.exec) {F : State → Prop} {pc : Nat} {Ls : Array Slot} {St : List Value} {x y : Int32} (hd : decode c.code pc = .ok (.idiv, 1)) (hy : y ≠ 0) (pc' : Nat) (hp : pc + 1 = pc') (k : own_Go p.tables e below F (T.setTop (mkF m pc' Ls (.int (x / y) :: St)))) : own_Go p.tables e below F (T.setTop (mkF m pc Ls (.int y :: .int x :: St))) := by
  subst hp
  exact own_by (fun _ q => XS.idiv X.here hx rfl hd rfl hy q) k
theorem own_ineg (X : Stand p l e R s m args below meth c T locs cells slots) (hx : p.tables.exec = Jvm.exec) {F : State → Prop} {pc : Nat} {Ls : Array Slot} {St : List Value} {x : Int32} (hd : decode c.code pc = .ok (.ineg, 1)) (pc' : Nat) (hp : pc + 1 = pc') (k : own_Go p.tables e below F (T.setTop (mkF m pc' Ls (.int (-x) :: St)))) : own_Go p.tables e below F (T.setTop (mkF m pc Ls (.int x :: St))) := by
  subst hp
  exact own_by (fun _ q => XS.ineg X.here hx rfl hd rfl q) k
theorem own_i2l (X : Stand p l e R s m args below meth c T locs cells slots) (hx : p.tables.exec = Jvm.exec) {F : State → Prop} {pc : Nat} {Ls : Array Slot} {St : List Value} {x : Int32} (hd : decode c.code pc = .ok (.i2l, 1)) (pc' : Nat) (hp : pc + 1 = pc') (k : own_Go p.tables e below F (T.setTop (mkF m pc' Ls (.long (x.toInt64) :: St)))) : own_Go p.tables e below F (T.setTop (mkF m pc Ls (.int x :: St))) := by
  subst hp
  exact own_by (fun _ q => XS.i2l X.here hx rfl hd rfl q) k
theorem own_l2i (X : Stand p l e R s m args below meth c T locs cells slots) (hx : p.tables.exec = Jvm.exec) {F : State → Prop} {pc : Nat} {Ls : Array Slot} {St : List Value} {x : Int64} (hd : decode c.code pc = .ok (.l2i, 1)) (pc' : Nat) (hp : pc + 1 = pc') (k : own_Go p.tables e below F (T.setTop (mkF m pc' Ls (.int (x.toInt32) :: St)))) : own_Go p.tables e below F (T.setTop (mkF m pc Ls (.long x :: St))) := by
  subst hp
  exact own_by (fun _ q => XS.l2i X.here hx rfl hd rfl q) k
theorem own_i2b (X : Stand p l e R s m args below meth c T locs cells slots) (hx : p.tables.exec = Jvm.exec) {F : State → Prop} {pc : Nat} {Ls : Array Slot} {St : List Value} {x : Int32} (hd : decode c.code pc = .ok (.i2b, 1)) (pc' : Nat) (hp : pc + 1 = pc') (k : own_Go p.tables e below F (T.setTop (mkF m pc' Ls (.int (x.toInt8.toInt32) :: St)))) : own_Go p.tables e below F (T.setTop (mkF m pc Ls (.int x :: St))) := by
  subst hp
  exact own_by (fun _ q => XS.i2b X.here hx rfl hd rfl q) k
theorem own_i2c (X : Stand p l e R s m args below meth c T locs cells slots) (hx : p.tables.exec = Jvm.exec) {F : State → Prop} {pc : Nat} {Ls : Array Slot} {St : List Value} {x : Int32} (hd : decode c.code pc = .ok (.i2c, 1)) (pc' : Nat) (hp : pc + 1 = pc') (k : own_Go p.tables e below F (T.setTop (mkF m pc' Ls (.int (x.toUInt32.toUInt16.toUInt32.toInt32) :: St)))) : own_Go p.tables e below F (T.setTop (mkF m pc Ls (.int x :: St))) := by
  subst hp
  exact own_by (fun _ q => XS.i2c X.here hx rfl hd rfl q) k
theorem own_i2s (X : Stand p l e R s m args below meth c T locs cells slots) (hx : p.tables.exec = Jvm.exec) {F : State → Prop} {pc : Nat} {Ls : Array Slot} {St : List Value} {x : Int32} (hd : decode c.code pc = .ok (.i2s, 1)) (pc' : Nat) (hp : pc + 1 = pc') (k : own_Go p.tables e below F (T.setTop (mkF m pc' Ls (.int (x.toInt16.toInt32) :: St)))) : own_Go p.tables e below F (T.setTop (mkF m pc Ls (.int x :: St))) := by
  subst hp
  exact own_by (fun _ q => XS.i2s X.here hx rfl hd rfl q) k
theorem own_lcmp (X : Stand p l e R s m args below meth c T locs cells slots) (hx : p.tables.exec = Jvm.exec) {F : State → Prop} {pc : Nat} {Ls : Array Slot} {St : List Value} {x y : Int64} (hd : decode c.code pc = .ok (.lcmp, 1)) (pc' : Nat) (hp : pc + 1 = pc') (k : own_Go p.tables e below F (T.setTop (mkF m pc' Ls (.int (lcmpW x y) :: St)))) : own_Go p.tables e below F (T.setTop (mkF m pc Ls (.long y :: .long x :: St))) := by
  subst hp
  exact own_by (fun _ q => XS.lcmp X.here hx rfl hd rfl q) k
theorem own_iinc (X : Stand p l e R s m args below meth c T locs cells slots) (hx : p.tables.exec = Jvm.exec) {F : State → Prop} {pc : Nat} {Ls : Array Slot} {St : List Value} {i : Nat} {cst : Int} {x : Int32} (hd : decode c.code pc = .ok (.iinc i cst, 3)) (l' : Array Slot) (hl : Ls[i]? = some (.val (.int x))) (hl' : storeLocals Ls i (.int (x + Int32.ofInt cst)) = some l') (pc' : Nat) (hp : pc + 3 = pc') (k : own_Go p.tables e below F (T.setTop (mkF m pc' l' (St)))) : own_Go p.tables e below F (T.setTop (mkF m pc Ls (St))) := by
  subst hp
  exact own_by (fun _ q => XS.iinc X.here hx rfl hd hl hl' q) k
theorem own_dup (X : Stand p l e R s m args below meth c T locs cells slots) (hx : p.tables.exec = Jvm.exec) {F : State → Prop} {pc : Nat} {Ls : Array Slot} {St : List Value} {v : Value} (hd : decode c.code pc = .ok (.dup, 1)) (hc : v.category = 1) (pc' : Nat) (hp : pc + 1 = pc') (k : own_Go p.tables e below F (T.setTop (mkF m pc' Ls (v :: v :: St)))) : own_Go p.tables e below F (T.setTop (mkF m pc Ls (v :: St))) := by
  subst hp
  exact own_by (fun _ q => XS.dup X.here hx rfl hd rfl hc q) k
theorem own_pop (X : Stand p l e R s m args below meth c T locs cells slots) (hx : p.tables.exec = Jvm.exec) {F : State → Prop} {pc : Nat} {Ls : Array Slot} {St : List Value} {v : Value} (hd : decode c.code pc = .ok (.pop, 1)) (hc : v.category = 1) (pc' : Nat) (hp : pc + 1 = pc') (k : own_Go p.tables e below F (T.setTop (mkF m pc' Ls (St)))) : own_Go p.tables e below F (T.setTop (mkF m pc Ls (v :: St))) := by
  subst hp
  exact own_by (fun _ q => XS.pop X.here hx rfl hd rfl hc q) k
theorem own_dup_x1 (X : Stand p l e R s m args below meth c T locs cells slots) (hx : p.tables.exec = Jvm.exec) {F : State → Prop} {pc : Nat} {Ls : Array Slot} {St : List Value} {v w : Value} (hd : decode c.code pc = .ok (.dup_x1, 1)) (hc : v.category = 1) (hc' : w.category = 1) (pc' : Nat) (hp : pc + 1 = pc') (k : own_Go p.tables e below F (T.setTop (mkF m pc' Ls (v :: w :: v :: St)))) : own_Go p.tables e below F (T.setTop (mkF m pc Ls (v :: w :: St))) := by
  subst hp
  exact own_by (fun _ q => XS.dupX1 X.here hx rfl hd rfl hc hc' q) k
theorem own_goto (X : Stand p l e R s m args below meth c T locs cells slots) (hx : p.tables.exec = Jvm.exec) {F : State → Prop} {pc : Nat} {Ls : Array Slot} {St : List Value}  {o : Int} (hd : decode c.code pc = .ok (.goto o, 3)) (pc' : Nat) (ho : 0 ≤ (pc : Int) + o) (hp : ((pc : Int) + o).toNat = pc') (k : own_Go p.tables e below F (T.setTop (mkF m pc' Ls (St)))) : own_Go p.tables e below F (T.setTop (mkF m pc Ls (St))) :=
  own_by (fun _ q => XS.goto X.here hx rfl (pc0 := pc) rfl hd  ho hp q) k
theorem own_ifY (X : Stand p l e R s m args below meth c T locs cells slots) (hx : p.tables.exec = Jvm.exec) {F : State → Prop} {pc : Nat} {Ls : Array Slot} {St : List Value} {cd : ClassFile.Cond} {x : Int32} {o : Int} (hd : decode c.code pc = .ok (.ifCond cd o, 3)) (hc : ifCond.holds cd x = true) (pc' : Nat) (ho : 0 ≤ (pc : Int) + o) (hp : ((pc : Int) + o).toNat = pc') (k : own_Go p.tables e below F (T.setTop (mkF m pc' Ls (St)))) : own_Go p.tables e below F (T.setTop (mkF m pc Ls (.int x :: St))) :=
  own_by (fun _ q => XS.ifYes X.here hx rfl (pc0 := pc) rfl hd rfl hc ho hp q) k
theorem own_icmpY (X : Stand p l e R s m args below meth c T locs cells slots) (hx : p.tables.exec = Jvm.exec) {F : State → Prop} {pc : Nat} {Ls : Array Slot} {St : List Value} {cd : ClassFile.Cond} {x y : Int32} {o : Int} (hd : decode c.code pc = .ok (.if_icmp cd o, 3)) (hc : if_icmp.holds cd x y = true) (pc' : Nat) (ho : 0 ≤ (pc : Int) + o) (hp : ((pc : Int) + o).toNat = pc') (k : own_Go p.tables e below F (T.setTop (mkF m pc' Ls (St)))) : own_Go p.tables e below F (T.setTop (mkF m pc Ls (.int y :: .int x :: St))) :=
  own_by (fun _ q => XS.icmpYes X.here hx rfl (pc0 := pc) rfl hd rfl hc ho hp q) k
theorem own_ifnullY (X : Stand p l e R s m args below meth c T locs cells slots) (hx : p.tables.exec = Jvm.exec) {F : State → Prop} {pc : Nat} {Ls : Array Slot} {St : List Value}  {o : Int} (hd : decode c.code pc = .ok (.ifnull o, 3)) (pc' : Nat) (ho : 0 ≤ (pc : Int) + o) (hp : ((pc : Int) + o).toNat = pc') (k : own_Go p.tables e below F (T.setTop (mkF m pc' Ls (St)))) : own_Go p.tables e below F (T.setTop (mkF m pc Ls (.null :: St))) :=
  own_by (fun _ q => XS.ifnullYes X.here hx rfl (pc0 := pc) rfl hd rfl ho hp q) k
theorem own_ifnonnullY (X : Stand p l e R s m args below meth c T locs cells slots) (hx : p.tables.exec = Jvm.exec) {F : State → Prop} {pc : Nat} {Ls : Array Slot} {St : List Value} {b : Addr} {o : Int} (hd : decode c.code pc = .ok (.ifnonnull o, 3)) (pc' : Nat) (ho : 0 ≤ (pc : Int) + o) (hp : ((pc : Int) + o).toNat = pc') (k : own_Go p.tables e below F (T.setTop (mkF m pc' Ls (St)))) : own_Go p.tables e below F (T.setTop (mkF m pc Ls (.ref b :: St))) :=
  own_by (fun _ q => XS.ifnonnullYes X.here hx rfl (pc0 := pc) rfl hd rfl ho hp q) k
theorem own_ifN (X : Stand p l e R s m args below meth c T locs cells slots) (hx : p.tables.exec = Jvm.exec) {F : State → Prop} {pc : Nat} {Ls : Array Slot} {St : List Value} {o : Int} {cd : ClassFile.Cond} {x : Int32} (hd : decode c.code pc = .ok (.ifCond cd o, 3)) (hc : ifCond.holds cd x = false) (pc' : Nat) (hp : pc + 3 = pc') (k : own_Go p.tables e below F (T.setTop (mkF m pc' Ls (St)))) : own_Go p.tables e below F (T.setTop (mkF m pc Ls (.int x :: St))) := by
  subst hp
  exact own_by (fun _ q => XS.ifNo X.here hx rfl hd rfl hc q) k
theorem own_icmpN (X : Stand p l e R s m args below meth c T locs cells slots) (hx : p.tables.exec = Jvm.exec) {F : State → Prop} {pc : Nat} {Ls : Array Slot} {St : List Value} {o : Int} {cd : ClassFile.Cond} {x y : Int32} (hd : decode c.code pc = .ok (.if_icmp cd o, 3)) (hc : if_icmp.holds cd x y = false) (pc' : Nat) (hp : pc + 3 = pc') (k : own_Go p.tables e below F (T.setTop (mkF m pc' Ls (St)))) : own_Go p.tables e below F (T.setTop (mkF m pc Ls (.int y :: .int x :: St))) := by
  subst hp
  exact own_by (fun _ q => XS.icmpNo X.here hx rfl hd rfl hc q) k
theorem own_ifnullN (X : Stand p l e R s m args below meth c T locs cells slots) (hx : p.tables.exec = Jvm.exec) {F : State → Prop} {pc : Nat} {Ls : Array Slot} {St : List Value} {o : Int} {b : Addr} (hd : decode c.code pc = .ok (.ifnull o, 3)) (pc' : Nat) (hp : pc + 3 = pc') (k : own_Go p.tables e below F (T.setTop (mkF m pc' Ls (St)))) : own_Go p.tables e below F (T.setTop (mkF m pc Ls (.ref b :: St))) := by
  subst hp
  exact own_by (fun _ q => XS.ifnullNo X.here hx rfl hd rfl q) k
theorem own_ifnonnullN (X : Stand p l e R s m args below meth c T locs cells slots) (hx : p.tables.exec = Jvm.exec) {F : State → Prop} {pc : Nat} {Ls : Array Slot} {St : List Value} {o : Int} (hd : decode c.code pc = .ok (.ifnonnull o, 3)) (pc' : Nat) (hp : pc + 3 = pc') (k : own_Go p.tables e below F (T.setTop (mkF m pc' Ls (St)))) : own_Go p.tables e below F (T.setTop (mkF m pc Ls (.null :: St))) := by
  subst hp
  exact own_by (fun _ q => XS.ifnonnullNo X.here hx rfl hd rfl q) k
theorem own_irem (X : Stand p l e R s m args below meth c T locs cells slots) (hx : p.tables.exec = Jvm.exec) {F : State → Prop} {pc : Nat} {Ls : Array Slot} {St : List Value} {x y : Int32} (hd : decode c.code pc = .ok (.irem, 1)) (hy : y ≠ 0) (pc' : Nat) (hp : pc + 1 = pc') (k : own_Go p.tables e below F (T.setTop (mkF m pc' Ls (.int (x % y) :: St)))) : own_Go p.tables e below F (T.setTop (mkF m pc Ls (.int y :: .int x :: St))) := by
  subst hp
  exact own_by (fun _ q => iremM X hx rfl hd rfl hy q) k
theorem own_acmp (X : Stand p l e R s m args below meth c T locs cells slots) (hx : p.tables.exec = Jvm.exec) {F : State → Prop} {pc : Nat} {Ls : Array Slot} {St : List Value} {cd : ACond} {x y : Value} {o : Int} (same : Bool) (hd : decode c.code pc = .ok (.if_acmp cd o, 3)) (h1 : x.isRef = true) (h2 : y.isRef = true) (hq : decide (x = y) = same) (pc' : Nat) (ho : 0 ≤ (pc : Int) + o) (hp : pc' = if acV cd same = true then ((pc : Int) + o).toNat else pc + 3) (k : own_Go p.tables e below F (T.setTop (mkF m pc' Ls St))) : own_Go p.tables e below F (T.setTop (mkF m pc Ls (y :: x :: St))) :=
  own_by (fun _ q => Jvm.RoadKit.acmp (g := mkF m pc Ls (y :: x :: St)) X hx rfl h1 h2 (pc0 := pc) rfl hd rfl hq ho hp q) k
theorem own_ldc (X : Stand p l e R s m args below meth c T locs cells slots) (hx : p.tables.exec = Jvm.exec) {F : State → Prop} {pc : Nat} {Ls : Array Slot} {St : List Value} (hZ : Z.Warmed39 s.vm) {own : String} {i : Nat} {z : Int32} (hown : s.vm.findClass own = some m.cls) (w : (Cond.constant own i z).before a0 Z = true) (hd : decode c.code pc = .ok (.ldc i, 2)) (pc' : Nat) (hp : pc + 2 = pc') (k : own_Go p.tables e below F (T.setTop (mkF m pc' Ls (.int z :: St)))) : own_Go p.tables e below F (T.setTop (mkF m pc Ls St)) := by
  subst hp
  exact own_by (fun _ q => X.ldcInt hx hown (mvT hZ w) (g := mkF m pc Ls St) rfl hd _ q) k
theorem own_getS (X : Stand p l e R s m args below meth c T locs cells slots) (hx : p.tables.exec = Jvm.exec) {F : State → Prop} {pc : Nat} {Ls : Array Slot} {St : List Value} (hZ : Z.Warmed39 s.vm) {own R0 O n d host : String} {i : Nat} (hown : s.vm.findClass own = some m.cls) (w : (Cond.fieldLink own i R0 n d).before a0 Z = true ∨ (Cond.fieldLinkNest own i R0 n d host).before a0 Z = true) (via : Via Z R0 O n d) (eT : T.heap = h) {v : Value} (S : Sta Z h O n d v) (hd : decode c.code pc = .ok (.getstatic i, 3)) (pc' : Nat) (hp : pc + 3 = pc')
    (k : ∀ T', Stand p l e R s m args below meth c T' locs cells slots → T'.heap = h → own_Go p.tables e below F (T'.setTop (mkF m pc' Ls (v :: St)))) : own_Go p.tables e below F (T.setTop (mkF m pc Ls St)) := by
  subst hp
  obtain ⟨T', X', e', st⟩ := getS2 X hx hZ hown w via eT S (g := mkF m pc Ls St) rfl hd
  exact own_by st (k T' X' e')
theorem own_getF (X : Stand p l e R s m args below meth c T locs cells slots) (hx : p.tables.exec = Jvm.exec) {F : State → Prop} {pc : Nat} {Ls : Array Slot} {St : List Value} (hZ : Z.Warmed39 s.vm) {own R0 O n d host : String} {i : Nat} (hown : s.vm.findClass own = some m.cls) (w : (Cond.fieldLink own i R0 n d).before a0 Z = true ∨ (Cond.fieldLinkNest own i R0 n d host).before a0 Z = true) (via : Via Z R0 O n d) (eT : T.heap = h) {a : Addr} {v : Value} (S : Fld Z h a O n d v) (hd : decode c.code pc = .ok (.getfield i, 3)) (pc' : Nat) (hp : pc + 3 = pc')
    (k : ∀ T', Stand p l e R s m args below meth c T' locs cells slots → T'.heap = h → own_Go p.tables e below F (T'.setTop (mkF m pc' Ls (v :: St)))) : own_Go p.tables e below F (T.setTop (mkF m pc Ls (.ref a :: St))) := by
  subst hp
  obtain ⟨T', X', e', st⟩ := getF X hx hZ hown w via eT S (g := mkF m pc Ls (.ref a :: St)) rfl rfl hd
  exact own_by st (k T' X' e')
theorem own_lsw (X : Stand p l e R s m args below meth c T locs cells slots) (hx : p.tables.exec = Jvm.exec) {F : State → Prop} {pc : Nat} {Ls : Array Slot} {St : List Value} {dflt : Int} {pairs : Array (Int × Int)} {len : Nat} {i : Int32} (o : Int) (hd : decode c.code pc = .ok (.lookupswitch dflt pairs, len)) (hoff : lookupswitch.offset pairs.toList dflt i.toInt = o) (hso : (pairs.toList.zip pairs.toList.tail).all (fun q => decide (q.1.1 < q.2.1)) = true) (pc' : Nat) (ho : 0 ≤ (pc : Int) + o) (hp : ((pc : Int) + o).toNat = pc') (k : own_Go p.tables e below F (T.setTop (mkF m pc' Ls St))) : own_Go p.tables e below F (T.setTop (mkF m pc Ls (.int i :: St))) :=
  own_by (fun _ q => own_lsw0 X.here hx rfl (pc0 := pc) rfl hd rfl hoff hso ho hp q) k
theorem own_tsw (X : Stand p l e R s m args below meth c T locs cells slots) (hx : p.tables.exec = Jvm.exec) {F : State → Prop} {pc : Nat} {Ls : Array Slot} {St : List Value} {dflt lo hi : Int} {offs : Array Int} {len : Nat} {i : Int32} (o : Int) (hd : decode c.code pc = .ok (.tableswitch dflt lo hi offs, len)) (hin : ¬ (i.toInt < lo ∨ i.toInt > hi)) (hoff : offs[(i.toInt - lo).toNat]? = some o) (pc' : Nat) (ho : 0 ≤ (pc : Int) + o) (hp : ((pc : Int) + o).toNat = pc') (k : own_Go p.tables e below F (T.setTop (mkF m pc' Ls St))) : own_Go p.tables e below F (T.setTop (mkF m pc Ls (.int i :: St))) :=
  own_by (fun _ q => XS.tswIn X.here hx rfl (pc0 := pc) rfl hd rfl hin hoff ho hp q) k
theorem own_tswD (X : Stand p l e R s m args below meth c T locs cells slots) (hx : p.tables.exec = Jvm.exec) {F : State → Prop} {pc : Nat} {Ls : Array Slot} {St : List Value} {dflt lo hi : Int} {offs : Array Int} {len : Nat} {i : Int32} (hd : decode c.code pc = .ok (.tableswitch dflt lo hi offs, len)) (hout : i.toInt < lo ∨ i.toInt > hi) (pc' : Nat) (ho : 0 ≤ (pc : Int) + dflt) (hp : ((pc : Int) + dflt).toNat = pc') (k : own_Go p.tables e below F (T.setTop (mkF m pc' Ls St))) : own_Go p.tables e below F (T.setTop (mkF m pc Ls (.int i :: St))) :=
  own_by (fun _ q => XS.tswOut X.here hx rfl (pc0 := pc) rfl hd rfl hout ho hp q) k

theorem own_topI {F : State → Prop} {pc : Nat} {Ls : Array Slot} {St : List Value} {x : Int32} (z : Int32) (hz : x = z) (k : own_Go p.tables e below F (T.setTop (mkF m pc Ls (.int z :: St)))) : own_Go p.tables e below F (T.setTop (mkF m pc Ls (.int x :: St))) := by
  subst hz
  exact k
theorem own_topJ {F : State → Prop} {pc : Nat} {Ls : Array Slot} {St : List Value} {x : Int64} (z : Int64) (hz : x = z) (k : own_Go p.tables e below F (T.setTop (mkF m pc Ls (.long z :: St)))) : own_Go p.tables e below F (T.setTop (mkF m pc Ls (.long x :: St))) := by
  subst hz
  exact k
theorem own_lcmp0 (x : Int64) : lcmpW x x = 0 := by simp [lcmpW]
theorem own_lceq (x y : Int64) : lcmpW x y = (0 : Int32) ↔ x = y := by rw [lcW]; exact lc_eq x y
theorem own_iincC (X : Stand p l e R s m args below meth c T locs cells slots) (hx : p.tables.exec = Jvm.exec) {F : State → Prop} {pc : Nat} {Ls : Array Slot} {St : List Value} {i : Nat} {cst : Int} {x : Int32} (hd : decode c.code pc = .ok (.iinc i cst, 3)) (l' : Array Slot) (hl : Ls[i]? = some (.val (.int x))) (z : Int32) (hz : x + Int32.ofInt cst = z) (hl' : storeLocals Ls i (.int z) = some l') (pc' : Nat) (hp : pc + 3 = pc') (k : own_Go p.tables e below F (T.setTop (mkF m pc' l' St))) : own_Go p.tables e below F (T.setTop (mkF m pc Ls St)) := by
  subst hz
  exact own_iinc X hx hd l' hl hl' pc' hp k
/-- a body's contract: y, entered with 'as' over the heap h, ends, and Q holds of what it returns, of the heap and of the places written -/
abbrev own_Met (l : Launch) (y : MethodName) (bytes : ByteArray) (ml : Nat) (ret : Option FieldType) (ws : List Cond) (rm : Room) (Z : State) (as : Array Value) (h : Heap) (Q : Option Value → Heap → List Loc → Prop) : Prop :=
  MetFree l y (head1 (Jvm.Cond.code y bytes ml ret :: ws) rm) (fun a U => a = as ∧ Z.Warmed39 U.vm ∧ U.heap = h) (fun _ _ _ _ _ => True) (fun _ U o U' => ∃ v L, o = .returned v ∧ Q v U'.heap L ∧ FrameEnd U o U' L rm.cells rm.slots)
theorem own_met {y : MethodName} {bytes : ByteArray} {ml : Nat} {ret : Option FieldType} {ws : List Cond} {rm : Room} {as : Array Value} {Q : Option Value → Heap → List Loc → Prop} (hp : plainFor y = true)
    (body : ∀ (p : Program) (e : Env) (s : State) (m : MethodId) (below : List Frame) (meth : Method) (c : Code) (T0 : State), p.tables.exec = Jvm.exec → c.code = bytes → c.maxLocals = ml → s.vm.findClass y.cls = some m.cls → meth.sig.returnType = ret → meth.locks = false → meth.name = y.name → Z.Warmed39 s.vm →
      Stand p l e rm s m as below meth c T0 [] 0 0 → T0.heap = h → own_Go p.tables e below (own_Fin s below Q rm.cells rm.slots) (T0.setTop (entryFrame m as ml))) : own_Met l y bytes ml ret ws rm Z as h Q := by
  refine MetFree.of_bodySF hp hisR ?_
  intro p e s m args below meth c s₁ Bd hml0 hP hK
  obtain ⟨rfl, hZ, hh⟩ := hP
  have e0 : s₁.heap = h := by rw [← hh, Bd.state]; rfl
  obtain ⟨t, h1, o, h2, h3, h4⟩ := body p e s m below meth c s₁ Bd.exec Bd.bytes hml0 (findClass_of_methodNamed Bd.named) Bd.returns (BodyLoose.notSynchronized Bd) (name_of_methodNamed Bd.named Bd.method).1 hZ (Stand.of_body Bd) e0
  exact ⟨t, o, h1, h2, h3, h4⟩
theorem own_callS (X : Stand p l e R s m args below meth c T locs cells slots) (hx : p.tables.exec = Jvm.exec) (hZ : Z.Warmed39 s.vm) {own : String} {index : Nat} {y : MethodName} {bytes : ByteArray} {maxL : Nat} {ret : Option FieldType} {rm : Room} (hown : s.vm.findClass own = some m.cls)
    (w1 : (Cond.methodLink own index y).before a0 Z = true) (w2 : (Cond.static y).before a0 Z = true) (w3 : (Cond.initialized y.cls).before a0 Z = true) (w4 : (Cond.code y bytes maxL ret).before a0 Z = true) (hy : y.cls ≠ "java/lang/invoke/MethodHandle" ∧ y.cls ≠ "java/lang/invoke/VarHandle")
    {Q : Option Value → Heap → List Loc → Prop} (argsL rest : List Value) (W : Nat) (hM : own_Met l y bytes maxL ret [] rm Z argsL.toArray h Q) (hf : rm.frames + 1 ≤ R.frames) (hl : W + (maxL + 11) + rm.locals ≤ R.locals) (eT : T.heap = h) {pc : Nat} {Ls : Array Slot} (hsize : Ls.size = c.maxLocals)
    (hlen : ∀ sig, parseMethodDescriptor y.desc = some sig → argsL.length = sig.parameters.length) (hW : 2 * 0 + (rest.map fun v => v.category).sum ≤ W) (hd : decode c.code pc = .ok (.invokestatic index, 3)) (hC : cells + rm.cells ≤ R.cells) (hN : slots + rm.slots ≤ R.slots) :
    ∃ (v : Option Value) (T' : State) (L : List Loc), Stand p l e R s m args below meth c T' (locs ++ L) (cells + rm.cells) (slots + rm.slots) ∧ Q v T'.heap L ∧ ∀ target, Steps p.tables e below (T'.setTop (mkF m (pc + 3) Ls (v.toList ++ rest))) target → Steps p.tables e below (T.setTop (mkF m pc Ls (argsL.reverse ++ rest))) target := by
  obtain ⟨v, _, ⟨T', L', k', n'⟩, -, X', ⟨L, hQ, h1, h2, h3⟩, st⟩ := Jvm.LawKit.callS X hx (y := y) hown (mvT hZ w1) (mvT hZ w2) (mvT hZ w3) (mvT hZ w4) hy (backOf (W := W) hM hZ w4 w3 hf hl) (g := mkF m pc Ls (argsL.reverse ++ rest)) rfl hsize (argsL := argsL) (rest := rest) hlen rfl hW hd (fun _ _ => ⟨rfl, eT, hC, hN⟩)
  dsimp only [Pt.U, Pt.locs, Pt.cells, Pt.slots] at X' h1 h2 h3 st hQ
  subst h1 h2 h3
  exact ⟨v, T', L, X', hQ, st⟩
theorem own_callV (X : Stand p l e R s m args below meth c T locs cells slots) (hx : p.tables.exec = Jvm.exec) (hZ : Z.Warmed39 s.vm) {own C : String} {index : Nat} {y z : MethodName} {bytes : ByteArray} {maxL : Nat} {ret : Option FieldType} {rm : Room} (hown : s.vm.findClass own = some m.cls)
    (w1 : (Cond.methodLink own index y).before a0 Z = true) (w2 : (Cond.declares y).before a0 Z = true) (hnf : NotFace s y) (w3 : (Cond.selects C y z).before a0 Z = true) (w4 : (Cond.instanceMethod z).before a0 Z = true) (w5 : (Cond.initialized z.cls).before a0 Z = true) (w6 : (Cond.code z bytes maxL ret).before a0 Z = true) (hy : y.cls ≠ "java/lang/invoke/MethodHandle" ∧ y.cls ≠ "java/lang/invoke/VarHandle")
    {Q : Option Value → Heap → List Loc → Prop} (b : Addr) (argsL rest : List Value) (W : Nat) (hM : own_Met l z bytes maxL ret [] rm Z (.ref b :: argsL).toArray h Q) (hf : rm.frames + 1 ≤ R.frames) (hl : W + (maxL + 11) + rm.locals ≤ R.locals) (eT : T.heap = h) (E : Exa Z h b C) {pc : Nat} {Ls : Array Slot} (hsize : Ls.size = c.maxLocals)
    (hlen : ∀ sig, parseMethodDescriptor y.desc = some sig → argsL.length = sig.parameters.length) (hW : 2 * 0 + (rest.map fun v => v.category).sum ≤ W) (hd : decode c.code pc = .ok (.invokevirtual index, 3)) (hC : cells + rm.cells ≤ R.cells) (hN : slots + rm.slots ≤ R.slots) :
    ∃ (v : Option Value) (T' : State) (L : List Loc), Stand p l e R s m args below meth c T' (locs ++ L) (cells + rm.cells) (slots + rm.slots) ∧ Q v T'.heap L ∧ ∀ target, Steps p.tables e below (T'.setTop (mkF m (pc + 3) Ls (v.toList ++ rest))) target → Steps p.tables e below (T.setTop (mkF m pc Ls (argsL.reverse ++ .ref b :: rest))) target := by
  obtain ⟨cq, kq, qa, qb, qc⟩ := isOf hZ eT E
  obtain ⟨v, _, ⟨T', L', k', n'⟩, -, X', ⟨L, hQ, h1, h2, h3⟩, st⟩ := X.virtualBack hx (y := y) (z := z) hown (mvT hZ w1) (mvT hZ w2) hnf (mvT hZ w3) (mvT hZ w4) hy (backOf (W := W) hM hZ w6 w5 hf hl) qa qc (g := mkF m pc Ls (argsL.reverse ++ .ref b :: rest)) rfl hsize (Steps.refl _) (argsL := argsL) (rest := rest) hlen rfl hW hd (fun _ _ => ⟨rfl, eT, hC, hN⟩)
  dsimp only [Pt.U, Pt.locs, Pt.cells, Pt.slots] at X' h1 h2 h3 st hQ
  subst h1 h2 h3
  exact ⟨v, T', L, X', hQ, fun t k => st.trans k⟩
theorem own_callU (X : Stand p l e R s m args below meth c T locs cells slots) (hx : p.tables.exec = Jvm.exec) (hZ : Z.Warmed39 s.vm) {own C owner : String} {index : Nat} {x z : MethodName} {bytes : ByteArray} {maxL : Nat} {ret : Option FieldType} {rm : Room} (hown : s.vm.findClass own = some m.cls)
    (w1 : (Cond.methodLink own index x).before a0 Z = true) (w2 : (Cond.sameMethod x.cls owner x.name x.desc).before a0 Z = true) (w2' : (Cond.declares ⟨owner, x.name, x.desc⟩).before a0 Z = true) (hy : owner ≠ "java/lang/invoke/MethodHandle" ∧ owner ≠ "java/lang/invoke/VarHandle") (w3 : (Cond.selects C x z).before a0 Z = true) (w4 : (Cond.instanceMethod z).before a0 Z = true) (w5 : (Cond.initialized z.cls).before a0 Z = true) (w6 : (Cond.code z bytes maxL ret).before a0 Z = true)
    {Q : Option Value → Heap → List Loc → Prop} (b : Addr) (argsL rest : List Value) (W : Nat) (hM : own_Met l z bytes maxL ret [] rm Z (.ref b :: argsL).toArray h Q) (hf : rm.frames + 1 ≤ R.frames) (hl : W + (maxL + 11) + rm.locals ≤ R.locals) (eT : T.heap = h) (E : Exa Z h b C) {pc : Nat} {Ls : Array Slot} (hsize : Ls.size = c.maxLocals)
    (hlen : ∀ sig, parseMethodDescriptor x.desc = some sig → argsL.length = sig.parameters.length) (hW : 2 * 0 + (rest.map fun v => v.category).sum ≤ W) (hd : decode c.code pc = .ok (.invokevirtual index, 3)) (hC : cells + rm.cells ≤ R.cells) (hN : slots + rm.slots ≤ R.slots) :
    ∃ (v : Option Value) (T' : State) (L : List Loc), Stand p l e R s m args below meth c T' (locs ++ L) (cells + rm.cells) (slots + rm.slots) ∧ Q v T'.heap L ∧ ∀ target, Steps p.tables e below (T'.setTop (mkF m (pc + 3) Ls (v.toList ++ rest))) target → Steps p.tables e below (T.setTop (mkF m pc Ls (argsL.reverse ++ .ref b :: rest))) target := by
  obtain ⟨cq, kq, qa, qb, qc⟩ := isOf hZ eT E
  obtain ⟨v, _, ⟨T', L', k', n'⟩, -, X', ⟨L, hQ, h1, h2, h3⟩, st⟩ := X.virtualBackUp hx (x := x) (y := z) (owner := owner) hown (mvT hZ w1) (mvT hZ w2) (mvT hZ w2') hy (mvT hZ w3) (mvT hZ w4) (backOf (W := W) hM hZ w6 w5 hf hl) qa qc (g := mkF m pc Ls (argsL.reverse ++ .ref b :: rest)) rfl hsize (Steps.refl _) (argsL := argsL) (rest := rest) hlen rfl hW hd (fun _ _ => ⟨rfl, eT, hC, hN⟩)
  dsimp only [Pt.U, Pt.locs, Pt.cells, Pt.slots] at X' h1 h2 h3 st hQ
  subst h1 h2 h3
  exact ⟨v, T', L, X', hQ, fun t k => st.trans k⟩
theorem own_callN (X : Stand p l e R s m args below meth c T locs cells slots) (hx : p.tables.exec = Jvm.exec) (hZ : Z.Warmed39 s.vm) {own : String} {index : Nat} {y : MethodName} {bytes : ByteArray} {maxL : Nat} {rm : Room} (hy1 : y.name = "<init>") (hown : s.vm.findClass own = some m.cls)
    (w1 : (Cond.methodLink own index y).before a0 Z = true) (w4 : (Cond.instanceMethod y).before a0 Z = true) (w5 : (Cond.initialized y.cls).before a0 Z = true) (w6 : (Cond.code y bytes maxL none).before a0 Z = true) (hy : y.cls ≠ "java/lang/invoke/MethodHandle" ∧ y.cls ≠ "java/lang/invoke/VarHandle")
    {Q : Option Value → Heap → List Loc → Prop} (b : Addr) (argsL rest : List Value) (W : Nat) (hM : own_Met l y bytes maxL none [] rm Z (.ref b :: argsL).toArray h Q) (hf : rm.frames + 1 ≤ R.frames) (hl : W + (maxL + 11) + rm.locals ≤ R.locals) (eT : T.heap = h) {pc : Nat} {Ls : Array Slot} (hsize : Ls.size = c.maxLocals)
    (hlen : ∀ sig, parseMethodDescriptor y.desc = some sig → argsL.length = sig.parameters.length) (hW : 2 * 0 + (rest.map fun v => v.category).sum ≤ W) (hd : decode c.code pc = .ok (.invokespecial index, 3)) (hC : cells + rm.cells ≤ R.cells) (hN : slots + rm.slots ≤ R.slots) :
    ∃ (v : Option Value) (T' : State) (L : List Loc), Stand p l e R s m args below meth c T' (locs ++ L) (cells + rm.cells) (slots + rm.slots) ∧ Q v T'.heap L ∧ ∀ target, Steps p.tables e below (T'.setTop (mkF m (pc + 3) Ls (v.toList ++ rest))) target → Steps p.tables e below (T.setTop (mkF m pc Ls (argsL.reverse ++ .ref b :: rest))) target := by
  obtain ⟨v, _, ⟨T', L', k', n'⟩, -, X', ⟨L, hQ, h1, h2, h3⟩, st⟩ := X.specialBack hx (y := y) hy1 hown (mvT hZ w1) (mvT hZ w4) (mvT hZ w6) hy (backOf (W := W) hM hZ w6 w5 hf hl) (g := mkF m pc Ls (argsL.reverse ++ .ref b :: rest)) rfl hsize (Steps.refl _) (a := b) (argsL := argsL) (rest := rest) hlen rfl hW hd (fun _ _ => ⟨rfl, eT, hC, hN⟩)
  dsimp only [Pt.U, Pt.locs, Pt.cells, Pt.slots] at X' h1 h2 h3 st hQ
  subst h1 h2 h3
  exact ⟨v, T', L, X', hQ, fun t k => st.trans k⟩
abbrev own_HW (Z : State) (a0 : Array Value) : Prop := ∀ d ∈ tables_1, d.before a0 Z = true
theorem own_w {a0 : Array Value} {Z : State} (hw : ∀ d ∈ tables_1, d.before a0 Z = true) (i : Nat) {d : Jvm.Cond} (q : tables_1[i]? = some d) : d.before a0 Z = true := hw _ (List.mem_of_getElem? q)
/-- a body that writes nothing and makes nothing -/
def own_R (r : Option Value) (h0 : Heap) (v : Option Value) (h : Heap) (L : List Loc) : Prop := v = r ∧ h = h0 ∧ L = []
theorem own_same {rm : Room} {T' : State} {L : List Loc} (hc : rm.cells = 0) (hs : rm.slots = 0) (X : Stand p l e R s m args below meth c T' (locs ++ L) (cells + rm.cells) (slots + rm.slots)) (q : L = []) : Stand p l e R s m args below meth c T' locs cells slots := by
  subst q
  rw [hc, hs, List.append_nil] at X
  exact X
theorem own_pureS (X : Stand p l e R s m args below meth c T locs cells slots) (hx : p.tables.exec = Jvm.exec) {F : State → Prop} (hZ : Z.Warmed39 s.vm) {own : String} {index : Nat} {y : MethodName} {bytes : ByteArray} {maxL : Nat} {ret : Option FieldType} {rm : Room} (hown : s.vm.findClass own = some m.cls)
    (w1 : (Cond.methodLink own index y).before a0 Z = true) (w2 : (Cond.static y).before a0 Z = true) (w3 : (Cond.initialized y.cls).before a0 Z = true) (w4 : (Cond.code y bytes maxL ret).before a0 Z = true) (hy : y.cls ≠ "java/lang/invoke/MethodHandle" ∧ y.cls ≠ "java/lang/invoke/VarHandle")
    (argsL rest : List Value) (W : Nat) {r : Value} (hM : own_Met l y bytes maxL ret [] rm Z argsL.toArray h (own_R (some r) h)) (hf : rm.frames + 1 ≤ R.frames) (hl : W + (maxL + 11) + rm.locals ≤ R.locals) (hc0 : rm.cells = 0) (hs0 : rm.slots = 0) (eT : T.heap = h) {pc : Nat} {Ls : Array Slot} (hsize : Ls.size = c.maxLocals)
    (hlen : ∀ sig, parseMethodDescriptor y.desc = some sig → argsL.length = sig.parameters.length) (hW : 2 * 0 + (rest.map fun v => v.category).sum ≤ W) (hd : decode c.code pc = .ok (.invokestatic index, 3)) (pc' : Nat) (hp : pc + 3 = pc') {St : List Value} (hs : St = argsL.reverse ++ rest) (hC : cells ≤ R.cells) (hN : slots ≤ R.slots)
    (k : ∀ T', Stand p l e R s m args below meth c T' locs cells slots → T'.heap = h → own_Go p.tables e below F (T'.setTop (mkF m pc' Ls (r :: rest)))) : own_Go p.tables e below F (T.setTop (mkF m pc Ls St)) := by
  subst hp hs
  obtain ⟨v, T', L, X', ⟨q1, q2, q3⟩, st⟩ := own_callS X hx hZ hown w1 w2 w3 w4 hy argsL rest W hM hf hl eT hsize hlen hW hd (by rw [hc0]; exact hC) (by rw [hs0]; exact hN)
  subst q1
  exact own_by st (k T' (own_same hc0 hs0 X' q3) q2)
theorem own_pureV (X : Stand p l e R s m args below meth c T locs cells slots) (hx : p.tables.exec = Jvm.exec) {F : State → Prop} (hZ : Z.Warmed39 s.vm) {own C : String} {index : Nat} {y z : MethodName} {bytes : ByteArray} {maxL : Nat} {ret : Option FieldType} {rm : Room} (hown : s.vm.findClass own = some m.cls)
    (w1 : (Cond.methodLink own index y).before a0 Z = true) (w2 : (Cond.declares y).before a0 Z = true) (hnf : NotFace s y) (w3 : (Cond.selects C y z).before a0 Z = true) (w4 : (Cond.instanceMethod z).before a0 Z = true) (w5 : (Cond.initialized z.cls).before a0 Z = true) (w6 : (Cond.code z bytes maxL ret).before a0 Z = true) (hy : y.cls ≠ "java/lang/invoke/MethodHandle" ∧ y.cls ≠ "java/lang/invoke/VarHandle")
    (b : Addr) (argsL rest : List Value) (W : Nat) {r : Value} (hM : own_Met l z bytes maxL ret [] rm Z (.ref b :: argsL).toArray h (own_R (some r) h)) (hf : rm.frames + 1 ≤ R.frames) (hl : W + (maxL + 11) + rm.locals ≤ R.locals) (hc0 : rm.cells = 0) (hs0 : rm.slots = 0) (eT : T.heap = h) (E : Exa Z h b C) {pc : Nat} {Ls : Array Slot} (hsize : Ls.size = c.maxLocals)
    (hlen : ∀ sig, parseMethodDescriptor y.desc = some sig → argsL.length = sig.parameters.length) (hW : 2 * 0 + (rest.map fun v => v.category).sum ≤ W) (hd : decode c.code pc = .ok (.invokevirtual index, 3)) (pc' : Nat) (hp : pc + 3 = pc') {St : List Value} (hs : St = argsL.reverse ++ .ref b :: rest) (hC : cells ≤ R.cells) (hN : slots ≤ R.slots)
    (k : ∀ T', Stand p l e R s m args below meth c T' locs cells slots → T'.heap = h → own_Go p.tables e below F (T'.setTop (mkF m pc' Ls (r :: rest)))) : own_Go p.tables e below F (T.setTop (mkF m pc Ls St)) := by
  subst hp hs
  obtain ⟨v, T', L, X', ⟨q1, q2, q3⟩, st⟩ := own_callV X hx hZ hown w1 w2 hnf w3 w4 w5 w6 hy b argsL rest W hM hf hl eT E hsize hlen hW hd (by rw [hc0]; exact hC) (by rw [hs0]; exact hN)
  subst q1
  exact own_by st (k T' (own_same hc0 hs0 X' q3) q2)
theorem own_pureU (X : Stand p l e R s m args below meth c T locs cells slots) (hx : p.tables.exec = Jvm.exec) {F : State → Prop} (hZ : Z.Warmed39 s.vm) {own C owner : String} {index : Nat} {x z : MethodName} {bytes : ByteArray} {maxL : Nat} {ret : Option FieldType} {rm : Room} (hown : s.vm.findClass own = some m.cls)
    (w1 : (Cond.methodLink own index x).before a0 Z = true) (w2 : (Cond.sameMethod x.cls owner x.name x.desc).before a0 Z = true) (w2' : (Cond.declares ⟨owner, x.name, x.desc⟩).before a0 Z = true) (hy : owner ≠ "java/lang/invoke/MethodHandle" ∧ owner ≠ "java/lang/invoke/VarHandle") (w3 : (Cond.selects C x z).before a0 Z = true) (w4 : (Cond.instanceMethod z).before a0 Z = true) (w5 : (Cond.initialized z.cls).before a0 Z = true) (w6 : (Cond.code z bytes maxL ret).before a0 Z = true)
    (b : Addr) (argsL rest : List Value) (W : Nat) {r : Value} (hM : own_Met l z bytes maxL ret [] rm Z (.ref b :: argsL).toArray h (own_R (some r) h)) (hf : rm.frames + 1 ≤ R.frames) (hl : W + (maxL + 11) + rm.locals ≤ R.locals) (hc0 : rm.cells = 0) (hs0 : rm.slots = 0) (eT : T.heap = h) (E : Exa Z h b C) {pc : Nat} {Ls : Array Slot} (hsize : Ls.size = c.maxLocals)
    (hlen : ∀ sig, parseMethodDescriptor x.desc = some sig → argsL.length = sig.parameters.length) (hW : 2 * 0 + (rest.map fun v => v.category).sum ≤ W) (hd : decode c.code pc = .ok (.invokevirtual index, 3)) (pc' : Nat) (hp : pc + 3 = pc') {St : List Value} (hs : St = argsL.reverse ++ .ref b :: rest) (hC : cells ≤ R.cells) (hN : slots ≤ R.slots)
    (k : ∀ T', Stand p l e R s m args below meth c T' locs cells slots → T'.heap = h → own_Go p.tables e below F (T'.setTop (mkF m pc' Ls (r :: rest)))) : own_Go p.tables e below F (T.setTop (mkF m pc Ls St)) := by
  subst hp hs
  obtain ⟨v, T', L, X', ⟨q1, q2, q3⟩, st⟩ := own_callU X hx hZ hown w1 w2 w2' hy w3 w4 w5 w6 b argsL rest W hM hf hl eT E hsize hlen hW hd (by rw [hc0]; exact hC) (by rw [hs0]; exact hN)
  subst q1
  exact own_by st (k T' (own_same hc0 hs0 X' q3) q2)
theorem own_voidS (X : Stand p l e R s m args below meth c T locs cells slots) (hx : p.tables.exec = Jvm.exec) {F : State → Prop} (hZ : Z.Warmed39 s.vm) {own : String} {index : Nat} {y : MethodName} {bytes : ByteArray} {maxL : Nat} {ret : Option FieldType} {rm : Room} (hown : s.vm.findClass own = some m.cls)
    (w1 : (Cond.methodLink own index y).before a0 Z = true) (w2 : (Cond.static y).before a0 Z = true) (w3 : (Cond.initialized y.cls).before a0 Z = true) (w4 : (Cond.code y bytes maxL ret).before a0 Z = true) (hy : y.cls ≠ "java/lang/invoke/MethodHandle" ∧ y.cls ≠ "java/lang/invoke/VarHandle")
    (argsL rest : List Value) (W : Nat) (hM : own_Met l y bytes maxL ret [] rm Z argsL.toArray h (own_R none h)) (hf : rm.frames + 1 ≤ R.frames) (hl : W + (maxL + 11) + rm.locals ≤ R.locals) (hc0 : rm.cells = 0) (hs0 : rm.slots = 0) (eT : T.heap = h) {pc : Nat} {Ls : Array Slot} (hsize : Ls.size = c.maxLocals)
    (hlen : ∀ sig, parseMethodDescriptor y.desc = some sig → argsL.length = sig.parameters.length) (hW : 2 * 0 + (rest.map fun v => v.category).sum ≤ W) (hd : decode c.code pc = .ok (.invokestatic index, 3)) (pc' : Nat) (hp : pc + 3 = pc') {St : List Value} (hs : St = argsL.reverse ++ rest) (hC : cells ≤ R.cells) (hN : slots ≤ R.slots)
    (k : ∀ T', Stand p l e R s m args below meth c T' locs cells slots → T'.heap = h → own_Go p.tables e below F (T'.setTop (mkF m pc' Ls rest))) : own_Go p.tables e below F (T.setTop (mkF m pc Ls St)) := by
  subst hp hs
  obtain ⟨v, T', L, X', ⟨q1, q2, q3⟩, st⟩ := own_callS X hx hZ hown w1 w2 w3 w4 hy argsL rest W hM hf hl eT hsize hlen hW hd (by rw [hc0]; exact hC) (by rw [hs0]; exact hN)
  subst q1
  exact own_by st (k T' (own_same hc0 hs0 X' q3) q2)
theorem own_voidV (X : Stand p l e R s m args below meth c T locs cells slots) (hx : p.tables.exec = Jvm.exec) {F : State → Prop} (hZ : Z.Warmed39 s.vm) {own C : String} {index : Nat} {y z : MethodName} {bytes : ByteArray} {maxL : Nat} {ret : Option FieldType} {rm : Room} (hown : s.vm.findClass own = some m.cls)
    (w1 : (Cond.methodLink own index y).before a0 Z = true) (w2 : (Cond.declares y).before a0 Z = true) (hnf : NotFace s y) (w3 : (Cond.selects C y z).before a0 Z = true) (w4 : (Cond.instanceMethod z).before a0 Z = true) (w5 : (Cond.initialized z.cls).before a0 Z = true) (w6 : (Cond.code z bytes maxL ret).before a0 Z = true) (hy : y.cls ≠ "java/lang/invoke/MethodHandle" ∧ y.cls ≠ "java/lang/invoke/VarHandle")
    (b : Addr) (argsL rest : List Value) (W : Nat) (hM : own_Met l z bytes maxL ret [] rm Z (.ref b :: argsL).toArray h (own_R none h)) (hf : rm.frames + 1 ≤ R.frames) (hl : W + (maxL + 11) + rm.locals ≤ R.locals) (hc0 : rm.cells = 0) (hs0 : rm.slots = 0) (eT : T.heap = h) (E : Exa Z h b C) {pc : Nat} {Ls : Array Slot} (hsize : Ls.size = c.maxLocals)
    (hlen : ∀ sig, parseMethodDescriptor y.desc = some sig → argsL.length = sig.parameters.length) (hW : 2 * 0 + (rest.map fun v => v.category).sum ≤ W) (hd : decode c.code pc = .ok (.invokevirtual index, 3)) (pc' : Nat) (hp : pc + 3 = pc') {St : List Value} (hs : St = argsL.reverse ++ .ref b :: rest) (hC : cells ≤ R.cells) (hN : slots ≤ R.slots)
    (k : ∀ T', Stand p l e R s m args below meth c T' locs cells slots → T'.heap = h → own_Go p.tables e below F (T'.setTop (mkF m pc' Ls rest))) : own_Go p.tables e below F (T.setTop (mkF m pc Ls St)) := by
  subst hp hs
  obtain ⟨v, T', L, X', ⟨q1, q2, q3⟩, st⟩ := own_callV X hx hZ hown w1 w2 hnf w3 w4 w5 w6 hy b argsL rest W hM hf hl eT E hsize hlen hW hd (by rw [hc0]; exact hC) (by rw [hs0]; exact hN)
  subst q1
  exact own_by st (k T' (own_same hc0 hs0 X' q3) q2)
theorem own_voidN (X : Stand p l e R s m args below meth c T locs cells slots) (hx : p.tables.exec = Jvm.exec) {F : State → Prop} (hZ : Z.Warmed39 s.vm) {own : String} {index : Nat} {y : MethodName} {bytes : ByteArray} {maxL : Nat} {rm : Room} (hy1 : y.name = "<init>") (hown : s.vm.findClass own = some m.cls)
    (w1 : (Cond.methodLink own index y).before a0 Z = true) (w4 : (Cond.instanceMethod y).before a0 Z = true) (w5 : (Cond.initialized y.cls).before a0 Z = true) (w6 : (Cond.code y bytes maxL none).before a0 Z = true) (hy : y.cls ≠ "java/lang/invoke/MethodHandle" ∧ y.cls ≠ "java/lang/invoke/VarHandle")
    (b : Addr) (argsL rest : List Value) (W : Nat) (hM : own_Met l y bytes maxL none [] rm Z (.ref b :: argsL).toArray h (own_R none h)) (hf : rm.frames + 1 ≤ R.frames) (hl : W + (maxL + 11) + rm.locals ≤ R.locals) (hc0 : rm.cells = 0) (hs0 : rm.slots = 0) (eT : T.heap = h) {pc : Nat} {Ls : Array Slot} (hsize : Ls.size = c.maxLocals)
    (hlen : ∀ sig, parseMethodDescriptor y.desc = some sig → argsL.length = sig.parameters.length) (hW : 2 * 0 + (rest.map fun v => v.category).sum ≤ W) (hd : decode c.code pc = .ok (.invokespecial index, 3)) (pc' : Nat) (hp : pc + 3 = pc') {St : List Value} (hs : St = argsL.reverse ++ .ref b :: rest) (hC : cells ≤ R.cells) (hN : slots ≤ R.slots)
    (k : ∀ T', Stand p l e R s m args below meth c T' locs cells slots → T'.heap = h → own_Go p.tables e below F (T'.setTop (mkF m pc' Ls rest))) : own_Go p.tables e below F (T.setTop (mkF m pc Ls St)) := by
  subst hp hs
  obtain ⟨v, T', L, X', ⟨q1, q2, q3⟩, st⟩ := own_callN X hx hZ hy1 hown w1 w4 w5 w6 hy b argsL rest W hM hf hl eT hsize hlen hW hd (by rw [hc0]; exact hC) (by rw [hs0]; exact hN)
  subst q1
  exact own_by st (k T' (own_same hc0 hs0 X' q3) q2)
def own_Q0 (n0 : Nat) (v : Option Value) (h : Heap) (L : List Loc) : Prop := v = some (.int 1) ∧ Fr n0 L
end OwnHead
theorem own_fldI {Z : State} {args : Array Value} {t : Term} {a : Addr} {C n d : String} {k : Int32} (ev : t.eval args Z none [] Z = some (.ref a)) (q : (Cond.eq (.field t C n d) (.int k)).value args Z none Z [] = some true) : Fld Z Z.heap a C n d (.int k) := by
  exact Fld.start ((fld_at ev).symm.trans (eqv_i (F := .int k) rfl q))
theorem own_fldN {Z : State} {args : Array Value} {t : Term} {a : Addr} {C n d : String} (ev : t.eval args Z none [] Z = some (.ref a)) (q : (Cond.eq (.field t C n d) .null).value args Z none Z [] = some true) : Fld Z Z.heap a C n d .null := by
  exact Fld.start ((fld_at ev).symm.trans (null_v q))
theorem own_fldR {Z : State} {args : Array Value} {t u : Term} {a b : Addr} {C n d : String} (ev : t.eval args Z none [] Z = some (.ref a)) (eu : u.eval args Z none [] Z = some (.ref b)) (q : (Cond.eq (.field t C n d) u).value args Z none Z [] = some true) : Fld Z Z.heap a C n d (.ref b) := by
  obtain ⟨x, y, hx, hy, hk, hk'⟩ := cmp_v (Or.inl q)
  cases eu.symm.trans hy
  refine Fld.start ((fld_at ev).symm.trans ?_)
  rw [hx]
  cases x with
  | ref z => simp [Cond.value, hx, hy] at q; rw [q]
  | null => simp [Cond.value, hx, hy] at q
  | _ => simp_all [Kin, Value.isRef]

def own_C (Z : State) (h0 : Heap) (w_Money_Leftover_LAST_SHARE w_Money_Leftover_FIRST_SHARE : Addr) : Prop := Sta Z h0 "com/example/revline/revline/money/Money$Leftover" "LAST_SHARE" "Lcom/example/revline/revline/money/Money$Leftover;" (.ref w_Money_Leftover_LAST_SHARE) ∧ Exa Z h0 w_Money_Leftover_LAST_SHARE "com/example/revline/revline/money/Money$Leftover" ∧ Sta Z h0 "com/example/revline/revline/money/Money$Leftover" "FIRST_SHARE" "Lcom/example/revline/revline/money/Money$Leftover;" (.ref w_Money_Leftover_FIRST_SHARE) ∧ Exa Z h0 w_Money_Leftover_FIRST_SHARE "com/example/revline/revline/money/Money$Leftover" ∧ Fld Z h0 w_Money_Leftover_FIRST_SHARE "java/lang/Enum" "ordinal" "I" (.int (1 : Int32)) ∧ Fld Z h0 w_Money_Leftover_LAST_SHARE "java/lang/Enum" "ordinal" "I" (.int (0 : Int32)) ∧ w_Money_Leftover_FIRST_SHARE ≠ w_Money_Leftover_LAST_SHARE
theorem own_bit1 (x : Int32) : (x &&& (1 : Int32)) = (0 : Int32) ∨ (x &&& (1 : Int32)) = (1 : Int32) := by
  have r := Jvm.Kit.i32_mask x (1 : Int32) (k := 1) (by decide) (by decide)
  have l0 : ((0 : Int32)).toInt = 0 := by decide
  have l1 : ((1 : Int32)).toInt = 1 := by decide
  simp only [← Int32.toInt_inj, l0, l1]
  generalize (x &&& (1 : Int32)).toInt = z at r ⊢
  omega
def own_max (a b : Int32) : Int32 := if a < b then b else a
theorem own_maxpos (m : Int32) : (0 : Int32) < own_max (1 : Int32) m := by
  have l0 : ((0 : Int32)).toInt = 0 := by decide
  have l1 : ((1 : Int32)).toInt = 1 := by decide
  by_cases q : (1 : Int32) < m
  · have e : own_max (1 : Int32) m = m := if_pos q
    rw [e, Int32.lt_iff_toInt_lt, l0]
    rw [Int32.lt_iff_toInt_lt, l1] at q
    omega
  · have e : own_max (1 : Int32) m = 1 := if_neg q
    rw [e]
    decide
theorem own_nz {n : Int32} (hn : (0 : Int32) < n) : ¬ (n = (0 : Int32)) := fun q => by
  subst q
  exact absurd hn (by decide)
theorem own_remb (x : Int32) {n : Int32} (hn : (0 : Int32) < n) : ¬ ((x &&& (2147483647 : Int32)) % n < (0 : Int32)) ∧ (x &&& (2147483647 : Int32)) % n < n := by
  have l0 : ((0 : Int32)).toInt = 0 := by decide
  have e := Jvm.Kit.i32_mask x (2147483647 : Int32) (k := 31) (by decide) (by decide)
  have r : ((x &&& (2147483647 : Int32)) % n).toInt = (x &&& (2147483647 : Int32)).toInt % n.toInt := Jvm.Kit.i32_rem_nonneg (by rw [e]; omega)
  rw [Int32.lt_iff_toInt_lt, l0] at hn
  rw [Int32.lt_iff_toInt_lt, Int32.lt_iff_toInt_lt, l0, r]
  have h1 := Int.emod_nonneg (x &&& (2147483647 : Int32)).toInt (show n.toInt ≠ 0 by omega)
  have h2 := Int.emod_lt_of_pos (x &&& (2147483647 : Int32)).toInt hn
  omega
theorem own_cut {n t : Int32} (hn : (0 : Int32) < n) (h0 : ¬ (t < (0 : Int32))) (h1 : t < n) : ¬ (((n - (1 : Int32)) - t) < (0 : Int32)) ∧ ((n - (1 : Int32)) - t) < n := by
  have l0 : ((0 : Int32)).toInt = 0 := by decide
  have l1 : ((1 : Int32)).toInt = 1 := by decide
  have b := n.toInt_lt
  rw [Int32.lt_iff_toInt_lt, l0] at hn h0
  rw [Int32.lt_iff_toInt_lt] at h1
  have e1 : (n - (1 : Int32)).toInt = n.toInt - 1 := by rw [Jvm.Kit.i32_sub (by rw [l1]; omega) (by rw [l1]; omega), l1]
  have e2 : ((n - (1 : Int32)) - t).toInt = n.toInt - 1 - t.toInt := by rw [Jvm.Kit.i32_sub (by rw [e1]; omega) (by rw [e1]; omega), e1]
  rw [Int32.lt_iff_toInt_lt, Int32.lt_iff_toInt_lt, l0, e2]
  omega
theorem own_cutinj {n t u : Int32} (q : ((n - (1 : Int32)) - t) = ((n - (1 : Int32)) - u)) : t = u := by grind
theorem d0_0 : decode jdk_29_method_65_code 0 = .ok (.iload_n 0, 1) := by decide +kernel
theorem d0_1 : decode jdk_29_method_65_code 1 = .ok (.iload_n 1, 1) := by decide +kernel
theorem d0_2 : decode jdk_29_method_65_code 2 = .ok (.if_icmp .lt 7, 3) := by decide +kernel
theorem d0_5 : decode jdk_29_method_65_code 5 = .ok (.iload_n 0, 1) := by decide +kernel
theorem d0_6 : decode jdk_29_method_65_code 6 = .ok (.goto 4, 3) := by decide +kernel
theorem d0_9 : decode jdk_29_method_65_code 9 = .ok (.iload_n 1, 1) := by decide +kernel
theorem d0_10 : decode jdk_29_method_65_code 10 = .ok (.ireturn, 1) := by decide +kernel
theorem ef_0 (m : MethodId) (y0 : Int32) (y1 : Int32) : entryFrame m #[(.int y0), (.int y1)] 2 = mkF m 0 #[.val (.int y0), .val (.int y1)] [] := by first | (simp [entryFrame, mkF, argsToLocals, Value.category]; done) | rfl
theorem rm_max (l : Launch) (Z : State) (a0 : Array Value) (hw : own_HW Z a0) (ws : List Jvm.Cond) (x0 : Int32) (x1 : Int32) (h0 : Heap) (n0 : Nat) {w_Money_Leftover_LAST_SHARE w_Money_Leftover_FIRST_SHARE : Addr} (H : own_C Z h0 w_Money_Leftover_LAST_SHARE w_Money_Leftover_FIRST_SHARE) :
    own_Met l (⟨"java/lang/Math", "max", "(II)I"⟩ : MethodName) jdk_29_method_65_code 2 (some .int) ws (own_rm 0 0 0 0) Z #[(.int x0), (.int x1)] h0 (own_R (some (.int (own_max x0 x1))) h0) := by
  refine own_met (Jvm.Free.JP.mathPlain rfl (by decide +kernel)) ?_
  intro p e s m below meth c T0 hx hby hml hown hret hk hnm hZ X0 e0
  have hown : s.vm.findClass "java/lang/Math" = some m.cls := hown
  refine own_ent (ef_0 m x0 x1) ?_
  refine own_iload_n X0 hx (hb hby d0_0) rfl 1 rfl ?_
  refine own_iload_n X0 hx (hb hby d0_1) rfl 2 rfl ?_
  rcases Decidable.em (x0 < x1) with hc2_1 | hc2_1
  · skip
    refine own_icmpY X0 hx (hb hby d0_2) (tlt hc2_1).1 9 (by decide) (by decide) ?_
    refine own_iload_n X0 hx (hb hby d0_9) rfl 10 rfl ?_
    exact own_retI X0 hx hk hret (hb hby d0_10) ⟨congrArg (fun z => some (Value.int z)) (if_pos hc2_1).symm, e0, rfl⟩ (by decide) (by decide)
  · skip
    refine own_icmpN X0 hx (hb hby d0_2) (flt hc2_1).1 5 rfl ?_
    refine own_iload_n X0 hx (hb hby d0_5) rfl 6 rfl ?_
    refine own_goto X0 hx (hb hby d0_6) 10 (by decide) (by decide) ?_
    exact own_retI X0 hx hk hret (hb hby d0_10) ⟨congrArg (fun z => some (Value.int z)) (if_neg hc2_1).symm, e0, rfl⟩ (by decide) (by decide)
theorem d1_0 : decode prog_58_method_4_code 0 = .ok (.aload_n 0, 1) := by decide +kernel
theorem d1_1 : decode prog_58_method_4_code 1 = .ok (.getstatic 3, 3) := by decide +kernel
theorem d1_4 : decode prog_58_method_4_code 4 = .ok (.if_acmp .ne 7, 3) := by decide +kernel
theorem d1_7 : decode prog_58_method_4_code 7 = .ok (.iload_n 1, 1) := by decide +kernel
theorem d1_8 : decode prog_58_method_4_code 8 = .ok (.goto 8, 3) := by decide +kernel
theorem d1_16 : decode prog_58_method_4_code 16 = .ok (.ireturn, 1) := by decide +kernel
theorem pn_1 : plainName "com/example/revline/revline/money/Money$Leftover" = true := by first | (simp [plainName, overriddenIn]; done) | decide +kernel
theorem ef_1 (m : MethodId) (y0 : Addr) (y1 : Int32) (y2 : Int32) : entryFrame m #[(.ref y0), (.int y1), (.int y2)] 3 = mkF m 0 #[.val (.ref y0), .val (.int y1), .val (.int y2)] [] := by first | (simp [entryFrame, mkF, argsToLocals, Value.category]; done) | rfl
theorem rm_cutAt_1 (l : Launch) (Z : State) (a0 : Array Value) (hw : own_HW Z a0) (ws : List Jvm.Cond) (x1 : Int32) (x2 : Int32) (h0 : Heap) (n0 : Nat) {w_Money_Leftover_LAST_SHARE w_Money_Leftover_FIRST_SHARE : Addr} (H : own_C Z h0 w_Money_Leftover_LAST_SHARE w_Money_Leftover_FIRST_SHARE) :
    own_Met l (⟨"com/example/revline/revline/money/Money$Leftover", "cutAt", "(II)I"⟩ : MethodName) prog_58_method_4_code 3 (some .int) ws (own_rm 0 0 0 0) Z #[(.ref w_Money_Leftover_LAST_SHARE), (.int x1), (.int x2)] h0 (own_R (some (.int x1)) h0) := by
  refine own_met (plainFor_of_name pn_1) ?_
  intro p e s m below meth c T0 hx hby hml hown hret hk hnm hZ X0 e0
  have hown : s.vm.findClass "com/example/revline/revline/money/Money$Leftover" = some m.cls := hown
  obtain ⟨S_w_Money_Leftover_LAST_SHARE, -, -, -, -, -, -⟩ := id H
  refine own_ent (ef_1 m w_Money_Leftover_LAST_SHARE x1 x2) ?_
  refine own_aload_n X0 hx (hb hby d1_0) rfl rfl 1 rfl ?_
  refine own_getS X0 hx hZ hown (host := "") (Or.inl (own_w hw 13 rfl)) Via.refl e0 S_w_Money_Leftover_LAST_SHARE (hb hby d1_1) 4 rfl fun T1 X1 e1 => ?_
  refine own_acmp X1 hx true (hb hby d1_4) rfl rfl (decide_eq_true rfl) 7 (by decide) (by decide) ?_
  refine own_iload_n X1 hx (hb hby d1_7) rfl 8 rfl ?_
  refine own_goto X1 hx (hb hby d1_8) 16 (by decide) (by decide) ?_
  exact own_retI X1 hx hk hret (hb hby d1_16) ⟨rfl, e1, rfl⟩ (by decide) (by decide)
theorem rm_cutAt_2 (l : Launch) (Z : State) (a0 : Array Value) (hw : own_HW Z a0) (ws : List Jvm.Cond) (x2 : Int32) (h0 : Heap) (n0 : Nat) {w_Money_Leftover_LAST_SHARE w_Money_Leftover_FIRST_SHARE : Addr} (H : own_C Z h0 w_Money_Leftover_LAST_SHARE w_Money_Leftover_FIRST_SHARE) :
    own_Met l (⟨"com/example/revline/revline/money/Money$Leftover", "cutAt", "(II)I"⟩ : MethodName) prog_58_method_4_code 3 (some .int) ws (own_rm 0 0 0 0) Z #[(.ref w_Money_Leftover_LAST_SHARE), (.int (0 : Int32)), (.int x2)] h0 (own_R (some (.int (0 : Int32))) h0) := by
  refine own_met (plainFor_of_name pn_1) ?_
  intro p e s m below meth c T0 hx hby hml hown hret hk hnm hZ X0 e0
  have hown : s.vm.findClass "com/example/revline/revline/money/Money$Leftover" = some m.cls := hown
  obtain ⟨S_w_Money_Leftover_LAST_SHARE, -, -, -, -, -, -⟩ := id H
  refine own_ent (ef_1 m w_Money_Leftover_LAST_SHARE (0 : Int32) x2) ?_
  refine own_aload_n X0 hx (hb hby d1_0) rfl rfl 1 rfl ?_
  refine own_getS X0 hx hZ hown (host := "") (Or.inl (own_w hw 13 rfl)) Via.refl e0 S_w_Money_Leftover_LAST_SHARE (hb hby d1_1) 4 rfl fun T1 X1 e1 => ?_
  refine own_acmp X1 hx true (hb hby d1_4) rfl rfl (decide_eq_true rfl) 7 (by decide) (by decide) ?_
  refine own_iload_n X1 hx (hb hby d1_7) rfl 8 rfl ?_
  refine own_goto X1 hx (hb hby d1_8) 16 (by decide) (by decide) ?_
  exact own_retI X1 hx hk hret (hb hby d1_16) ⟨rfl, e1, rfl⟩ (by decide) (by decide)
theorem d1_11 : decode prog_58_method_4_code 11 = .ok (.iload_n 2, 1) := by decide +kernel
theorem d1_12 : decode prog_58_method_4_code 12 = .ok (.iconst 1, 1) := by decide +kernel
theorem d1_13 : decode prog_58_method_4_code 13 = .ok (.isub, 1) := by decide +kernel
theorem d1_14 : decode prog_58_method_4_code 14 = .ok (.iload_n 1, 1) := by decide +kernel
theorem d1_15 : decode prog_58_method_4_code 15 = .ok (.isub, 1) := by decide +kernel
theorem rm_cutAt_3 (l : Launch) (Z : State) (a0 : Array Value) (hw : own_HW Z a0) (ws : List Jvm.Cond) (x1 : Int32) (x2 : Int32) (h0 : Heap) (n0 : Nat) {w_Money_Leftover_LAST_SHARE w_Money_Leftover_FIRST_SHARE : Addr} (H : own_C Z h0 w_Money_Leftover_LAST_SHARE w_Money_Leftover_FIRST_SHARE) :
    own_Met l (⟨"com/example/revline/revline/money/Money$Leftover", "cutAt", "(II)I"⟩ : MethodName) prog_58_method_4_code 3 (some .int) ws (own_rm 0 0 0 0) Z #[(.ref w_Money_Leftover_FIRST_SHARE), (.int x1), (.int x2)] h0 (own_R (some (.int ((x2 - (1 : Int32)) - x1))) h0) := by
  refine own_met (plainFor_of_name pn_1) ?_
  intro p e s m below meth c T0 hx hby hml hown hret hk hnm hZ X0 e0
  have hown : s.vm.findClass "com/example/revline/revline/money/Money$Leftover" = some m.cls := hown
  obtain ⟨S_w_Money_Leftover_LAST_SHARE, -, -, -, -, -, ne_w_Money_Leftover_FIRST_SHARE_w_Money_Leftover_LAST_SHARE⟩ := id H
  refine own_ent (ef_1 m w_Money_Leftover_FIRST_SHARE x1 x2) ?_
  refine own_aload_n X0 hx (hb hby d1_0) rfl rfl 1 rfl ?_
  refine own_getS X0 hx hZ hown (host := "") (Or.inl (own_w hw 13 rfl)) Via.refl e0 S_w_Money_Leftover_LAST_SHARE (hb hby d1_1) 4 rfl fun T1 X1 e1 => ?_
  refine own_acmp X1 hx false (hb hby d1_4) rfl rfl (decide_eq_false fun q => ne_w_Money_Leftover_FIRST_SHARE_w_Money_Leftover_LAST_SHARE (Value.ref.inj q)) 11 (by decide) (by decide) ?_
  refine own_iload_n X1 hx (hb hby d1_11) rfl 12 rfl ?_
  refine own_iconst X1 hx (hb hby d1_12) (1 : Int32) rfl 13 rfl ?_
  refine own_isub X1 hx (hb hby d1_13) 14 rfl ?_
  refine own_iload_n X1 hx (hb hby d1_14) rfl 15 rfl ?_
  refine own_isub X1 hx (hb hby d1_15) 16 rfl ?_
  exact own_retI X1 hx hk hret (hb hby d1_16) ⟨rfl, e1, rfl⟩ (by decide) (by decide)
theorem rm_cutAt_4 (l : Launch) (Z : State) (a0 : Array Value) (hw : own_HW Z a0) (ws : List Jvm.Cond) (x2 : Int32) (h0 : Heap) (n0 : Nat) {w_Money_Leftover_LAST_SHARE w_Money_Leftover_FIRST_SHARE : Addr} (H : own_C Z h0 w_Money_Leftover_LAST_SHARE w_Money_Leftover_FIRST_SHARE) :
    own_Met l (⟨"com/example/revline/revline/money/Money$Leftover", "cutAt", "(II)I"⟩ : MethodName) prog_58_method_4_code 3 (some .int) ws (own_rm 0 0 0 0) Z #[(.ref w_Money_Leftover_FIRST_SHARE), (.int (0 : Int32)), (.int x2)] h0 (own_R (some (.int ((x2 - (1 : Int32)) - (0 : Int32)))) h0) := by
  refine own_met (plainFor_of_name pn_1) ?_
  intro p e s m below meth c T0 hx hby hml hown hret hk hnm hZ X0 e0
  have hown : s.vm.findClass "com/example/revline/revline/money/Money$Leftover" = some m.cls := hown
  obtain ⟨S_w_Money_Leftover_LAST_SHARE, -, -, -, -, -, ne_w_Money_Leftover_FIRST_SHARE_w_Money_Leftover_LAST_SHARE⟩ := id H
  refine own_ent (ef_1 m w_Money_Leftover_FIRST_SHARE (0 : Int32) x2) ?_
  refine own_aload_n X0 hx (hb hby d1_0) rfl rfl 1 rfl ?_
  refine own_getS X0 hx hZ hown (host := "") (Or.inl (own_w hw 13 rfl)) Via.refl e0 S_w_Money_Leftover_LAST_SHARE (hb hby d1_1) 4 rfl fun T1 X1 e1 => ?_
  refine own_acmp X1 hx false (hb hby d1_4) rfl rfl (decide_eq_false fun q => ne_w_Money_Leftover_FIRST_SHARE_w_Money_Leftover_LAST_SHARE (Value.ref.inj q)) 11 (by decide) (by decide) ?_
  refine own_iload_n X1 hx (hb hby d1_11) rfl 12 rfl ?_
  refine own_iconst X1 hx (hb hby d1_12) (1 : Int32) rfl 13 rfl ?_
  refine own_isub X1 hx (hb hby d1_13) 14 rfl ?_
  refine own_iload_n X1 hx (hb hby d1_14) rfl 15 rfl ?_
  refine own_isub X1 hx (hb hby d1_15) 16 rfl ?_
  exact own_retI X1 hx hk hret (hb hby d1_16) ⟨rfl, e1, rfl⟩ (by decide) (by decide)
theorem pd_0 : parseMethodDescriptor "(II)I" = some ⟨[.int, .int], some .int⟩ := by decide +kernel
theorem pn_2 : plainName "com/example/revline/revline/money/LeftoverCutAtPinLaw" = true := by first | (simp [plainName, overriddenIn]; done) | decide +kernel
theorem ef_2 (m : MethodId) (y0 : Int32) (y1 : Int32) (y2 : Int32) (y3 : Int32) : entryFrame m #[(.int y0), (.int y1), (.int y2), (.int y3)] maxLocals = mkF m 0 #[.val (.int y0), .val (.int y1), .val (.int y2), .val (.int y3), .unset, .unset, .unset, .unset, .unset, .unset, .unset, .unset, .unset, .unset, .unset, .unset, .unset, .unset] [] := by first | (simp [entryFrame, mkF, argsToLocals, Value.category, maxLocals]; done) | rfl
theorem rm0 (l : Launch) (Z : State) (a0 : Array Value) (hw : own_HW Z a0) (ws : List Jvm.Cond) (x0 : Int32) (x1 : Int32) (x2 : Int32) (x3 : Int32) (h0 : Heap) (n0 : Nat) {w_Money_Leftover_LAST_SHARE w_Money_Leftover_FIRST_SHARE : Addr} (H : own_C Z h0 w_Money_Leftover_LAST_SHARE w_Money_Leftover_FIRST_SHARE) :
    own_Met l x code maxLocals ret ws room_1 Z #[(.int x0), (.int x1), (.int x2), (.int x3)] h0 (own_Q0 n0) := by
  refine own_met (plainFor_of_name pn_2) ?_
  intro p e s m below meth c T0 hx hby hml hown hret hk hnm hZ X0 e0
  have hown : s.vm.findClass "com/example/revline/revline/money/LeftoverCutAtPinLaw" = some m.cls := hown
  obtain ⟨S_w_Money_Leftover_LAST_SHARE, E_w_Money_Leftover_LAST_SHARE, S_w_Money_Leftover_FIRST_SHARE, E_w_Money_Leftover_FIRST_SHARE, -, -, -⟩ := id H
  refine own_ent (ef_2 m x0 x1 x2 x3) ?_
  refine own_iconst X0 hx (hb hby at_0) (1 : Int32) rfl 1 rfl ?_
  refine own_iload_n X0 hx (hb hby at_1) rfl 2 rfl ?_
  refine own_ldc X0 hx hZ hown (own_w hw 0 rfl) (hb hby at_2) 4 rfl ?_
  refine own_iand X0 hx (hb hby at_4) 5 rfl ?_
  refine own_pureS X0 hx hZ hown (own_w hw 1 rfl) (own_w hw 2 rfl) (own_w hw 3 rfl) (own_w hw 4 rfl) (by decide) [(.int (1 : Int32)), (.int (x1 &&& (2147483647 : Int32)))] [] 0 (rm_max l Z a0 hw [] (1 : Int32) (x1 &&& (2147483647 : Int32)) h0 n0 H) (by decide) (by decide) rfl rfl e0 (by rw [hml]; rfl) (lenOf pd_0 rfl) (Nat.le_of_eq rfl) (hb hby at_5) 8 rfl rfl (by decide) (by decide) fun T2 X2 e2 => ?_
  obtain ⟨n, h_n⟩ : ∃ z : Int32, z = (own_max (1 : Int32) (x1 &&& (2147483647 : Int32))) := ⟨_, rfl⟩
  rw [← h_n]
  have hpos : (0 : Int32) < n := by rw [h_n]; exact own_maxpos _
  have hn0 := own_nz hpos
  refine own_istore X2 hx (hb hby at_8) #[.val (.int x0), .val (.int x1), .val (.int x2), .val (.int x3), .val (.int n), .unset, .unset, .unset, .unset, .unset, .unset, .unset, .unset, .unset, .unset, .unset, .unset, .unset] rfl 10 rfl ?_
  refine own_iload_n X2 hx (hb hby at_10) rfl 11 rfl ?_
  refine own_ldc X2 hx hZ hown (own_w hw 0 rfl) (hb hby at_11) 13 rfl ?_
  refine own_iand X2 hx (hb hby at_13) 14 rfl ?_
  refine own_iload X2 hx (hb hby at_14) rfl 16 rfl ?_
  refine own_irem X2 hx (hb hby at_16) hn0 17 rfl ?_
  obtain ⟨t, h_t⟩ : ∃ z : Int32, z = ((x2 &&& (2147483647 : Int32)) % n) := ⟨_, rfl⟩
  rw [← h_t]
  have ht := own_remb x2 hpos
  rw [← h_t] at ht
  have hct := own_cut hpos ht.1 ht.2
  refine own_istore X2 hx (hb hby at_17) #[.val (.int x0), .val (.int x1), .val (.int x2), .val (.int x3), .val (.int n), .val (.int t), .unset, .unset, .unset, .unset, .unset, .unset, .unset, .unset, .unset, .unset, .unset, .unset] rfl 19 rfl ?_
  refine own_iload_n X2 hx (hb hby at_19) rfl 20 rfl ?_
  refine own_ldc X2 hx hZ hown (own_w hw 0 rfl) (hb hby at_20) 22 rfl ?_
  refine own_iand X2 hx (hb hby at_22) 23 rfl ?_
  refine own_iload X2 hx (hb hby at_23) rfl 25 rfl ?_
  refine own_irem X2 hx (hb hby at_25) hn0 26 rfl ?_
  obtain ⟨u, h_u⟩ : ∃ z : Int32, z = ((x3 &&& (2147483647 : Int32)) % n) := ⟨_, rfl⟩
  rw [← h_u]
  refine own_istore X2 hx (hb hby at_26) #[.val (.int x0), .val (.int x1), .val (.int x2), .val (.int x3), .val (.int n), .val (.int t), .val (.int u), .unset, .unset, .unset, .unset, .unset, .unset, .unset, .unset, .unset, .unset, .unset] rfl 28 rfl ?_
  refine own_iload_n X2 hx (hb hby at_28) rfl 29 rfl ?_
  refine own_iconst X2 hx (hb hby at_29) (1 : Int32) rfl 30 rfl ?_
  refine own_iand X2 hx (hb hby at_30) 31 rfl ?_
  rcases own_bit1 x0 with q3 | q3
  · rw [q3]
    refine own_ifY X2 hx (hb hby at_31) ((if0 _ _).trans (teq (by decide : (0 : Int32) = (0 : Int32))).1) 38 (by decide) (by decide) ?_
    refine own_iconst X2 hx (hb hby at_38) (0 : Int32) rfl 39 rfl ?_
    refine own_istore X2 hx (hb hby at_39) #[.val (.int x0), .val (.int x1), .val (.int x2), .val (.int x3), .val (.int n), .val (.int t), .val (.int u), .val (.int (0 : Int32)), .unset, .unset, .unset, .unset, .unset, .unset, .unset, .unset, .unset, .unset] rfl 41 rfl ?_
    refine own_iload X2 hx (hb hby at_41) rfl 43 rfl ?_
    refine own_ifY X2 hx (hb hby at_43) ((if0 _ _).trans (teq (by decide : (0 : Int32) = (0 : Int32))).1) 52 (by decide) (by decide) ?_
    refine own_getS X2 hx hZ hown (host := "") (Or.inl (own_w hw 5 rfl)) Via.refl e2 S_w_Money_Leftover_LAST_SHARE (hb hby at_52) 55 rfl fun T4 X4 e4 => ?_
    refine own_astore X4 hx (hb hby at_55) #[.val (.int x0), .val (.int x1), .val (.int x2), .val (.int x3), .val (.int n), .val (.int t), .val (.int u), .val (.int (0 : Int32)), .val (.ref w_Money_Leftover_LAST_SHARE), .unset, .unset, .unset, .unset, .unset, .unset, .unset, .unset, .unset] rfl rfl 57 rfl ?_
    refine own_aload X4 hx (hb hby at_57) rfl rfl 59 rfl ?_
    refine own_iload X4 hx (hb hby at_59) rfl 61 rfl ?_
    refine own_iload X4 hx (hb hby at_61) rfl 63 rfl ?_
    refine own_pureV X4 hx hZ hown (own_w hw 8 rfl) (own_w hw 9 rfl) (notFace_of_selects (args := #[]) (mvT hZ (own_w hw 11 rfl))) (own_w hw 11 rfl) (own_w hw 10 rfl) (own_w hw 6 rfl) (own_w hw 12 rfl) (by decide) w_Money_Leftover_LAST_SHARE [(.int t), (.int n)] [] 0 (rm_cutAt_1 l Z a0 hw [] (t) (n) h0 n0 H) (by decide) (by decide) rfl rfl e4 E_w_Money_Leftover_LAST_SHARE (by rw [hml]; rfl) (lenOf pd_0 rfl) (Nat.le_of_eq rfl) (hb hby at_63) 66 rfl rfl (by decide) (by decide) fun T6 X6 e6 => ?_
    refine own_istore X6 hx (hb hby at_66) #[.val (.int x0), .val (.int x1), .val (.int x2), .val (.int x3), .val (.int n), .val (.int t), .val (.int u), .val (.int (0 : Int32)), .val (.ref w_Money_Leftover_LAST_SHARE), .val (.int t), .unset, .unset, .unset, .unset, .unset, .unset, .unset, .unset] rfl 68 rfl ?_
    refine own_aload X6 hx (hb hby at_68) rfl rfl 70 rfl ?_
    refine own_iload X6 hx (hb hby at_70) rfl 72 rfl ?_
    refine own_iload X6 hx (hb hby at_72) rfl 74 rfl ?_
    refine own_pureV X6 hx hZ hown (own_w hw 8 rfl) (own_w hw 9 rfl) (notFace_of_selects (args := #[]) (mvT hZ (own_w hw 11 rfl))) (own_w hw 11 rfl) (own_w hw 10 rfl) (own_w hw 6 rfl) (own_w hw 12 rfl) (by decide) w_Money_Leftover_LAST_SHARE [(.int u), (.int n)] [] 0 (rm_cutAt_1 l Z a0 hw [] (u) (n) h0 n0 H) (by decide) (by decide) rfl rfl e6 E_w_Money_Leftover_LAST_SHARE (by rw [hml]; rfl) (lenOf pd_0 rfl) (Nat.le_of_eq rfl) (hb hby at_74) 77 rfl rfl (by decide) (by decide) fun T8 X8 e8 => ?_
    refine own_istore X8 hx (hb hby at_77) #[.val (.int x0), .val (.int x1), .val (.int x2), .val (.int x3), .val (.int n), .val (.int t), .val (.int u), .val (.int (0 : Int32)), .val (.ref w_Money_Leftover_LAST_SHARE), .val (.int t), .val (.int u), .unset, .unset, .unset, .unset, .unset, .unset, .unset] rfl 79 rfl ?_
    refine own_aload X8 hx (hb hby at_79) rfl rfl 81 rfl ?_
    refine own_iconst X8 hx (hb hby at_81) (0 : Int32) rfl 82 rfl ?_
    refine own_iload X8 hx (hb hby at_82) rfl 84 rfl ?_
    refine own_pureV X8 hx hZ hown (own_w hw 8 rfl) (own_w hw 9 rfl) (notFace_of_selects (args := #[]) (mvT hZ (own_w hw 11 rfl))) (own_w hw 11 rfl) (own_w hw 10 rfl) (own_w hw 6 rfl) (own_w hw 12 rfl) (by decide) w_Money_Leftover_LAST_SHARE [(.int (0 : Int32)), (.int n)] [] 0 (rm_cutAt_2 l Z a0 hw [] (n) h0 n0 H) (by decide) (by decide) rfl rfl e8 E_w_Money_Leftover_LAST_SHARE (by rw [hml]; rfl) (lenOf pd_0 rfl) (Nat.le_of_eq rfl) (hb hby at_84) 87 rfl rfl (by decide) (by decide) fun T10 X10 e10 => ?_
    refine own_istore X10 hx (hb hby at_87) #[.val (.int x0), .val (.int x1), .val (.int x2), .val (.int x3), .val (.int n), .val (.int t), .val (.int u), .val (.int (0 : Int32)), .val (.ref w_Money_Leftover_LAST_SHARE), .val (.int t), .val (.int u), .val (.int (0 : Int32)), .unset, .unset, .unset, .unset, .unset, .unset] rfl 89 rfl ?_
    refine own_aload X10 hx (hb hby at_89) rfl rfl 91 rfl ?_
    refine own_iload X10 hx (hb hby at_91) rfl 93 rfl ?_
    refine own_iconst X10 hx (hb hby at_93) (1 : Int32) rfl 94 rfl ?_
    refine own_isub X10 hx (hb hby at_94) 95 rfl ?_
    refine own_iload X10 hx (hb hby at_95) rfl 97 rfl ?_
    refine own_pureV X10 hx hZ hown (own_w hw 8 rfl) (own_w hw 9 rfl) (notFace_of_selects (args := #[]) (mvT hZ (own_w hw 11 rfl))) (own_w hw 11 rfl) (own_w hw 10 rfl) (own_w hw 6 rfl) (own_w hw 12 rfl) (by decide) w_Money_Leftover_LAST_SHARE [(.int (n - (1 : Int32))), (.int n)] [] 0 (rm_cutAt_1 l Z a0 hw [] ((n - (1 : Int32))) (n) h0 n0 H) (by decide) (by decide) rfl rfl e10 E_w_Money_Leftover_LAST_SHARE (by rw [hml]; rfl) (lenOf pd_0 rfl) (Nat.le_of_eq rfl) (hb hby at_97) 100 rfl rfl (by decide) (by decide) fun T12 X12 e12 => ?_
    refine own_istore X12 hx (hb hby at_100) #[.val (.int x0), .val (.int x1), .val (.int x2), .val (.int x3), .val (.int n), .val (.int t), .val (.int u), .val (.int (0 : Int32)), .val (.ref w_Money_Leftover_LAST_SHARE), .val (.int t), .val (.int u), .val (.int (0 : Int32)), .val (.int (n - (1 : Int32))), .unset, .unset, .unset, .unset, .unset] rfl 102 rfl ?_
    refine own_iconst X12 hx (hb hby at_102) (0 : Int32) rfl 103 rfl ?_
    refine own_iload X12 hx (hb hby at_103) rfl 105 rfl ?_
    refine own_icmpN X12 hx (hb hby at_105) (flt ht.1).2.2.1 108 rfl ?_
    refine own_iload X12 hx (hb hby at_108) rfl 110 rfl ?_
    refine own_iload X12 hx (hb hby at_110) rfl 112 rfl ?_
    refine own_icmpN X12 hx (hb hby at_112) (tlt ht.2).2.1 115 rfl ?_
    refine own_iconst X12 hx (hb hby at_115) (1 : Int32) rfl 116 rfl ?_
    refine own_goto X12 hx (hb hby at_116) 120 (by decide) (by decide) ?_
    refine own_istore X12 hx (hb hby at_120) #[.val (.int x0), .val (.int x1), .val (.int x2), .val (.int x3), .val (.int n), .val (.int t), .val (.int u), .val (.int (0 : Int32)), .val (.ref w_Money_Leftover_LAST_SHARE), .val (.int t), .val (.int u), .val (.int (0 : Int32)), .val (.int (n - (1 : Int32))), .val (.int (1 : Int32)), .unset, .unset, .unset, .unset] rfl 122 rfl ?_
    refine own_iload X12 hx (hb hby at_122) rfl 124 rfl ?_
    refine own_iload X12 hx (hb hby at_124) rfl 126 rfl ?_
    rcases Decidable.em (t = u) with hc126_13 | hc126_13
    · skip
      refine own_icmpN X12 hx (hb hby at_126) (teq hc126_13).2 129 rfl ?_
      refine own_iconst X12 hx (hb hby at_129) (1 : Int32) rfl 130 rfl ?_
      refine own_goto X12 hx (hb hby at_130) 134 (by decide) (by decide) ?_
      refine own_iload X12 hx (hb hby at_134) rfl 136 rfl ?_
      refine own_iload X12 hx (hb hby at_136) rfl 138 rfl ?_
      refine own_icmpN X12 hx (hb hby at_138) (teq hc126_13).2 141 rfl ?_
      refine own_iconst X12 hx (hb hby at_141) (1 : Int32) rfl 142 rfl ?_
      refine own_goto X12 hx (hb hby at_142) 146 (by decide) (by decide) ?_
      refine own_icmpN X12 hx (hb hby at_146) (teq (by decide : (1 : Int32) = (1 : Int32))).2 149 rfl ?_
      refine own_iconst X12 hx (hb hby at_149) (1 : Int32) rfl 150 rfl ?_
      refine own_goto X12 hx (hb hby at_150) 154 (by decide) (by decide) ?_
      refine own_istore X12 hx (hb hby at_154) #[.val (.int x0), .val (.int x1), .val (.int x2), .val (.int x3), .val (.int n), .val (.int t), .val (.int u), .val (.int (0 : Int32)), .val (.ref w_Money_Leftover_LAST_SHARE), .val (.int t), .val (.int u), .val (.int (0 : Int32)), .val (.int (n - (1 : Int32))), .val (.int (1 : Int32)), .val (.int (1 : Int32)), .unset, .unset, .unset] rfl 156 rfl ?_
      refine own_iload X12 hx (hb hby at_156) rfl 158 rfl ?_
      refine own_ifY X12 hx (hb hby at_158) ((if0 _ _).trans (teq (by decide : (0 : Int32) = (0 : Int32))).1) 183 (by decide) (by decide) ?_
      refine own_iload X12 hx (hb hby at_183) rfl 185 rfl ?_
      refine own_ifN X12 hx (hb hby at_185) ((if0 _ _).trans (teq (by decide : (0 : Int32) = (0 : Int32))).2) 188 rfl ?_
      refine own_iload X12 hx (hb hby at_188) rfl 190 rfl ?_
      refine own_iload X12 hx (hb hby at_190) rfl 192 rfl ?_
      refine own_iconst X12 hx (hb hby at_192) (1 : Int32) rfl 193 rfl ?_
      refine own_isub X12 hx (hb hby at_193) 194 rfl ?_
      refine own_icmpN X12 hx (hb hby at_194) (teq (rfl : (n - (1 : Int32)) = (n - (1 : Int32)))).2 197 rfl ?_
      refine own_iconst X12 hx (hb hby at_197) (1 : Int32) rfl 198 rfl ?_
      refine own_goto X12 hx (hb hby at_198) 202 (by decide) (by decide) ?_
      refine own_istore X12 hx (hb hby at_202) #[.val (.int x0), .val (.int x1), .val (.int x2), .val (.int x3), .val (.int n), .val (.int t), .val (.int u), .val (.int (0 : Int32)), .val (.ref w_Money_Leftover_LAST_SHARE), .val (.int t), .val (.int u), .val (.int (0 : Int32)), .val (.int (n - (1 : Int32))), .val (.int (1 : Int32)), .val (.int (1 : Int32)), .val (.int (1 : Int32)), .unset, .unset] rfl 204 rfl ?_
      refine own_iconst X12 hx (hb hby at_204) (1 : Int32) rfl 205 rfl ?_
      refine own_istore X12 hx (hb hby at_205) #[.val (.int x0), .val (.int x1), .val (.int x2), .val (.int x3), .val (.int n), .val (.int t), .val (.int u), .val (.int (0 : Int32)), .val (.ref w_Money_Leftover_LAST_SHARE), .val (.int t), .val (.int u), .val (.int (0 : Int32)), .val (.int (n - (1 : Int32))), .val (.int (1 : Int32)), .val (.int (1 : Int32)), .val (.int (1 : Int32)), .val (.int (1 : Int32)), .unset] rfl 207 rfl ?_
      refine own_iload X12 hx (hb hby at_207) rfl 209 rfl ?_
      refine own_iconst X12 hx (hb hby at_209) (1 : Int32) rfl 210 rfl ?_
      refine own_iadd X12 hx (hb hby at_210) 211 rfl ?_
      refine own_iload X12 hx (hb hby at_211) rfl 213 rfl ?_
      rcases Decidable.em ((t + (1 : Int32)) < n) with hc213_14 | hc213_14
      · skip
        refine own_icmpN X12 hx (hb hby at_213) (tlt hc213_14).2.1 216 rfl ?_
        refine own_aload X12 hx (hb hby at_216) rfl rfl 218 rfl ?_
        refine own_iload X12 hx (hb hby at_218) rfl 220 rfl ?_
        refine own_iconst X12 hx (hb hby at_220) (1 : Int32) rfl 221 rfl ?_
        refine own_iadd X12 hx (hb hby at_221) 222 rfl ?_
        refine own_iload X12 hx (hb hby at_222) rfl 224 rfl ?_
        refine own_pureV X12 hx hZ hown (own_w hw 8 rfl) (own_w hw 9 rfl) (notFace_of_selects (args := #[]) (mvT hZ (own_w hw 11 rfl))) (own_w hw 11 rfl) (own_w hw 10 rfl) (own_w hw 6 rfl) (own_w hw 12 rfl) (by decide) w_Money_Leftover_LAST_SHARE [(.int (t + (1 : Int32))), (.int n)] [] 0 (rm_cutAt_1 l Z a0 hw [] ((t + (1 : Int32))) (n) h0 n0 H) (by decide) (by decide) rfl rfl e12 E_w_Money_Leftover_LAST_SHARE (by rw [hml]; rfl) (lenOf pd_0 rfl) (Nat.le_of_eq rfl) (hb hby at_224) 227 rfl rfl (by decide) (by decide) fun T16 X16 e16 => ?_
        refine own_istore X16 hx (hb hby at_227) #[.val (.int x0), .val (.int x1), .val (.int x2), .val (.int x3), .val (.int n), .val (.int t), .val (.int u), .val (.int (0 : Int32)), .val (.ref w_Money_Leftover_LAST_SHARE), .val (.int t), .val (.int u), .val (.int (0 : Int32)), .val (.int (n - (1 : Int32))), .val (.int (1 : Int32)), .val (.int (1 : Int32)), .val (.int (1 : Int32)), .val (.int (1 : Int32)), .val (.int (t + (1 : Int32)))] rfl 229 rfl ?_
        refine own_iload X16 hx (hb hby at_229) rfl 231 rfl ?_
        refine own_ifY X16 hx (hb hby at_231) ((if0 _ _).trans (teq (by decide : (0 : Int32) = (0 : Int32))).1) 251 (by decide) (by decide) ?_
        refine own_iload X16 hx (hb hby at_251) rfl 253 rfl ?_
        refine own_iload X16 hx (hb hby at_253) rfl 255 rfl ?_
        refine own_iconst X16 hx (hb hby at_255) (1 : Int32) rfl 256 rfl ?_
        refine own_iadd X16 hx (hb hby at_256) 257 rfl ?_
        refine own_icmpN X16 hx (hb hby at_257) (teq (rfl : (t + (1 : Int32)) = (t + (1 : Int32)))).2 260 rfl ?_
        refine own_iconst X16 hx (hb hby at_260) (1 : Int32) rfl 261 rfl ?_
        refine own_goto X16 hx (hb hby at_261) 265 (by decide) (by decide) ?_
        refine own_istore X16 hx (hb hby at_265) #[.val (.int x0), .val (.int x1), .val (.int x2), .val (.int x3), .val (.int n), .val (.int t), .val (.int u), .val (.int (0 : Int32)), .val (.ref w_Money_Leftover_LAST_SHARE), .val (.int t), .val (.int u), .val (.int (0 : Int32)), .val (.int (n - (1 : Int32))), .val (.int (1 : Int32)), .val (.int (1 : Int32)), .val (.int (1 : Int32)), .val (.int (1 : Int32)), .val (.int (t + (1 : Int32)))] rfl 267 rfl ?_
        refine own_iload X16 hx (hb hby at_267) rfl 269 rfl ?_
        refine own_ifN X16 hx (hb hby at_269) ((if0 _ _).trans (feq (by decide : ¬ ((1 : Int32) = (0 : Int32)))).1) 272 rfl ?_
        refine own_iload X16 hx (hb hby at_272) rfl 274 rfl ?_
        refine own_ifN X16 hx (hb hby at_274) ((if0 _ _).trans (feq (by decide : ¬ ((1 : Int32) = (0 : Int32)))).1) 277 rfl ?_
        refine own_iload X16 hx (hb hby at_277) rfl 279 rfl ?_
        refine own_ifN X16 hx (hb hby at_279) ((if0 _ _).trans (feq (by decide : ¬ ((1 : Int32) = (0 : Int32)))).1) 282 rfl ?_
        refine own_iload X16 hx (hb hby at_282) rfl 284 rfl ?_
        refine own_ifN X16 hx (hb hby at_284) ((if0 _ _).trans (feq (by decide : ¬ ((1 : Int32) = (0 : Int32)))).1) 287 rfl ?_
        refine own_iconst X16 hx (hb hby at_287) (1 : Int32) rfl 288 rfl ?_
        refine own_goto X16 hx (hb hby at_288) 292 (by decide) (by decide) ?_
        exact own_retZ X16 hx hk hret (hb hby at_292) rfl ⟨rfl, Fr.nil _⟩ (by decide) (by decide)
      · skip
        refine own_icmpY X12 hx (hb hby at_213) (flt hc213_14).2.1 267 (by decide) (by decide) ?_
        refine own_iload X12 hx (hb hby at_267) rfl 269 rfl ?_
        refine own_ifN X12 hx (hb hby at_269) ((if0 _ _).trans (feq (by decide : ¬ ((1 : Int32) = (0 : Int32)))).1) 272 rfl ?_
        refine own_iload X12 hx (hb hby at_272) rfl 274 rfl ?_
        refine own_ifN X12 hx (hb hby at_274) ((if0 _ _).trans (feq (by decide : ¬ ((1 : Int32) = (0 : Int32)))).1) 277 rfl ?_
        refine own_iload X12 hx (hb hby at_277) rfl 279 rfl ?_
        refine own_ifN X12 hx (hb hby at_279) ((if0 _ _).trans (feq (by decide : ¬ ((1 : Int32) = (0 : Int32)))).1) 282 rfl ?_
        refine own_iload X12 hx (hb hby at_282) rfl 284 rfl ?_
        refine own_ifN X12 hx (hb hby at_284) ((if0 _ _).trans (feq (by decide : ¬ ((1 : Int32) = (0 : Int32)))).1) 287 rfl ?_
        refine own_iconst X12 hx (hb hby at_287) (1 : Int32) rfl 288 rfl ?_
        refine own_goto X12 hx (hb hby at_288) 292 (by decide) (by decide) ?_
        exact own_retZ X12 hx hk hret (hb hby at_292) rfl ⟨rfl, Fr.nil _⟩ (by decide) (by decide)
    · skip
      refine own_icmpY X12 hx (hb hby at_126) (feq hc126_13).2 133 (by decide) (by decide) ?_
      refine own_iconst X12 hx (hb hby at_133) (0 : Int32) rfl 134 rfl ?_
      refine own_iload X12 hx (hb hby at_134) rfl 136 rfl ?_
      refine own_iload X12 hx (hb hby at_136) rfl 138 rfl ?_
      refine own_icmpY X12 hx (hb hby at_138) (feq hc126_13).2 145 (by decide) (by decide) ?_
      refine own_iconst X12 hx (hb hby at_145) (0 : Int32) rfl 146 rfl ?_
      refine own_icmpN X12 hx (hb hby at_146) (teq (by decide : (0 : Int32) = (0 : Int32))).2 149 rfl ?_
      refine own_iconst X12 hx (hb hby at_149) (1 : Int32) rfl 150 rfl ?_
      refine own_goto X12 hx (hb hby at_150) 154 (by decide) (by decide) ?_
      refine own_istore X12 hx (hb hby at_154) #[.val (.int x0), .val (.int x1), .val (.int x2), .val (.int x3), .val (.int n), .val (.int t), .val (.int u), .val (.int (0 : Int32)), .val (.ref w_Money_Leftover_LAST_SHARE), .val (.int t), .val (.int u), .val (.int (0 : Int32)), .val (.int (n - (1 : Int32))), .val (.int (1 : Int32)), .val (.int (1 : Int32)), .unset, .unset, .unset] rfl 156 rfl ?_
      refine own_iload X12 hx (hb hby at_156) rfl 158 rfl ?_
      refine own_ifY X12 hx (hb hby at_158) ((if0 _ _).trans (teq (by decide : (0 : Int32) = (0 : Int32))).1) 183 (by decide) (by decide) ?_
      refine own_iload X12 hx (hb hby at_183) rfl 185 rfl ?_
      refine own_ifN X12 hx (hb hby at_185) ((if0 _ _).trans (teq (by decide : (0 : Int32) = (0 : Int32))).2) 188 rfl ?_
      refine own_iload X12 hx (hb hby at_188) rfl 190 rfl ?_
      refine own_iload X12 hx (hb hby at_190) rfl 192 rfl ?_
      refine own_iconst X12 hx (hb hby at_192) (1 : Int32) rfl 193 rfl ?_
      refine own_isub X12 hx (hb hby at_193) 194 rfl ?_
      refine own_icmpN X12 hx (hb hby at_194) (teq (rfl : (n - (1 : Int32)) = (n - (1 : Int32)))).2 197 rfl ?_
      refine own_iconst X12 hx (hb hby at_197) (1 : Int32) rfl 198 rfl ?_
      refine own_goto X12 hx (hb hby at_198) 202 (by decide) (by decide) ?_
      refine own_istore X12 hx (hb hby at_202) #[.val (.int x0), .val (.int x1), .val (.int x2), .val (.int x3), .val (.int n), .val (.int t), .val (.int u), .val (.int (0 : Int32)), .val (.ref w_Money_Leftover_LAST_SHARE), .val (.int t), .val (.int u), .val (.int (0 : Int32)), .val (.int (n - (1 : Int32))), .val (.int (1 : Int32)), .val (.int (1 : Int32)), .val (.int (1 : Int32)), .unset, .unset] rfl 204 rfl ?_
      refine own_iconst X12 hx (hb hby at_204) (1 : Int32) rfl 205 rfl ?_
      refine own_istore X12 hx (hb hby at_205) #[.val (.int x0), .val (.int x1), .val (.int x2), .val (.int x3), .val (.int n), .val (.int t), .val (.int u), .val (.int (0 : Int32)), .val (.ref w_Money_Leftover_LAST_SHARE), .val (.int t), .val (.int u), .val (.int (0 : Int32)), .val (.int (n - (1 : Int32))), .val (.int (1 : Int32)), .val (.int (1 : Int32)), .val (.int (1 : Int32)), .val (.int (1 : Int32)), .unset] rfl 207 rfl ?_
      refine own_iload X12 hx (hb hby at_207) rfl 209 rfl ?_
      refine own_iconst X12 hx (hb hby at_209) (1 : Int32) rfl 210 rfl ?_
      refine own_iadd X12 hx (hb hby at_210) 211 rfl ?_
      refine own_iload X12 hx (hb hby at_211) rfl 213 rfl ?_
      rcases Decidable.em ((t + (1 : Int32)) < n) with hc213_17 | hc213_17
      · skip
        refine own_icmpN X12 hx (hb hby at_213) (tlt hc213_17).2.1 216 rfl ?_
        refine own_aload X12 hx (hb hby at_216) rfl rfl 218 rfl ?_
        refine own_iload X12 hx (hb hby at_218) rfl 220 rfl ?_
        refine own_iconst X12 hx (hb hby at_220) (1 : Int32) rfl 221 rfl ?_
        refine own_iadd X12 hx (hb hby at_221) 222 rfl ?_
        refine own_iload X12 hx (hb hby at_222) rfl 224 rfl ?_
        refine own_pureV X12 hx hZ hown (own_w hw 8 rfl) (own_w hw 9 rfl) (notFace_of_selects (args := #[]) (mvT hZ (own_w hw 11 rfl))) (own_w hw 11 rfl) (own_w hw 10 rfl) (own_w hw 6 rfl) (own_w hw 12 rfl) (by decide) w_Money_Leftover_LAST_SHARE [(.int (t + (1 : Int32))), (.int n)] [] 0 (rm_cutAt_1 l Z a0 hw [] ((t + (1 : Int32))) (n) h0 n0 H) (by decide) (by decide) rfl rfl e12 E_w_Money_Leftover_LAST_SHARE (by rw [hml]; rfl) (lenOf pd_0 rfl) (Nat.le_of_eq rfl) (hb hby at_224) 227 rfl rfl (by decide) (by decide) fun T19 X19 e19 => ?_
        refine own_istore X19 hx (hb hby at_227) #[.val (.int x0), .val (.int x1), .val (.int x2), .val (.int x3), .val (.int n), .val (.int t), .val (.int u), .val (.int (0 : Int32)), .val (.ref w_Money_Leftover_LAST_SHARE), .val (.int t), .val (.int u), .val (.int (0 : Int32)), .val (.int (n - (1 : Int32))), .val (.int (1 : Int32)), .val (.int (1 : Int32)), .val (.int (1 : Int32)), .val (.int (1 : Int32)), .val (.int (t + (1 : Int32)))] rfl 229 rfl ?_
        refine own_iload X19 hx (hb hby at_229) rfl 231 rfl ?_
        refine own_ifY X19 hx (hb hby at_231) ((if0 _ _).trans (teq (by decide : (0 : Int32) = (0 : Int32))).1) 251 (by decide) (by decide) ?_
        refine own_iload X19 hx (hb hby at_251) rfl 253 rfl ?_
        refine own_iload X19 hx (hb hby at_253) rfl 255 rfl ?_
        refine own_iconst X19 hx (hb hby at_255) (1 : Int32) rfl 256 rfl ?_
        refine own_iadd X19 hx (hb hby at_256) 257 rfl ?_
        refine own_icmpN X19 hx (hb hby at_257) (teq (rfl : (t + (1 : Int32)) = (t + (1 : Int32)))).2 260 rfl ?_
        refine own_iconst X19 hx (hb hby at_260) (1 : Int32) rfl 261 rfl ?_
        refine own_goto X19 hx (hb hby at_261) 265 (by decide) (by decide) ?_
        refine own_istore X19 hx (hb hby at_265) #[.val (.int x0), .val (.int x1), .val (.int x2), .val (.int x3), .val (.int n), .val (.int t), .val (.int u), .val (.int (0 : Int32)), .val (.ref w_Money_Leftover_LAST_SHARE), .val (.int t), .val (.int u), .val (.int (0 : Int32)), .val (.int (n - (1 : Int32))), .val (.int (1 : Int32)), .val (.int (1 : Int32)), .val (.int (1 : Int32)), .val (.int (1 : Int32)), .val (.int (t + (1 : Int32)))] rfl 267 rfl ?_
        refine own_iload X19 hx (hb hby at_267) rfl 269 rfl ?_
        refine own_ifN X19 hx (hb hby at_269) ((if0 _ _).trans (feq (by decide : ¬ ((1 : Int32) = (0 : Int32)))).1) 272 rfl ?_
        refine own_iload X19 hx (hb hby at_272) rfl 274 rfl ?_
        refine own_ifN X19 hx (hb hby at_274) ((if0 _ _).trans (feq (by decide : ¬ ((1 : Int32) = (0 : Int32)))).1) 277 rfl ?_
        refine own_iload X19 hx (hb hby at_277) rfl 279 rfl ?_
        refine own_ifN X19 hx (hb hby at_279) ((if0 _ _).trans (feq (by decide : ¬ ((1 : Int32) = (0 : Int32)))).1) 282 rfl ?_
        refine own_iload X19 hx (hb hby at_282) rfl 284 rfl ?_
        refine own_ifN X19 hx (hb hby at_284) ((if0 _ _).trans (feq (by decide : ¬ ((1 : Int32) = (0 : Int32)))).1) 287 rfl ?_
        refine own_iconst X19 hx (hb hby at_287) (1 : Int32) rfl 288 rfl ?_
        refine own_goto X19 hx (hb hby at_288) 292 (by decide) (by decide) ?_
        exact own_retZ X19 hx hk hret (hb hby at_292) rfl ⟨rfl, Fr.nil _⟩ (by decide) (by decide)
      · skip
        refine own_icmpY X12 hx (hb hby at_213) (flt hc213_17).2.1 267 (by decide) (by decide) ?_
        refine own_iload X12 hx (hb hby at_267) rfl 269 rfl ?_
        refine own_ifN X12 hx (hb hby at_269) ((if0 _ _).trans (feq (by decide : ¬ ((1 : Int32) = (0 : Int32)))).1) 272 rfl ?_
        refine own_iload X12 hx (hb hby at_272) rfl 274 rfl ?_
        refine own_ifN X12 hx (hb hby at_274) ((if0 _ _).trans (feq (by decide : ¬ ((1 : Int32) = (0 : Int32)))).1) 277 rfl ?_
        refine own_iload X12 hx (hb hby at_277) rfl 279 rfl ?_
        refine own_ifN X12 hx (hb hby at_279) ((if0 _ _).trans (feq (by decide : ¬ ((1 : Int32) = (0 : Int32)))).1) 282 rfl ?_
        refine own_iload X12 hx (hb hby at_282) rfl 284 rfl ?_
        refine own_ifN X12 hx (hb hby at_284) ((if0 _ _).trans (feq (by decide : ¬ ((1 : Int32) = (0 : Int32)))).1) 287 rfl ?_
        refine own_iconst X12 hx (hb hby at_287) (1 : Int32) rfl 288 rfl ?_
        refine own_goto X12 hx (hb hby at_288) 292 (by decide) (by decide) ?_
        exact own_retZ X12 hx hk hret (hb hby at_292) rfl ⟨rfl, Fr.nil _⟩ (by decide) (by decide)
  · rw [q3]
    refine own_ifN X2 hx (hb hby at_31) ((if0 _ _).trans (feq (by decide : ¬ ((1 : Int32) = (0 : Int32)))).1) 34 rfl ?_
    refine own_iconst X2 hx (hb hby at_34) (1 : Int32) rfl 35 rfl ?_
    refine own_goto X2 hx (hb hby at_35) 39 (by decide) (by decide) ?_
    refine own_istore X2 hx (hb hby at_39) #[.val (.int x0), .val (.int x1), .val (.int x2), .val (.int x3), .val (.int n), .val (.int t), .val (.int u), .val (.int (1 : Int32)), .unset, .unset, .unset, .unset, .unset, .unset, .unset, .unset, .unset, .unset] rfl 41 rfl ?_
    refine own_iload X2 hx (hb hby at_41) rfl 43 rfl ?_
    refine own_ifN X2 hx (hb hby at_43) ((if0 _ _).trans (feq (by decide : ¬ ((1 : Int32) = (0 : Int32)))).1) 46 rfl ?_
    refine own_getS X2 hx hZ hown (host := "") (Or.inl (own_w hw 14 rfl)) Via.refl e2 S_w_Money_Leftover_FIRST_SHARE (hb hby at_46) 49 rfl fun T20 X20 e20 => ?_
    refine own_goto X20 hx (hb hby at_49) 55 (by decide) (by decide) ?_
    refine own_astore X20 hx (hb hby at_55) #[.val (.int x0), .val (.int x1), .val (.int x2), .val (.int x3), .val (.int n), .val (.int t), .val (.int u), .val (.int (1 : Int32)), .val (.ref w_Money_Leftover_FIRST_SHARE), .unset, .unset, .unset, .unset, .unset, .unset, .unset, .unset, .unset] rfl rfl 57 rfl ?_
    refine own_aload X20 hx (hb hby at_57) rfl rfl 59 rfl ?_
    refine own_iload X20 hx (hb hby at_59) rfl 61 rfl ?_
    refine own_iload X20 hx (hb hby at_61) rfl 63 rfl ?_
    refine own_pureV X20 hx hZ hown (own_w hw 8 rfl) (own_w hw 9 rfl) (notFace_of_selects (args := #[]) (mvT hZ (own_w hw 11 rfl))) (own_w hw 11 rfl) (own_w hw 10 rfl) (own_w hw 6 rfl) (own_w hw 12 rfl) (by decide) w_Money_Leftover_FIRST_SHARE [(.int t), (.int n)] [] 0 (rm_cutAt_3 l Z a0 hw [] (t) (n) h0 n0 H) (by decide) (by decide) rfl rfl e20 E_w_Money_Leftover_FIRST_SHARE (by rw [hml]; rfl) (lenOf pd_0 rfl) (Nat.le_of_eq rfl) (hb hby at_63) 66 rfl rfl (by decide) (by decide) fun T22 X22 e22 => ?_
    refine own_istore X22 hx (hb hby at_66) #[.val (.int x0), .val (.int x1), .val (.int x2), .val (.int x3), .val (.int n), .val (.int t), .val (.int u), .val (.int (1 : Int32)), .val (.ref w_Money_Leftover_FIRST_SHARE), .val (.int ((n - (1 : Int32)) - t)), .unset, .unset, .unset, .unset, .unset, .unset, .unset, .unset] rfl 68 rfl ?_
    refine own_aload X22 hx (hb hby at_68) rfl rfl 70 rfl ?_
    refine own_iload X22 hx (hb hby at_70) rfl 72 rfl ?_
    refine own_iload X22 hx (hb hby at_72) rfl 74 rfl ?_
    refine own_pureV X22 hx hZ hown (own_w hw 8 rfl) (own_w hw 9 rfl) (notFace_of_selects (args := #[]) (mvT hZ (own_w hw 11 rfl))) (own_w hw 11 rfl) (own_w hw 10 rfl) (own_w hw 6 rfl) (own_w hw 12 rfl) (by decide) w_Money_Leftover_FIRST_SHARE [(.int u), (.int n)] [] 0 (rm_cutAt_3 l Z a0 hw [] (u) (n) h0 n0 H) (by decide) (by decide) rfl rfl e22 E_w_Money_Leftover_FIRST_SHARE (by rw [hml]; rfl) (lenOf pd_0 rfl) (Nat.le_of_eq rfl) (hb hby at_74) 77 rfl rfl (by decide) (by decide) fun T24 X24 e24 => ?_
    refine own_istore X24 hx (hb hby at_77) #[.val (.int x0), .val (.int x1), .val (.int x2), .val (.int x3), .val (.int n), .val (.int t), .val (.int u), .val (.int (1 : Int32)), .val (.ref w_Money_Leftover_FIRST_SHARE), .val (.int ((n - (1 : Int32)) - t)), .val (.int ((n - (1 : Int32)) - u)), .unset, .unset, .unset, .unset, .unset, .unset, .unset] rfl 79 rfl ?_
    refine own_aload X24 hx (hb hby at_79) rfl rfl 81 rfl ?_
    refine own_iconst X24 hx (hb hby at_81) (0 : Int32) rfl 82 rfl ?_
    refine own_iload X24 hx (hb hby at_82) rfl 84 rfl ?_
    refine own_pureV X24 hx hZ hown (own_w hw 8 rfl) (own_w hw 9 rfl) (notFace_of_selects (args := #[]) (mvT hZ (own_w hw 11 rfl))) (own_w hw 11 rfl) (own_w hw 10 rfl) (own_w hw 6 rfl) (own_w hw 12 rfl) (by decide) w_Money_Leftover_FIRST_SHARE [(.int (0 : Int32)), (.int n)] [] 0 (rm_cutAt_4 l Z a0 hw [] (n) h0 n0 H) (by decide) (by decide) rfl rfl e24 E_w_Money_Leftover_FIRST_SHARE (by rw [hml]; rfl) (lenOf pd_0 rfl) (Nat.le_of_eq rfl) (hb hby at_84) 87 rfl rfl (by decide) (by decide) fun T26 X26 e26 => ?_
    refine own_istore X26 hx (hb hby at_87) #[.val (.int x0), .val (.int x1), .val (.int x2), .val (.int x3), .val (.int n), .val (.int t), .val (.int u), .val (.int (1 : Int32)), .val (.ref w_Money_Leftover_FIRST_SHARE), .val (.int ((n - (1 : Int32)) - t)), .val (.int ((n - (1 : Int32)) - u)), .val (.int ((n - (1 : Int32)) - (0 : Int32))), .unset, .unset, .unset, .unset, .unset, .unset] rfl 89 rfl ?_
    refine own_aload X26 hx (hb hby at_89) rfl rfl 91 rfl ?_
    refine own_iload X26 hx (hb hby at_91) rfl 93 rfl ?_
    refine own_iconst X26 hx (hb hby at_93) (1 : Int32) rfl 94 rfl ?_
    refine own_isub X26 hx (hb hby at_94) 95 rfl ?_
    refine own_iload X26 hx (hb hby at_95) rfl 97 rfl ?_
    refine own_pureV X26 hx hZ hown (own_w hw 8 rfl) (own_w hw 9 rfl) (notFace_of_selects (args := #[]) (mvT hZ (own_w hw 11 rfl))) (own_w hw 11 rfl) (own_w hw 10 rfl) (own_w hw 6 rfl) (own_w hw 12 rfl) (by decide) w_Money_Leftover_FIRST_SHARE [(.int (n - (1 : Int32))), (.int n)] [] 0 (rm_cutAt_3 l Z a0 hw [] ((n - (1 : Int32))) (n) h0 n0 H) (by decide) (by decide) rfl rfl e26 E_w_Money_Leftover_FIRST_SHARE (by rw [hml]; rfl) (lenOf pd_0 rfl) (Nat.le_of_eq rfl) (hb hby at_97) 100 rfl rfl (by decide) (by decide) fun T28 X28 e28 => ?_
    refine own_istore X28 hx (hb hby at_100) #[.val (.int x0), .val (.int x1), .val (.int x2), .val (.int x3), .val (.int n), .val (.int t), .val (.int u), .val (.int (1 : Int32)), .val (.ref w_Money_Leftover_FIRST_SHARE), .val (.int ((n - (1 : Int32)) - t)), .val (.int ((n - (1 : Int32)) - u)), .val (.int ((n - (1 : Int32)) - (0 : Int32))), .val (.int ((n - (1 : Int32)) - (n - (1 : Int32)))), .unset, .unset, .unset, .unset, .unset] rfl 102 rfl ?_
    refine own_iconst X28 hx (hb hby at_102) (0 : Int32) rfl 103 rfl ?_
    refine own_iload X28 hx (hb hby at_103) rfl 105 rfl ?_
    refine own_icmpN X28 hx (hb hby at_105) (flt hct.1).2.2.1 108 rfl ?_
    refine own_iload X28 hx (hb hby at_108) rfl 110 rfl ?_
    refine own_iload X28 hx (hb hby at_110) rfl 112 rfl ?_
    refine own_icmpN X28 hx (hb hby at_112) (tlt hct.2).2.1 115 rfl ?_
    refine own_iconst X28 hx (hb hby at_115) (1 : Int32) rfl 116 rfl ?_
    refine own_goto X28 hx (hb hby at_116) 120 (by decide) (by decide) ?_
    refine own_istore X28 hx (hb hby at_120) #[.val (.int x0), .val (.int x1), .val (.int x2), .val (.int x3), .val (.int n), .val (.int t), .val (.int u), .val (.int (1 : Int32)), .val (.ref w_Money_Leftover_FIRST_SHARE), .val (.int ((n - (1 : Int32)) - t)), .val (.int ((n - (1 : Int32)) - u)), .val (.int ((n - (1 : Int32)) - (0 : Int32))), .val (.int ((n - (1 : Int32)) - (n - (1 : Int32)))), .val (.int (1 : Int32)), .unset, .unset, .unset, .unset] rfl 122 rfl ?_
    refine own_iload X28 hx (hb hby at_122) rfl 124 rfl ?_
    refine own_iload X28 hx (hb hby at_124) rfl 126 rfl ?_
    rcases Decidable.em (t = u) with hc126_29 | hc126_29
    · skip
      refine own_icmpN X28 hx (hb hby at_126) (teq hc126_29).2 129 rfl ?_
      refine own_iconst X28 hx (hb hby at_129) (1 : Int32) rfl 130 rfl ?_
      refine own_goto X28 hx (hb hby at_130) 134 (by decide) (by decide) ?_
      refine own_iload X28 hx (hb hby at_134) rfl 136 rfl ?_
      refine own_iload X28 hx (hb hby at_136) rfl 138 rfl ?_
      refine own_icmpN X28 hx (hb hby at_138) (teq (by rw [hc126_29] : ((n - (1 : Int32)) - t) = ((n - (1 : Int32)) - u))).2 141 rfl ?_
      refine own_iconst X28 hx (hb hby at_141) (1 : Int32) rfl 142 rfl ?_
      refine own_goto X28 hx (hb hby at_142) 146 (by decide) (by decide) ?_
      refine own_icmpN X28 hx (hb hby at_146) (teq (by decide : (1 : Int32) = (1 : Int32))).2 149 rfl ?_
      refine own_iconst X28 hx (hb hby at_149) (1 : Int32) rfl 150 rfl ?_
      refine own_goto X28 hx (hb hby at_150) 154 (by decide) (by decide) ?_
      refine own_istore X28 hx (hb hby at_154) #[.val (.int x0), .val (.int x1), .val (.int x2), .val (.int x3), .val (.int n), .val (.int t), .val (.int u), .val (.int (1 : Int32)), .val (.ref w_Money_Leftover_FIRST_SHARE), .val (.int ((n - (1 : Int32)) - t)), .val (.int ((n - (1 : Int32)) - u)), .val (.int ((n - (1 : Int32)) - (0 : Int32))), .val (.int ((n - (1 : Int32)) - (n - (1 : Int32)))), .val (.int (1 : Int32)), .val (.int (1 : Int32)), .unset, .unset, .unset] rfl 156 rfl ?_
      refine own_iload X28 hx (hb hby at_156) rfl 158 rfl ?_
      refine own_ifN X28 hx (hb hby at_158) ((if0 _ _).trans (feq (by decide : ¬ ((1 : Int32) = (0 : Int32)))).1) 161 rfl ?_
      refine own_iload X28 hx (hb hby at_161) rfl 163 rfl ?_
      refine own_iload X28 hx (hb hby at_163) rfl 165 rfl ?_
      refine own_iconst X28 hx (hb hby at_165) (1 : Int32) rfl 166 rfl ?_
      refine own_isub X28 hx (hb hby at_166) 167 rfl ?_
      refine own_icmpN X28 hx (hb hby at_167) (teq (by grind : ((n - (1 : Int32)) - (0 : Int32)) = (n - (1 : Int32)))).2 170 rfl ?_
      refine own_iload X28 hx (hb hby at_170) rfl 172 rfl ?_
      refine own_ifN X28 hx (hb hby at_172) ((if0 _ _).trans (teq (by grind : ((n - (1 : Int32)) - (n - (1 : Int32))) = (0 : Int32))).2) 175 rfl ?_
      refine own_iconst X28 hx (hb hby at_175) (1 : Int32) rfl 176 rfl ?_
      refine own_goto X28 hx (hb hby at_176) 202 (by decide) (by decide) ?_
      refine own_istore X28 hx (hb hby at_202) #[.val (.int x0), .val (.int x1), .val (.int x2), .val (.int x3), .val (.int n), .val (.int t), .val (.int u), .val (.int (1 : Int32)), .val (.ref w_Money_Leftover_FIRST_SHARE), .val (.int ((n - (1 : Int32)) - t)), .val (.int ((n - (1 : Int32)) - u)), .val (.int ((n - (1 : Int32)) - (0 : Int32))), .val (.int ((n - (1 : Int32)) - (n - (1 : Int32)))), .val (.int (1 : Int32)), .val (.int (1 : Int32)), .val (.int (1 : Int32)), .unset, .unset] rfl 204 rfl ?_
      refine own_iconst X28 hx (hb hby at_204) (1 : Int32) rfl 205 rfl ?_
      refine own_istore X28 hx (hb hby at_205) #[.val (.int x0), .val (.int x1), .val (.int x2), .val (.int x3), .val (.int n), .val (.int t), .val (.int u), .val (.int (1 : Int32)), .val (.ref w_Money_Leftover_FIRST_SHARE), .val (.int ((n - (1 : Int32)) - t)), .val (.int ((n - (1 : Int32)) - u)), .val (.int ((n - (1 : Int32)) - (0 : Int32))), .val (.int ((n - (1 : Int32)) - (n - (1 : Int32)))), .val (.int (1 : Int32)), .val (.int (1 : Int32)), .val (.int (1 : Int32)), .val (.int (1 : Int32)), .unset] rfl 207 rfl ?_
      refine own_iload X28 hx (hb hby at_207) rfl 209 rfl ?_
      refine own_iconst X28 hx (hb hby at_209) (1 : Int32) rfl 210 rfl ?_
      refine own_iadd X28 hx (hb hby at_210) 211 rfl ?_
      refine own_iload X28 hx (hb hby at_211) rfl 213 rfl ?_
      rcases Decidable.em ((t + (1 : Int32)) < n) with hc213_30 | hc213_30
      · skip
        refine own_icmpN X28 hx (hb hby at_213) (tlt hc213_30).2.1 216 rfl ?_
        refine own_aload X28 hx (hb hby at_216) rfl rfl 218 rfl ?_
        refine own_iload X28 hx (hb hby at_218) rfl 220 rfl ?_
        refine own_iconst X28 hx (hb hby at_220) (1 : Int32) rfl 221 rfl ?_
        refine own_iadd X28 hx (hb hby at_221) 222 rfl ?_
        refine own_iload X28 hx (hb hby at_222) rfl 224 rfl ?_
        refine own_pureV X28 hx hZ hown (own_w hw 8 rfl) (own_w hw 9 rfl) (notFace_of_selects (args := #[]) (mvT hZ (own_w hw 11 rfl))) (own_w hw 11 rfl) (own_w hw 10 rfl) (own_w hw 6 rfl) (own_w hw 12 rfl) (by decide) w_Money_Leftover_FIRST_SHARE [(.int (t + (1 : Int32))), (.int n)] [] 0 (rm_cutAt_3 l Z a0 hw [] ((t + (1 : Int32))) (n) h0 n0 H) (by decide) (by decide) rfl rfl e28 E_w_Money_Leftover_FIRST_SHARE (by rw [hml]; rfl) (lenOf pd_0 rfl) (Nat.le_of_eq rfl) (hb hby at_224) 227 rfl rfl (by decide) (by decide) fun T32 X32 e32 => ?_
        refine own_istore X32 hx (hb hby at_227) #[.val (.int x0), .val (.int x1), .val (.int x2), .val (.int x3), .val (.int n), .val (.int t), .val (.int u), .val (.int (1 : Int32)), .val (.ref w_Money_Leftover_FIRST_SHARE), .val (.int ((n - (1 : Int32)) - t)), .val (.int ((n - (1 : Int32)) - u)), .val (.int ((n - (1 : Int32)) - (0 : Int32))), .val (.int ((n - (1 : Int32)) - (n - (1 : Int32)))), .val (.int (1 : Int32)), .val (.int (1 : Int32)), .val (.int (1 : Int32)), .val (.int (1 : Int32)), .val (.int ((n - (1 : Int32)) - (t + (1 : Int32))))] rfl 229 rfl ?_
        refine own_iload X32 hx (hb hby at_229) rfl 231 rfl ?_
        refine own_ifN X32 hx (hb hby at_231) ((if0 _ _).trans (feq (by decide : ¬ ((1 : Int32) = (0 : Int32)))).1) 234 rfl ?_
        refine own_iload X32 hx (hb hby at_234) rfl 236 rfl ?_
        refine own_iload X32 hx (hb hby at_236) rfl 238 rfl ?_
        refine own_iconst X32 hx (hb hby at_238) (1 : Int32) rfl 239 rfl ?_
        refine own_isub X32 hx (hb hby at_239) 240 rfl ?_
        refine own_icmpN X32 hx (hb hby at_240) (teq (by grind : ((n - (1 : Int32)) - (t + (1 : Int32))) = (((n - (1 : Int32)) - t) - (1 : Int32)))).2 243 rfl ?_
        refine own_iconst X32 hx (hb hby at_243) (1 : Int32) rfl 244 rfl ?_
        refine own_goto X32 hx (hb hby at_244) 265 (by decide) (by decide) ?_
        refine own_istore X32 hx (hb hby at_265) #[.val (.int x0), .val (.int x1), .val (.int x2), .val (.int x3), .val (.int n), .val (.int t), .val (.int u), .val (.int (1 : Int32)), .val (.ref w_Money_Leftover_FIRST_SHARE), .val (.int ((n - (1 : Int32)) - t)), .val (.int ((n - (1 : Int32)) - u)), .val (.int ((n - (1 : Int32)) - (0 : Int32))), .val (.int ((n - (1 : Int32)) - (n - (1 : Int32)))), .val (.int (1 : Int32)), .val (.int (1 : Int32)), .val (.int (1 : Int32)), .val (.int (1 : Int32)), .val (.int ((n - (1 : Int32)) - (t + (1 : Int32))))] rfl 267 rfl ?_
        refine own_iload X32 hx (hb hby at_267) rfl 269 rfl ?_
        refine own_ifN X32 hx (hb hby at_269) ((if0 _ _).trans (feq (by decide : ¬ ((1 : Int32) = (0 : Int32)))).1) 272 rfl ?_
        refine own_iload X32 hx (hb hby at_272) rfl 274 rfl ?_
        refine own_ifN X32 hx (hb hby at_274) ((if0 _ _).trans (feq (by decide : ¬ ((1 : Int32) = (0 : Int32)))).1) 277 rfl ?_
        refine own_iload X32 hx (hb hby at_277) rfl 279 rfl ?_
        refine own_ifN X32 hx (hb hby at_279) ((if0 _ _).trans (feq (by decide : ¬ ((1 : Int32) = (0 : Int32)))).1) 282 rfl ?_
        refine own_iload X32 hx (hb hby at_282) rfl 284 rfl ?_
        refine own_ifN X32 hx (hb hby at_284) ((if0 _ _).trans (feq (by decide : ¬ ((1 : Int32) = (0 : Int32)))).1) 287 rfl ?_
        refine own_iconst X32 hx (hb hby at_287) (1 : Int32) rfl 288 rfl ?_
        refine own_goto X32 hx (hb hby at_288) 292 (by decide) (by decide) ?_
        exact own_retZ X32 hx hk hret (hb hby at_292) rfl ⟨rfl, Fr.nil _⟩ (by decide) (by decide)
      · skip
        refine own_icmpY X28 hx (hb hby at_213) (flt hc213_30).2.1 267 (by decide) (by decide) ?_
        refine own_iload X28 hx (hb hby at_267) rfl 269 rfl ?_
        refine own_ifN X28 hx (hb hby at_269) ((if0 _ _).trans (feq (by decide : ¬ ((1 : Int32) = (0 : Int32)))).1) 272 rfl ?_
        refine own_iload X28 hx (hb hby at_272) rfl 274 rfl ?_
        refine own_ifN X28 hx (hb hby at_274) ((if0 _ _).trans (feq (by decide : ¬ ((1 : Int32) = (0 : Int32)))).1) 277 rfl ?_
        refine own_iload X28 hx (hb hby at_277) rfl 279 rfl ?_
        refine own_ifN X28 hx (hb hby at_279) ((if0 _ _).trans (feq (by decide : ¬ ((1 : Int32) = (0 : Int32)))).1) 282 rfl ?_
        refine own_iload X28 hx (hb hby at_282) rfl 284 rfl ?_
        refine own_ifN X28 hx (hb hby at_284) ((if0 _ _).trans (feq (by decide : ¬ ((1 : Int32) = (0 : Int32)))).1) 287 rfl ?_
        refine own_iconst X28 hx (hb hby at_287) (1 : Int32) rfl 288 rfl ?_
        refine own_goto X28 hx (hb hby at_288) 292 (by decide) (by decide) ?_
        exact own_retZ X28 hx hk hret (hb hby at_292) rfl ⟨rfl, Fr.nil _⟩ (by decide) (by decide)
    · skip
      refine own_icmpY X28 hx (hb hby at_126) (feq hc126_29).2 133 (by decide) (by decide) ?_
      refine own_iconst X28 hx (hb hby at_133) (0 : Int32) rfl 134 rfl ?_
      refine own_iload X28 hx (hb hby at_134) rfl 136 rfl ?_
      refine own_iload X28 hx (hb hby at_136) rfl 138 rfl ?_
      refine own_icmpY X28 hx (hb hby at_138) (feq (fun q => hc126_29 (own_cutinj q))).2 145 (by decide) (by decide) ?_
      refine own_iconst X28 hx (hb hby at_145) (0 : Int32) rfl 146 rfl ?_
      refine own_icmpN X28 hx (hb hby at_146) (teq (by decide : (0 : Int32) = (0 : Int32))).2 149 rfl ?_
      refine own_iconst X28 hx (hb hby at_149) (1 : Int32) rfl 150 rfl ?_
      refine own_goto X28 hx (hb hby at_150) 154 (by decide) (by decide) ?_
      refine own_istore X28 hx (hb hby at_154) #[.val (.int x0), .val (.int x1), .val (.int x2), .val (.int x3), .val (.int n), .val (.int t), .val (.int u), .val (.int (1 : Int32)), .val (.ref w_Money_Leftover_FIRST_SHARE), .val (.int ((n - (1 : Int32)) - t)), .val (.int ((n - (1 : Int32)) - u)), .val (.int ((n - (1 : Int32)) - (0 : Int32))), .val (.int ((n - (1 : Int32)) - (n - (1 : Int32)))), .val (.int (1 : Int32)), .val (.int (1 : Int32)), .unset, .unset, .unset] rfl 156 rfl ?_
      refine own_iload X28 hx (hb hby at_156) rfl 158 rfl ?_
      refine own_ifN X28 hx (hb hby at_158) ((if0 _ _).trans (feq (by decide : ¬ ((1 : Int32) = (0 : Int32)))).1) 161 rfl ?_
      refine own_iload X28 hx (hb hby at_161) rfl 163 rfl ?_
      refine own_iload X28 hx (hb hby at_163) rfl 165 rfl ?_
      refine own_iconst X28 hx (hb hby at_165) (1 : Int32) rfl 166 rfl ?_
      refine own_isub X28 hx (hb hby at_166) 167 rfl ?_
      refine own_icmpN X28 hx (hb hby at_167) (teq (by grind : ((n - (1 : Int32)) - (0 : Int32)) = (n - (1 : Int32)))).2 170 rfl ?_
      refine own_iload X28 hx (hb hby at_170) rfl 172 rfl ?_
      refine own_ifN X28 hx (hb hby at_172) ((if0 _ _).trans (teq (by grind : ((n - (1 : Int32)) - (n - (1 : Int32))) = (0 : Int32))).2) 175 rfl ?_
      refine own_iconst X28 hx (hb hby at_175) (1 : Int32) rfl 176 rfl ?_
      refine own_goto X28 hx (hb hby at_176) 202 (by decide) (by decide) ?_
      refine own_istore X28 hx (hb hby at_202) #[.val (.int x0), .val (.int x1), .val (.int x2), .val (.int x3), .val (.int n), .val (.int t), .val (.int u), .val (.int (1 : Int32)), .val (.ref w_Money_Leftover_FIRST_SHARE), .val (.int ((n - (1 : Int32)) - t)), .val (.int ((n - (1 : Int32)) - u)), .val (.int ((n - (1 : Int32)) - (0 : Int32))), .val (.int ((n - (1 : Int32)) - (n - (1 : Int32)))), .val (.int (1 : Int32)), .val (.int (1 : Int32)), .val (.int (1 : Int32)), .unset, .unset] rfl 204 rfl ?_
      refine own_iconst X28 hx (hb hby at_204) (1 : Int32) rfl 205 rfl ?_
      refine own_istore X28 hx (hb hby at_205) #[.val (.int x0), .val (.int x1), .val (.int x2), .val (.int x3), .val (.int n), .val (.int t), .val (.int u), .val (.int (1 : Int32)), .val (.ref w_Money_Leftover_FIRST_SHARE), .val (.int ((n - (1 : Int32)) - t)), .val (.int ((n - (1 : Int32)) - u)), .val (.int ((n - (1 : Int32)) - (0 : Int32))), .val (.int ((n - (1 : Int32)) - (n - (1 : Int32)))), .val (.int (1 : Int32)), .val (.int (1 : Int32)), .val (.int (1 : Int32)), .val (.int (1 : Int32)), .unset] rfl 207 rfl ?_
      refine own_iload X28 hx (hb hby at_207) rfl 209 rfl ?_
      refine own_iconst X28 hx (hb hby at_209) (1 : Int32) rfl 210 rfl ?_
      refine own_iadd X28 hx (hb hby at_210) 211 rfl ?_
      refine own_iload X28 hx (hb hby at_211) rfl 213 rfl ?_
      rcases Decidable.em ((t + (1 : Int32)) < n) with hc213_33 | hc213_33
      · skip
        refine own_icmpN X28 hx (hb hby at_213) (tlt hc213_33).2.1 216 rfl ?_
        refine own_aload X28 hx (hb hby at_216) rfl rfl 218 rfl ?_
        refine own_iload X28 hx (hb hby at_218) rfl 220 rfl ?_
        refine own_iconst X28 hx (hb hby at_220) (1 : Int32) rfl 221 rfl ?_
        refine own_iadd X28 hx (hb hby at_221) 222 rfl ?_
        refine own_iload X28 hx (hb hby at_222) rfl 224 rfl ?_
        refine own_pureV X28 hx hZ hown (own_w hw 8 rfl) (own_w hw 9 rfl) (notFace_of_selects (args := #[]) (mvT hZ (own_w hw 11 rfl))) (own_w hw 11 rfl) (own_w hw 10 rfl) (own_w hw 6 rfl) (own_w hw 12 rfl) (by decide) w_Money_Leftover_FIRST_SHARE [(.int (t + (1 : Int32))), (.int n)] [] 0 (rm_cutAt_3 l Z a0 hw [] ((t + (1 : Int32))) (n) h0 n0 H) (by decide) (by decide) rfl rfl e28 E_w_Money_Leftover_FIRST_SHARE (by rw [hml]; rfl) (lenOf pd_0 rfl) (Nat.le_of_eq rfl) (hb hby at_224) 227 rfl rfl (by decide) (by decide) fun T35 X35 e35 => ?_
        refine own_istore X35 hx (hb hby at_227) #[.val (.int x0), .val (.int x1), .val (.int x2), .val (.int x3), .val (.int n), .val (.int t), .val (.int u), .val (.int (1 : Int32)), .val (.ref w_Money_Leftover_FIRST_SHARE), .val (.int ((n - (1 : Int32)) - t)), .val (.int ((n - (1 : Int32)) - u)), .val (.int ((n - (1 : Int32)) - (0 : Int32))), .val (.int ((n - (1 : Int32)) - (n - (1 : Int32)))), .val (.int (1 : Int32)), .val (.int (1 : Int32)), .val (.int (1 : Int32)), .val (.int (1 : Int32)), .val (.int ((n - (1 : Int32)) - (t + (1 : Int32))))] rfl 229 rfl ?_
        refine own_iload X35 hx (hb hby at_229) rfl 231 rfl ?_
        refine own_ifN X35 hx (hb hby at_231) ((if0 _ _).trans (feq (by decide : ¬ ((1 : Int32) = (0 : Int32)))).1) 234 rfl ?_
        refine own_iload X35 hx (hb hby at_234) rfl 236 rfl ?_
        refine own_iload X35 hx (hb hby at_236) rfl 238 rfl ?_
        refine own_iconst X35 hx (hb hby at_238) (1 : Int32) rfl 239 rfl ?_
        refine own_isub X35 hx (hb hby at_239) 240 rfl ?_
        refine own_icmpN X35 hx (hb hby at_240) (teq (by grind : ((n - (1 : Int32)) - (t + (1 : Int32))) = (((n - (1 : Int32)) - t) - (1 : Int32)))).2 243 rfl ?_
        refine own_iconst X35 hx (hb hby at_243) (1 : Int32) rfl 244 rfl ?_
        refine own_goto X35 hx (hb hby at_244) 265 (by decide) (by decide) ?_
        refine own_istore X35 hx (hb hby at_265) #[.val (.int x0), .val (.int x1), .val (.int x2), .val (.int x3), .val (.int n), .val (.int t), .val (.int u), .val (.int (1 : Int32)), .val (.ref w_Money_Leftover_FIRST_SHARE), .val (.int ((n - (1 : Int32)) - t)), .val (.int ((n - (1 : Int32)) - u)), .val (.int ((n - (1 : Int32)) - (0 : Int32))), .val (.int ((n - (1 : Int32)) - (n - (1 : Int32)))), .val (.int (1 : Int32)), .val (.int (1 : Int32)), .val (.int (1 : Int32)), .val (.int (1 : Int32)), .val (.int ((n - (1 : Int32)) - (t + (1 : Int32))))] rfl 267 rfl ?_
        refine own_iload X35 hx (hb hby at_267) rfl 269 rfl ?_
        refine own_ifN X35 hx (hb hby at_269) ((if0 _ _).trans (feq (by decide : ¬ ((1 : Int32) = (0 : Int32)))).1) 272 rfl ?_
        refine own_iload X35 hx (hb hby at_272) rfl 274 rfl ?_
        refine own_ifN X35 hx (hb hby at_274) ((if0 _ _).trans (feq (by decide : ¬ ((1 : Int32) = (0 : Int32)))).1) 277 rfl ?_
        refine own_iload X35 hx (hb hby at_277) rfl 279 rfl ?_
        refine own_ifN X35 hx (hb hby at_279) ((if0 _ _).trans (feq (by decide : ¬ ((1 : Int32) = (0 : Int32)))).1) 282 rfl ?_
        refine own_iload X35 hx (hb hby at_282) rfl 284 rfl ?_
        refine own_ifN X35 hx (hb hby at_284) ((if0 _ _).trans (feq (by decide : ¬ ((1 : Int32) = (0 : Int32)))).1) 287 rfl ?_
        refine own_iconst X35 hx (hb hby at_287) (1 : Int32) rfl 288 rfl ?_
        refine own_goto X35 hx (hb hby at_288) 292 (by decide) (by decide) ?_
        exact own_retZ X35 hx hk hret (hb hby at_292) rfl ⟨rfl, Fr.nil _⟩ (by decide) (by decide)
      · skip
        refine own_icmpY X28 hx (hb hby at_213) (flt hc213_33).2.1 267 (by decide) (by decide) ?_
        refine own_iload X28 hx (hb hby at_267) rfl 269 rfl ?_
        refine own_ifN X28 hx (hb hby at_269) ((if0 _ _).trans (feq (by decide : ¬ ((1 : Int32) = (0 : Int32)))).1) 272 rfl ?_
        refine own_iload X28 hx (hb hby at_272) rfl 274 rfl ?_
        refine own_ifN X28 hx (hb hby at_274) ((if0 _ _).trans (feq (by decide : ¬ ((1 : Int32) = (0 : Int32)))).1) 277 rfl ?_
        refine own_iload X28 hx (hb hby at_277) rfl 279 rfl ?_
        refine own_ifN X28 hx (hb hby at_279) ((if0 _ _).trans (feq (by decide : ¬ ((1 : Int32) = (0 : Int32)))).1) 282 rfl ?_
        refine own_iload X28 hx (hb hby at_282) rfl 284 rfl ?_
        refine own_ifN X28 hx (hb hby at_284) ((if0 _ _).trans (feq (by decide : ¬ ((1 : Int32) = (0 : Int32)))).1) 287 rfl ?_
        refine own_iconst X28 hx (hb hby at_287) (1 : Int32) rfl 288 rfl ?_
        refine own_goto X28 hx (hb hby at_288) 292 (by decide) (by decide) ?_
        exact own_retZ X28 hx hk hret (hb hby at_292) rfl ⟨rfl, Fr.nil _⟩ (by decide) (by decide)
set_option maxRecDepth 65536 in
set_option maxHeartbeats 40000000 in
theorem comes_1 {Post : Tables → Env → Array Value → State → Outcome → State → Prop} (hpost : ∀ tb e args s v u, (limb_1_1.after args s (.returned v) u = true ∧ limb_1_2.after args s (.returned v) u = true ∧ True) → FrameEnd s (.returned v) u (Jvm.fieldLocs frame_1_writes args s ++ Jvm.arrayLocs frame_1_arrays args s ++ Jvm.staticLocs frame_1_statics s) 0 0 → Post tb e args s (.returned v) u) :
    ArmFor flags0 classFile x code maxLocals ret World_1 tables_1 room_1 Calls_1 rest_1 Pre_1 Post := by
  intro l hfl _ _ p e ha hc hk s m args below hf hA hF happ hP
  obtain ⟨hcalls, hrest, hpre⟩ := hP
  obtain ⟨-, -, -, hnamed, -, -, -, hat⟩ := (Spec.applies_iff hf).mp happ
  obtain ⟨hg, hn⟩ := and_e (Cond.before_iff.mp (show (Jvm.Cond.and given_1 narrow_1).before args s = true from hpre))
  obtain ⟨hn101a, hn101b⟩ := and_e hg
  obtain ⟨hn102a, hn102b⟩ := and_e hn101b
  obtain ⟨hn103a, hn103b⟩ := and_e hn102b
  obtain ⟨hn104a, hn104b⟩ := and_e hn103b
  obtain ⟨w0, w1, w2, w3, rfl⟩ : ∃ w0 w1 w2 w3 : Value, args = #[w0, w1, w2, w3] := by
    have hs : args.size = 4 := by simpa [Cond.value, given_1] using hn101a
    obtain ⟨L⟩ := args
    match L, hs with
    | [w0, w1, w2, w3], _ => exact ⟨w0, w1, w2, w3, rfl⟩
  have hw := fun d (hd : d ∈ tables_1) => atoms_spec (ws := Jvm.Cond.code x code maxLocals ret :: tables_1) hat d (List.mem_cons_of_mem _ hd)
  have hfit : Fit s := fun {y c} hc i hi => by
    obtain ⟨ha, rfl⟩ := Array.getElem?_eq_some_iff.mp hc
    have q := List.all_eq_true.mp ((Array.all_eq_true_iff_forall_mem.mp hF) _ (Array.getElem_mem ha)) i (List.mem_range.mpr hi)
    simpa [Array.getElem?_eq_getElem hi] using q
  obtain ⟨i0, ei0⟩ := is_v hn102a
  obtain rfl : w0 = (.int i0) := Option.some.inj ei0
  obtain ⟨i1, ei1⟩ := is_v hn103a
  obtain rfl : w1 = (.int i1) := Option.some.inj ei1
  obtain ⟨i2, ei2⟩ := is_v hn104a
  obtain rfl : w2 = (.int i2) := Option.some.inj ei2
  obtain ⟨i3, ei3⟩ := is_v hn104b
  obtain rfl : w3 = (.int i3) := Option.some.inj ei3
  obtain ⟨hn1a, hn1b⟩ := and_e hn
  obtain ⟨hn2a, hn2b⟩ := and_e hn1b
  obtain ⟨hn3a, hn3b⟩ := and_e hn2b
  obtain ⟨w_Money_Leftover_LAST_SHARE, ev_w_Money_Leftover_LAST_SHARE⟩ := exa_v hn1a
  have S_w_Money_Leftover_LAST_SHARE := Sta.start ev_w_Money_Leftover_LAST_SHARE (Or.inr ⟨(own_w hw 6 rfl), (own_w hw 7 rfl)⟩)
  have E_w_Money_Leftover_LAST_SHARE := Exa.start ev_w_Money_Leftover_LAST_SHARE hn1a
  obtain ⟨w_Money_Leftover_FIRST_SHARE, ev_w_Money_Leftover_FIRST_SHARE⟩ := exa_v hn2a
  have S_w_Money_Leftover_FIRST_SHARE := Sta.start ev_w_Money_Leftover_FIRST_SHARE (Or.inr ⟨(own_w hw 6 rfl), (own_w hw 15 rfl)⟩)
  have E_w_Money_Leftover_FIRST_SHARE := Exa.start ev_w_Money_Leftover_FIRST_SHARE hn2a
  have F_w_Money_Leftover_FIRST_SHARE_ordinal := own_fldI ev_w_Money_Leftover_FIRST_SHARE hn3a
  have F_w_Money_Leftover_LAST_SHARE_ordinal := own_fldI ev_w_Money_Leftover_LAST_SHARE hn3b
  have ne_w_Money_Leftover_FIRST_SHARE_w_Money_Leftover_LAST_SHARE : w_Money_Leftover_FIRST_SHARE ≠ w_Money_Leftover_LAST_SHARE := Fld.ne F_w_Money_Leftover_FIRST_SHARE_ordinal F_w_Money_Leftover_LAST_SHARE_ordinal (by intro q; cases q)
  obtain ⟨n, o, h1, h2, h3, _, L, rfl, ⟨rfl, N⟩, hq⟩ := rm0 l s _ hw tables_1 i0 i1 i2 i3 s.heap s.heap.size (show own_C s s.heap w_Money_Leftover_LAST_SHARE w_Money_Leftover_FIRST_SHARE from ⟨S_w_Money_Leftover_LAST_SHARE, E_w_Money_Leftover_LAST_SHARE, S_w_Money_Leftover_FIRST_SHARE, E_w_Money_Leftover_FIRST_SHARE, F_w_Money_Leftover_FIRST_SHARE_ordinal, F_w_Money_Leftover_LAST_SHARE_ordinal, ne_w_Money_Leftover_FIRST_SHARE_w_Money_Leftover_LAST_SHARE⟩) p e ha hc hk s m _ below hf ((Spec.applies_iff_loose hf).mp happ).1 ⟨rfl, State.Warmed39.refl s, rfl⟩ trivial
  refine ⟨n, _, h1, h2, h3, hpost _ _ _ _ _ _ ⟨Cond.after_iff.mpr rfl, Cond.after_iff.mpr (eq_i res_at (Term.int_eval (1)) rfl), trivial⟩ ⟨hq.1, hq.2.1, (hq.2.2.sift fun y hy => Or.inr (N y hy)).mono (by decide) (by decide)⟩⟩
theorem main_1_1 : Claimed_1_1 := comes_1 fun _ _ _ _ _ _ h hF => ⟨h.1, hF⟩
theorem main_1_2 : Claimed_1_2 := comes_1 fun _ _ _ _ _ _ h hF => ⟨h.2.1, hF⟩
end Jvm.Pilot.@@N@@
namespace Jvm.Pilot.@@N@@
open Jvm Jvm.ClassFile Sem Op Lib Jvm.Free Jvm.Stand Jvm.Pilot.@@N@@.Jvm.D
/-! MADE BY PROGRAM (witnessworld.py) out of the Statement's table words and the real class files: 13 classes; the members and pool entries that the words name. The judged class is class 1, her method 1. -/
namespace start1
open Jvm.ClassFile
def u (s : String) : CpInfo := .utf8 (stringToUtf16 s)
/-- a pool by its gaps: so many unusable entries, then the entry; so many at the end -/
def gap : Nat → List CpInfo → List CpInfo
  | 0, r => r
  | n + 1, r => .unusable :: gap n r
def poolList (es : List (Nat × CpInfo)) (last : Nat) : List CpInfo := es.foldr (fun e r => gap e.1 (e.2 :: r)) (gap last [])
def pool (es : List (Nat × CpInfo)) (last : Nat) : Array CpInfo := ⟨poolList es last⟩
def fileOf (pool : Array CpInfo) (this : Nat) (attrs : Array Attribute := #[]) (ms : Array MethodInfo := #[]) (fl : Nat := 33) (sup : Nat := 0) (ifs : Array Nat := #[]) (fds : Array FieldInfo := #[]) : ClassFile where
  minorVersion := 0
  majorVersion := 65
  constantPool := pool
  accessFlags := fl
  thisClass := this
  superClass := sup
  interfaces := ifs
  fields := fds
  methods := ms
  attributes := attrs
def plain (name : String) (sup : Option ClassId) : Class where
  name := name
  kind := .ordinary
  loader := none
  accessFlags := 33
  super := sup
  interfaces := #[]
  cf := none
  fields := #[]
  methods := #[]
  instanceTypes := #[]
  staticTypes := #[]
  resolved := #[]
  callSites := []
  init := .initialized
  statics := none
  mirror := none

def pool0 : Array CpInfo := pool [(5, u "<init>"), (0, u "()V"), (1, .class_ 10), (1, u "java/lang/Object")] 113

def k0m0 : Method := { name := "<init>", desc := "()V", sig := { parameters := [], returnType := none }, accessFlags := 1, code := none }
/-- java/lang/Object -/
def k0 : Class := { plain "java/lang/Object" none with
  accessFlags := 33
  interfaces := #[]
  cf := some (fileOf pool0 8 #[] #[{ accessFlags := 1, nameIndex := 5, descriptorIndex := 6, attributes := #[] }] 33 0 #[] #[])
  fields := #[]
  methods := #[k0m0]
  instanceTypes := #[]
  staticTypes := #[]
  resolved := Array.replicate 124 none
  statics := none }

def pool1 : Array CpInfo := pool [(2, .class_ 4), (1, u "java/lang/Object"), (0, u "<init>"), (0, u "()V"), (0, .integer 2147483647), (0, .methodref 9 10), (0, .class_ 11), (0, .nameAndType 12 13), (0, u "java/lang/Math"), (0, u "max"), (0, u "(II)I"), (0, .fieldref 15 16), (0, .class_ 17), (0, .nameAndType 18 19), (0, u "com/example/revline/revline/money/Money$Leftover"), (0, u "FIRST_SHARE"), (0, u "Lcom/example/revline/revline/money/Money$Leftover;"), (0, .fieldref 15 21), (0, .nameAndType 22 19), (0, u "LAST_SHARE"), (0, .methodref 15 24), (0, .nameAndType 25 13), (0, u "cutAt"), (0, .class_ 27), (0, u "com/example/revline/revline/money/LeftoverCutAtPinLaw"), (2, u "law"), (0, u "(IIII)Z")] 7

def k1m0 : Method := { name := "<init>", desc := "()V", sig := { parameters := [], returnType := none }, accessFlags := 1, code := none }
def k1c1 : Code := { maxStack := 3, maxLocals := 18, code := code, exceptionTable := #[], attributes := #[] }
def k1m1 : Method := { name := "law", desc := "(IIII)Z", sig := { parameters := [.int, .int, .int, .int], returnType := some .boolean }, accessFlags := 9, code := some k1c1 }
/-- com/example/revline/revline/money/LeftoverCutAtPinLaw -/
def k1 : Class := { plain "com/example/revline/revline/money/LeftoverCutAtPinLaw" (some 0) with
  accessFlags := 49
  interfaces := #[]
  cf := some (fileOf pool1 26 #[] #[{ accessFlags := 1, nameIndex := 5, descriptorIndex := 6, attributes := #[] }, { accessFlags := 9, nameIndex := 30, descriptorIndex := 31, attributes := #[] }] 49 2 #[] #[])
  fields := #[]
  methods := #[k1m0, k1m1]
  instanceTypes := #[]
  staticTypes := #[]
  resolved := Array.replicate 39 none
  statics := none }

def pool2 : Array CpInfo := pool [(1, .class_ 2), (0, u "java/lang/Math"), (1, .class_ 6), (1, u "java/lang/Object"), (0, u "<init>"), (0, u "()V"), (89, .class_ 100), (1, u "java/lang/Math$RandomNumberGeneratorHolder"), (71, u "negativeZeroFloatBits"), (0, u "J"), (2, u "negativeZeroDoubleBits"), (21, u "max"), (46, u "$assertionsDisabled"), (0, u "Z"), (88, u "(II)I"), (2, u "twoToTheDoubleScaleDown"), (0, u "D"), (4, u "twoToTheDoubleScaleUp"), (9, u "E"), (3, u "PI"), (2, u "TAU"), (2, u "DEGREES_TO_RADIANS"), (0, u "RADIANS_TO_DEGREES")] 94

def k2m0 : Method := { name := "<init>", desc := "()V", sig := { parameters := [], returnType := none }, accessFlags := 2, code := none }
def k2c1 : Code := { maxStack := 2, maxLocals := 2, code := jdk_29_method_65_code, exceptionTable := #[], attributes := #[] }
def k2m1 : Method := { name := "max", desc := "(II)I", sig := { parameters := [.int, .int], returnType := some .int }, accessFlags := 9, code := some k2c1 }
/-- java/lang/Math -/
def k2 : Class := { plain "java/lang/Math" (some 0) with
  accessFlags := 49
  interfaces := #[]
  cf := some (fileOf pool2 1 #[.nestMembers #[98]] #[{ accessFlags := 2, nameIndex := 7, descriptorIndex := 8, attributes := #[] }, { accessFlags := 9, nameIndex := 198, descriptorIndex := 335, attributes := #[] }] 49 4 #[] #[{ accessFlags := 25, nameIndex := 354, descriptorIndex := 339, attributes := #[] }, { accessFlags := 25, nameIndex := 358, descriptorIndex := 339, attributes := #[] }, { accessFlags := 25, nameIndex := 361, descriptorIndex := 339, attributes := #[] }, { accessFlags := 26, nameIndex := 364, descriptorIndex := 339, attributes := #[] }, { accessFlags := 26, nameIndex := 365, descriptorIndex := 339, attributes := #[] }, { accessFlags := 26, nameIndex := 172, descriptorIndex := 173, attributes := #[] }, { accessFlags := 26, nameIndex := 176, descriptorIndex := 173, attributes := #[] }, { accessFlags := 8, nameIndex := 344, descriptorIndex := 339, attributes := #[] }, { accessFlags := 8, nameIndex := 338, descriptorIndex := 339, attributes := #[] }, { accessFlags := 4120, nameIndex := 245, descriptorIndex := 246, attributes := #[] }])
  fields := #[{ name := "E", type := .double, accessFlags := 25, slot := 0, constantValue := 0 }, { name := "PI", type := .double, accessFlags := 25, slot := 1, constantValue := 0 }, { name := "TAU", type := .double, accessFlags := 25, slot := 2, constantValue := 0 }, { name := "DEGREES_TO_RADIANS", type := .double, accessFlags := 26, slot := 3, constantValue := 0 }, { name := "RADIANS_TO_DEGREES", type := .double, accessFlags := 26, slot := 4, constantValue := 0 }, { name := "negativeZeroFloatBits", type := .long, accessFlags := 26, slot := 5, constantValue := 0 }, { name := "negativeZeroDoubleBits", type := .long, accessFlags := 26, slot := 6, constantValue := 0 }, { name := "twoToTheDoubleScaleUp", type := .double, accessFlags := 8, slot := 7, constantValue := 0 }, { name := "twoToTheDoubleScaleDown", type := .double, accessFlags := 8, slot := 8, constantValue := 0 }, { name := "$assertionsDisabled", type := .boolean, accessFlags := 4120, slot := 9, constantValue := 0 }]
  methods := #[k2m0, k2m1]
  instanceTypes := #[]
  staticTypes := #[.double, .double, .double, .double, .double, .long, .long, .double, .double, .boolean]
  resolved := Array.replicate 460 none
  statics := none }

def pool3 : Array CpInfo := pool [(1, .class_ 2), (0, u "java/lang/constant/Constable"), (0, .class_ 4), (0, u "java/lang/Object")] 6

/-- java/lang/constant/Constable -/
def k3 : Class := { plain "java/lang/constant/Constable" (some 0) with
  accessFlags := 1537
  interfaces := #[]
  cf := some (fileOf pool3 1 #[] #[] 1537 3 #[] #[])
  fields := #[]
  methods := #[]
  instanceTypes := #[]
  staticTypes := #[]
  resolved := Array.replicate 11 none
  statics := none }

def pool4 : Array CpInfo := pool [(1, .class_ 2), (0, u "java/lang/Comparable"), (0, .class_ 4), (0, u "java/lang/Object")] 7

/-- java/lang/Comparable -/
def k4 : Class := { plain "java/lang/Comparable" (some 0) with
  accessFlags := 1537
  interfaces := #[]
  cf := some (fileOf pool4 1 #[] #[] 1537 3 #[] #[])
  fields := #[]
  methods := #[]
  instanceTypes := #[]
  staticTypes := #[]
  resolved := Array.replicate 12 none
  statics := none }

def pool5 : Array CpInfo := pool [(1, .class_ 2), (0, u "java/io/Serializable"), (0, .class_ 4), (0, u "java/lang/Object")] 2

/-- java/io/Serializable -/
def k5 : Class := { plain "java/io/Serializable" (some 0) with
  accessFlags := 1537
  interfaces := #[]
  cf := some (fileOf pool5 1 #[] #[] 1537 3 #[] #[])
  fields := #[]
  methods := #[]
  instanceTypes := #[]
  staticTypes := #[]
  resolved := Array.replicate 7 none
  statics := none }

def pool6 : Array CpInfo := pool [(2, .class_ 4), (1, u "java/lang/Enum"), (0, u "name"), (0, u "Ljava/lang/String;"), (2, u "ordinal"), (0, u "I"), (1, .class_ 14), (1, u "java/lang/Object"), (4, u "hash"), (86, .class_ 108), (1, u "java/lang/Enum$EnumDesc"), (2, .class_ 112), (0, u "java/lang/constant/Constable"), (0, .class_ 114), (0, u "java/lang/Comparable"), (0, .class_ 116), (0, u "java/io/Serializable")] 87

/-- java/lang/Enum -/
def k6 : Class := { plain "java/lang/Enum" (some 0) with
  accessFlags := 1057
  interfaces := #[3, 4, 5]
  cf := some (fileOf pool6 2 #[.nestMembers #[106]] #[] 1057 12 #[111, 113, 115] #[{ accessFlags := 18, nameIndex := 5, descriptorIndex := 6, attributes := #[] }, { accessFlags := 18, nameIndex := 9, descriptorIndex := 10, attributes := #[] }, { accessFlags := 2, nameIndex := 19, descriptorIndex := 10, attributes := #[] }])
  fields := #[{ name := "name", type := (.object "java/lang/String"), accessFlags := 18, slot := 0, constantValue := 0 }, { name := "ordinal", type := .int, accessFlags := 18, slot := 1, constantValue := 0 }, { name := "hash", type := .int, accessFlags := 2, slot := 2, constantValue := 0 }]
  methods := #[]
  instanceTypes := #[(.object "java/lang/String"), .int, .int]
  staticTypes := #[]
  resolved := Array.replicate 204 none
  statics := none }

def pool7 : Array CpInfo := pool [(1, .class_ 2), (0, u "com/example/revline/revline/money/Money$Leftover"), (0, .fieldref 1 4), (0, .nameAndType 5 6), (0, u "LAST_SHARE"), (0, u "Lcom/example/revline/revline/money/Money$Leftover;"), (2, u "FIRST_SHARE"), (2, u "$VALUES"), (0, u "[Lcom/example/revline/revline/money/Money$Leftover;"), (6, .class_ 22), (1, u "java/lang/Enum"), (20, u "cutAt"), (0, u "(II)I"), (6, .class_ 52), (0, u "com/example/revline/revline/money/Money")] 2

def k7c0 : Code := { maxStack := 2, maxLocals := 3, code := prog_58_method_4_code, exceptionTable := #[], attributes := #[] }
def k7m0 : Method := { name := "cutAt", desc := "(II)I", sig := { parameters := [.int, .int], returnType := some .int }, accessFlags := 0, code := some k7c0 }
/-- com/example/revline/revline/money/Money$Leftover -/
def k7 : Class := { plain "com/example/revline/revline/money/Money$Leftover" (some 6) with
  accessFlags := 16433
  interfaces := #[]
  cf := some (fileOf pool7 1 #[.nestHost 51] #[{ accessFlags := 0, nameIndex := 43, descriptorIndex := 44, attributes := #[] }] 16433 20 #[] #[{ accessFlags := 16409, nameIndex := 5, descriptorIndex := 6, attributes := #[] }, { accessFlags := 16409, nameIndex := 9, descriptorIndex := 6, attributes := #[] }, { accessFlags := 4122, nameIndex := 12, descriptorIndex := 13, attributes := #[] }])
  fields := #[{ name := "LAST_SHARE", type := (.object "com/example/revline/revline/money/Money$Leftover"), accessFlags := 16409, slot := 0, constantValue := 0 }, { name := "FIRST_SHARE", type := (.object "com/example/revline/revline/money/Money$Leftover"), accessFlags := 16409, slot := 1, constantValue := 0 }, { name := "$VALUES", type := (.array (.object "com/example/revline/revline/money/Money$Leftover")), accessFlags := 4122, slot := 2, constantValue := 0 }]
  methods := #[k7m0]
  instanceTypes := #[(.object "java/lang/String"), .int, .int]
  staticTypes := #[(.object "com/example/revline/revline/money/Money$Leftover"), (.object "com/example/revline/revline/money/Money$Leftover"), (.array (.object "com/example/revline/revline/money/Money$Leftover"))]
  resolved := Array.replicate 55 none
  statics := some 0 }

def pool8 : Array CpInfo := pool [(1, u "java/lang/Cloneable"), (0, .class_ 1), (0, u "java/lang/Object"), (0, .class_ 3)] 3

/-- java/lang/Cloneable -/
def k8 : Class := { plain "java/lang/Cloneable" (some 0) with
  accessFlags := 1537
  interfaces := #[]
  cf := some (fileOf pool8 2 #[] #[] 1537 4 #[] #[])
  fields := #[]
  methods := #[]
  instanceTypes := #[]
  staticTypes := #[]
  resolved := Array.replicate 8 none
  statics := none }

/-- the primitive byte -/
def k9 : Class := { plain "byte" none with kind := .primitive 'B', accessFlags := 0x411 }
/-- [B -/
def k10 : Class := { plain "[B" (some 0) with kind := .array 9 .byte, interfaces := #[8, 5], accessFlags := 1041 }

/-- the primitive int -/
def k11 : Class := { plain "int" none with kind := .primitive 'I', accessFlags := 0x411 }
/-- [I -/
def k12 : Class := { plain "[I" (some 0) with kind := .array 11 .int, interfaces := #[8, 5], accessFlags := 1041 }

def heap : Heap := #[{ cls := 7, slots := #[.ref 1, .ref 2, .null], vm := .statics 7 },
  { cls := 7, slots := #[.null, .int 0, .int 0], vm := .none },
  { cls := 7, slots := #[.null, .int 1, .int 0], vm := .none }]
def classes : Array Class := #[k0, k1, k2, k3, k4, k5, k6, k7, k8, k9, k10, k11, k12]
def interned : List (Array UInt16 × Addr) := []
def slotsUsed : Nat := 9
def theMethod : MethodId := ⟨1, 1⟩
def args0 : Array Value := #[.int 1, .int 5, .int 2, .int 3]
def aboutOver (below : List Frame) : State where
  vm := { classes := classes, interned := interned.toArray }
  heap := heap
  slotsUsed := slotsUsed
  threads := #[{ frames := .invoking theMethod args0 :: below }]
def below0 : List Frame := [.native { method := ⟨0, 0⟩, args := #[] }]
def about1 : State := aboutOver below0
def p0 : Program := .bare "" "" ""
def e0 : Env := launch0.env 0 0 0
theorem w_frames : about1.frames = Frame.invoking theMethod args0 :: below0 := rfl
set_option maxRecDepth 65536 in
theorem w_args : argsFit about1.vm theMethod args0 = true := by decide +kernel
set_option maxRecDepth 65536 in
theorem w_heap : heapFits about1 = true := by decide +kernel
set_option maxRecDepth 65536 in
theorem w_runnable : about1.curStatus? = some .runnable := by decide +kernel
set_option maxRecDepth 65536 in
theorem w_alone : about1.alone = true := by decide +kernel
set_option maxRecDepth 65536 in
theorem w_named : about1.methodNamed? x = some theMethod := by decide +kernel
set_option maxRecDepth 65536 in
theorem w_hears : about1.hears theMethod below0 = true := by decide +kernel
set_option maxRecDepth 65536 in
theorem w_ripe : about1.ripe theMethod args0 below0 = true := by decide +kernel
theorem w_running : about1.status = .running := rfl
set_option maxRecDepth 65536 in
theorem w_room : about1.hasRoom e0.platform room_1 = true :=
  launch0.hasRoom_least _ room_1 (by decide +kernel) (by decide +kernel) (by decide +kernel) (by decide +kernel) (by decide +kernel) (by decide +kernel)
theorem allAtoms_all (ts : List Jvm.Cond) (a : Array Jvm.Value) (st : Jvm.State) : (allAtoms ts).before a st = ts.all (fun c => c.before a st) := by
  induction ts with
  | nil => rfl
  | cons c t ih =>
    show (Jvm.Cond.and c (allAtoms t)).before a st = _
    rw [Jvm.Cond.before_and, ih, List.all_cons]
def words1 : List Jvm.Cond := Jvm.Cond.code x code maxLocals ret :: tables_1
/-- a 'code' word, met by the world's own term for the bytes: nothing is compared byte by byte -/
theorem code_word {y : MethodName} {bytes : ByteArray} {mx : Nat} {rt : Option FieldType} {a : Array Value} {s : State} {m : MethodId} {meth : Method} {c : Code} (h1 : s.methodNamed? y = some m) (h2 : s.vm.method? m = some meth) (h3 : meth.code = some c) (h4 : c.code = bytes)
    (h5 : (c.maxLocals == mx && c.exceptionTable.isEmpty && decide (c.maxStack ≤ mostOperands) && decide (meth.sig.returnType = rt) && !meth.locks && decide (parseMethodDescriptor y.desc = some meth.sig)) = true) : (Jvm.Cond.code y bytes mx rt).before a s = true := by
  simp only [Bool.and_eq_true, beq_iff_eq, Bool.not_eq_true', decide_eq_true_eq] at h5
  obtain ⟨⟨⟨⟨⟨g1, g2⟩, g3⟩, g4⟩, g5⟩, g6⟩ := h5
  simp [Cond.before, Cond.holds, Cond.value, h1, h2, h3, h4, g1, g2, g3, g4, g5, g6]
def isCode : Jvm.Cond → Bool
  | .code _ _ _ _ => true
  | _ => false
theorem all_split {L : List Jvm.Cond} {P : Jvm.Cond → Bool} (h1 : L.all (fun c => isCode c || P c) = true) (h2 : ∀ c ∈ L.filter isCode, P c = true) : L.all P = true := by
  refine List.all_eq_true.mpr fun c hc => ?_
  have h := List.all_eq_true.mp h1 c hc
  rcases Bool.eq_false_or_eq_true (isCode c) with hi | hi
  · exact h2 c (List.mem_filter.mpr ⟨hc, hi⟩)
  · simpa [hi] using h
set_option maxRecDepth 65536 in
theorem w_c0 : (Jvm.Cond.code x code maxLocals ret).before args0 about1 = true := code_word (m := ⟨1, 1⟩) (meth := k1m1) (c := k1c1) (by decide +kernel) rfl rfl rfl (by decide +kernel)
set_option maxRecDepth 65536 in
theorem w_c1 : (Jvm.Cond.code ({ cls := "java/lang/Math", name := "max", desc := "(II)I" } : Jvm.MethodName) jdk_29_method_65_code (2 : Nat) (Option.some Jvm.ClassFile.FieldType.int)).before args0 about1 = true := code_word (m := ⟨2, 1⟩) (meth := k2m1) (c := k2c1) (by decide +kernel) rfl rfl rfl (by decide +kernel)
set_option maxRecDepth 65536 in
theorem w_c2 : (Jvm.Cond.code ({ cls := "com/example/revline/revline/money/Money$Leftover", name := "cutAt", desc := "(II)I" } : Jvm.MethodName) prog_58_method_4_code (3 : Nat) (Option.some Jvm.ClassFile.FieldType.int)).before args0 about1 = true := code_word (m := ⟨7, 0⟩) (meth := k7m0) (c := k7c0) (by decide +kernel) rfl rfl rfl (by decide +kernel)
def codes1 : List Jvm.Cond := [Jvm.Cond.code x code maxLocals ret, Jvm.Cond.code ({ cls := "java/lang/Math", name := "max", desc := "(II)I" } : Jvm.MethodName) jdk_29_method_65_code (2 : Nat) (Option.some Jvm.ClassFile.FieldType.int), Jvm.Cond.code ({ cls := "com/example/revline/revline/money/Money$Leftover", name := "cutAt", desc := "(II)I" } : Jvm.MethodName) prog_58_method_4_code (3 : Nat) (Option.some Jvm.ClassFile.FieldType.int)]
set_option maxRecDepth 65536 in
theorem codes_eq : words1.filter isCode = codes1 := rfl
theorem w_codes : ∀ c ∈ words1.filter isCode, c.before args0 about1 = true := by
  rw [codes_eq]
  intro c hc
  simp only [codes1, List.mem_cons, List.not_mem_nil, or_false] at hc
  rcases hc with rfl | rfl | rfl
  · exact w_c0
  · exact w_c1
  · exact w_c2
set_option maxRecDepth 65536 in
theorem w_t1 : words1.all (fun c => isCode c || c.before args0 about1) = true := by decide +kernel
theorem w_tables : (allAtoms (Jvm.Cond.code x code maxLocals ret :: tables_1)).before args0 about1 = true := by
  rw [allAtoms_all]
  show words1.all (fun c => c.before args0 about1) = true
  refine all_split ?_ w_codes
  rw [w_t1]
set_option maxRecDepth 65536 in
theorem w_case : (Jvm.Cond.and given_1 narrow_1).before args0 about1 = true := by decide +kernel
theorem w_applies : (headSpec (Jvm.Cond.code x code maxLocals ret :: tables_1) room_1).applies x e0.platform about1 = true :=
  (Spec.applies_iff w_frames).mpr ⟨w_running, w_runnable, w_alone, w_named, w_hears, w_ripe, w_room, w_tables⟩
theorem atStart : AtStart classFile x code maxLocals ret World_1 tables_1 room_1 Calls_1 rest_1 Pre_1 launch0 p0 e0 about1 theMethod args0 below0 :=
  ⟨lists_1, trivial, launch0.admits_env _ _ _, launch0.least_env, fairChoices_fair.cas, fairChoices_fair.clock, w_frames, w_args, w_heap, w_applies, trivial, trivial, w_case⟩
end start1
theorem witness_1 : WitnessClaimed_1 := ⟨start1.p0, start1.e0, start1.about1, start1.theMethod, start1.args0, start1.below0, start1.atStart⟩
end Jvm.Pilot.@@N@@
