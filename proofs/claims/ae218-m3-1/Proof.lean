import JvmDerived
import JvmDerived.Pilot.@@N@@Statement
import JvmDerived.Pilot.@@N@@Code
set_option linter.unusedVariables false
set_option linter.unusedSimpArgs false
namespace Jvm.WK
open Jvm Sem ClassFile Op Lib Jvm.Free Jvm.Stand Jvm.LawKit Jvm.RoadKit
/-- the fixed surroundings of a walk: program, launch, environment, first state, method, arguments, frames below, method record, code record -/
abbrev Cx := Program × Launch × Env × State × MethodId × Array Value × List Frame × Method × Code
/-- FROM HERE THE BODY RUNS TO ITS RETURN, AND WHAT IT LEAVES MEETS Q: h the heap here, pc, Ls, st the top frame; cl, sl: what was made so far; only cells from n0 on are written. -/
def WP (C : Cx) (Z : State) (code : ByteArray) (ml : Nat) (own : String) (rt : Option FieldType) (nm : String) (R : Room) (n0 : Nat) (Q : Option Value → Heap → Prop) (cl sl : Nat) (h : Heap) (pc : Nat) (Ls : Array Slot) (st : List Value) : Prop :=
  C.1.tables.exec = Jvm.exec → C.2.2.2.2.2.2.2.2.code = code → C.2.2.2.2.2.2.2.2.maxLocals = ml → C.2.2.2.1.vm.findClass own = some C.2.2.2.2.1.cls → Z.Warmed39 C.2.2.2.1.vm → C.2.2.2.2.2.2.2.1.sig.returnType = rt → C.2.2.2.2.2.2.2.1.locks = false → C.2.2.2.2.2.2.2.1.name = nm →
  ∀ (T : State) (locs : List Loc), Stand C.1 C.2.1 C.2.2.1 R C.2.2.2.1 C.2.2.2.2.1 C.2.2.2.2.2.1 C.2.2.2.2.2.2.1 C.2.2.2.2.2.2.2.1 C.2.2.2.2.2.2.2.2 T locs cl sl → T.heap = h → Fr n0 locs →
    ∃ (s₂ : State) (v : Option Value) (L : List Loc), Steps C.1.tables C.2.2.1 C.2.2.2.2.2.2.1 (T.setTop (mkF C.2.2.2.2.1 pc Ls st)) s₂ ∧ s₂.status = .running ∧ Ended s₂ C.2.2.2.2.2.2.1 (.returned v) ∧ Q v s₂.heap ∧ Fr n0 L ∧ FrameEnd C.2.2.2.1 (.returned v) s₂ L R.cells R.slots
/-- WHAT A METHOD DOES FROM THE HEAP h0 WITH THE ARGUMENTS a -/
def Does (l : Launch) (Z : State) (y : MethodName) (code : ByteArray) (ml : Nat) (rt : Option FieldType) (R : Room) (n0 : Nat) (as' : Array Value) (h0 : Heap) (Q : Option Value → Heap → Prop) : Prop :=
  ∀ ws : List Jvm.Cond, MetFree l y (head1 (Jvm.Cond.code y code ml rt :: ws) R) (fun a U => a = as' ∧ Z.Warmed39 U.vm ∧ U.heap = h0) (fun _ _ _ _ _ => True)
    (fun _ U o U' => ∃ v L, o = .returned v ∧ (Q v U'.heap ∧ Fr n0 L) ∧ FrameEnd U o U' L R.cells R.slots)
theorem Does.of_wp {l : Launch} {Z : State} {y : MethodName} {code : ByteArray} {ml : Nat} {rt : Option FieldType} {R : Room} {n0 : Nat} {as' : Array Value} {h0 : Heap} {Q : Option Value → Heap → Prop} (hpl : plainFor y = true) {Ls : Array Slot} (hef : ∀ m, entryFrame m as' ml = mkF m 0 Ls [])
    (hW : ∀ C : Cx, WP C Z code ml y.cls rt y.name R n0 Q 0 0 h0 0 Ls []) : Does l Z y code ml rt R n0 as' h0 Q := by
  intro ws
  refine MetFree.of_bodySF hpl hisR ?_
  intro p e s m args below meth c s₁ Bd hml0 hP hK
  obtain ⟨rfl, hZ, hh⟩ := hP
  have X0 : Stand p l e R s m args below meth c s₁ [] 0 0 := Stand.of_body Bd
  have e0 : s₁.heap = h0 := by rw [← hh, Bd.state]; rfl
  obtain ⟨s₂, v, L, h1, h2, h3, h4, h5, h6⟩ := hW (p, l, e, s, m, args, below, meth, c) Bd.exec Bd.bytes hml0 (findClass_of_methodNamed Bd.named) hZ Bd.returns Bd.notSynchronized (name_of_methodNamed Bd.named Bd.method).1 s₁ [] X0 e0 (Fr.nil n0)
  exact ⟨s₂, _, castTop (hef m) h1, h2, h3, v, L, rfl, ⟨h4, h5⟩, h6⟩
section Rules
variable {C : Cx} {Z : State} {code : ByteArray} {ml : Nat} {own : String} {rt : Option FieldType} {nm : String} {R : Room} {n0 : Nat} {Q : Option Value → Heap → Prop} {cl sl : Nat} {h : Heap} {pc pc' : Nat} {Ls Ls' : Array Slot} {st st' : List Value} {a0 : Array Value}
theorem WP.step {cl' sl' : Nat} {h' : Heap} (f : ∀ {p : Program} {l : Launch} {e : Env} {s : State} {m : MethodId} {args : Array Value} {below : List Frame} {meth : Method} {c : Code} {T : State} {locs : List Loc}, Stand p l e R s m args below meth c T locs cl sl → p.tables.exec = Jvm.exec → c.code = code → c.maxLocals = ml → s.vm.findClass own = some m.cls → Z.Warmed39 s.vm → meth.name = nm → T.heap = h → Fr n0 locs →
      ∃ T' locs', Stand p l e R s m args below meth c T' locs' cl' sl' ∧ T'.heap = h' ∧ Fr n0 locs' ∧ ∀ t, Steps p.tables e below (T'.setTop (mkF m pc' Ls' st')) t → Steps p.tables e below (T.setTop (mkF m pc Ls st)) t)
    (hr : WP C Z code ml own rt nm R n0 Q cl' sl' h' pc' Ls' st') : WP C Z code ml own rt nm R n0 Q cl sl h pc Ls st := by
  intro k1 k2 k3 k4 k5 k6 k7 k8 T locs X e N
  obtain ⟨T', locs', X', e', N', k⟩ := f X k1 k2 k3 k4 k5 k8 e N
  obtain ⟨s₂, v, L, h1, h2⟩ := hr k1 k2 k3 k4 k5 k6 k7 k8 T' locs' X' e' N'
  exact ⟨s₂, v, L, k _ h1, h2⟩
theorem WP.pure (f : ∀ {p : Program} {l : Launch} {e : Env} {s : State} {m : MethodId} {args : Array Value} {below : List Frame} {meth : Method} {c : Code} {T : State} {locs : List Loc}, Stand p l e R s m args below meth c T locs cl sl → p.tables.exec = Jvm.exec → c.code = code → s.vm.findClass own = some m.cls → Z.Warmed39 s.vm → T.heap = h →
      ∀ t, Steps p.tables e below (T.setTop (mkF m pc' Ls' st')) t → Steps p.tables e below (T.setTop (mkF m pc Ls st)) t)
    (hr : WP C Z code ml own rt nm R n0 Q cl sl h pc' Ls' st') : WP C Z code ml own rt nm R n0 Q cl sl h pc Ls st :=
  WP.step (fun X hx hc _ ho hZ _ e N => ⟨_, _, X, e, N, f X hx hc ho hZ e⟩) hr
/-- the heap's name may be turned -/
theorem WP.cast {h' : Heap} (e : h = h') (hr : WP C Z code ml own rt nm R n0 Q cl sl h' pc Ls st) : WP C Z code ml own rt nm R n0 Q cl sl h pc Ls st := e ▸ hr
theorem WP.castS (e : st = st') (hr : WP C Z code ml own rt nm R n0 Q cl sl h pc Ls st') : WP C Z code ml own rt nm R n0 Q cl sl h pc Ls st := e ▸ hr
theorem WP.castL (e : Ls = Ls') (hr : WP C Z code ml own rt nm R n0 Q cl sl h pc Ls' st) : WP C Z code ml own rt nm R n0 Q cl sl h pc Ls st := e ▸ hr
theorem WP.iloadN {k : Fin 4} {v : Int32} (hd : decode code pc = .ok (.iload_n k, 1)) (hp : pc + 1 = pc') (hl : Ls[k.val]? = some (.val (.int v))) (hr : WP C Z code ml own rt nm R n0 Q cl sl h pc' Ls (.int v :: st)) : WP C Z code ml own rt nm R n0 Q cl sl h pc Ls st := by
  subst hp
  exact hr.pure fun X hx hby hown hZ eT t q => XS.iloadN X.here hx rfl (hb hby hd) hl q
theorem WP.iload {k : Nat} {v : Int32} (hd : decode code pc = .ok (.iload k, 2)) (hp : pc + 2 = pc') (hl : Ls[k]? = some (.val (.int v))) (hr : WP C Z code ml own rt nm R n0 Q cl sl h pc' Ls (.int v :: st)) : WP C Z code ml own rt nm R n0 Q cl sl h pc Ls st := by
  subst hp
  exact hr.pure fun X hx hby hown hZ eT t q => XS.iload X.here hx rfl (hb hby hd) hl q
theorem WP.lloadN {k : Fin 4} {v : Int64} (hd : decode code pc = .ok (.lload_n k, 1)) (hp : pc + 1 = pc') (hl : Ls[k.val]? = some (.val (.long v))) (hr : WP C Z code ml own rt nm R n0 Q cl sl h pc' Ls (.long v :: st)) : WP C Z code ml own rt nm R n0 Q cl sl h pc Ls st := by
  subst hp
  exact hr.pure fun X hx hby hown hZ eT t q => XS.lloadN X.here hx rfl (hb hby hd) hl q
theorem WP.lload {k : Nat} {v : Int64} (hd : decode code pc = .ok (.lload k, 2)) (hp : pc + 2 = pc') (hl : Ls[k]? = some (.val (.long v))) (hr : WP C Z code ml own rt nm R n0 Q cl sl h pc' Ls (.long v :: st)) : WP C Z code ml own rt nm R n0 Q cl sl h pc Ls st := by
  subst hp
  exact hr.pure fun X hx hby hown hZ eT t q => XS.lload X.here hx rfl (hb hby hd) hl q
theorem WP.dloadN {k : Fin 4} {v : UInt64} (hd : decode code pc = .ok (.dload_n k, 1)) (hp : pc + 1 = pc') (hl : Ls[k.val]? = some (.val (.double v))) (hr : WP C Z code ml own rt nm R n0 Q cl sl h pc' Ls (.double v :: st)) : WP C Z code ml own rt nm R n0 Q cl sl h pc Ls st := by
  subst hp
  exact hr.pure fun X hx hby hown hZ eT t q => XS.dloadN X.here hx rfl (hb hby hd) hl q
theorem WP.dload {k : Nat} {v : UInt64} (hd : decode code pc = .ok (.dload k, 2)) (hp : pc + 2 = pc') (hl : Ls[k]? = some (.val (.double v))) (hr : WP C Z code ml own rt nm R n0 Q cl sl h pc' Ls (.double v :: st)) : WP C Z code ml own rt nm R n0 Q cl sl h pc Ls st := by
  subst hp
  exact hr.pure fun X hx hby hown hZ eT t q => XS.dload X.here hx rfl (hb hby hd) hl q
theorem WP.aloadN {k : Fin 4} {v : Value} (hd : decode code pc = .ok (.aload_n k, 1)) (hp : pc + 1 = pc') (hl : Ls[k.val]? = some (.val v)) (hv : v.isRef = true) (hr : WP C Z code ml own rt nm R n0 Q cl sl h pc' Ls (v :: st)) : WP C Z code ml own rt nm R n0 Q cl sl h pc Ls st := by
  subst hp
  exact hr.pure fun X hx hby hown hZ eT t q => XS.aloadN X.here hx rfl (hb hby hd) hl hv q
theorem WP.aload {k : Nat} {v : Value} (hd : decode code pc = .ok (.aload k, 2)) (hp : pc + 2 = pc') (hl : Ls[k]? = some (.val v)) (hv : v.isRef = true) (hr : WP C Z code ml own rt nm R n0 Q cl sl h pc' Ls (v :: st)) : WP C Z code ml own rt nm R n0 Q cl sl h pc Ls st := by
  subst hp
  exact hr.pure fun X hx hby hown hZ eT t q => XS.aload X.here hx rfl (hb hby hd) hl hv q
theorem WP.istoreN {k : Fin 4} {v : Int32} (hd : decode code pc = .ok (.istore_n k, 1)) (hp : pc + 1 = pc') (hl : storeLocals Ls k.val (.int v) = some Ls') (hr : WP C Z code ml own rt nm R n0 Q cl sl h pc' Ls' st) : WP C Z code ml own rt nm R n0 Q cl sl h pc Ls (.int v :: st) := by
  subst hp
  exact hr.pure fun X hx hby hown hZ eT t q => XS.istoreN X.here hx rfl (hb hby hd) rfl hl q
theorem WP.istore {k : Nat} {v : Int32} (hd : decode code pc = .ok (.istore k, 2)) (hp : pc + 2 = pc') (hl : storeLocals Ls k (.int v) = some Ls') (hr : WP C Z code ml own rt nm R n0 Q cl sl h pc' Ls' st) : WP C Z code ml own rt nm R n0 Q cl sl h pc Ls (.int v :: st) := by
  subst hp
  exact hr.pure fun X hx hby hown hZ eT t q => XS.istore X.here hx rfl (hb hby hd) rfl hl q
theorem WP.lstoreN {k : Fin 4} {v : Int64} (hd : decode code pc = .ok (.lstore_n k, 1)) (hp : pc + 1 = pc') (hl : storeLocals Ls k.val (.long v) = some Ls') (hr : WP C Z code ml own rt nm R n0 Q cl sl h pc' Ls' st) : WP C Z code ml own rt nm R n0 Q cl sl h pc Ls (.long v :: st) := by
  subst hp
  exact hr.pure fun X hx hby hown hZ eT t q => XS.lstoreN X.here hx rfl (hb hby hd) rfl hl q
theorem WP.lstore {k : Nat} {v : Int64} (hd : decode code pc = .ok (.lstore k, 2)) (hp : pc + 2 = pc') (hl : storeLocals Ls k (.long v) = some Ls') (hr : WP C Z code ml own rt nm R n0 Q cl sl h pc' Ls' st) : WP C Z code ml own rt nm R n0 Q cl sl h pc Ls (.long v :: st) := by
  subst hp
  exact hr.pure fun X hx hby hown hZ eT t q => XS.lstore X.here hx rfl (hb hby hd) rfl hl q
theorem WP.dstoreN {k : Fin 4} {v : UInt64} (hd : decode code pc = .ok (.dstore_n k, 1)) (hp : pc + 1 = pc') (hl : storeLocals Ls k.val (.double v) = some Ls') (hr : WP C Z code ml own rt nm R n0 Q cl sl h pc' Ls' st) : WP C Z code ml own rt nm R n0 Q cl sl h pc Ls (.double v :: st) := by
  subst hp
  exact hr.pure fun X hx hby hown hZ eT t q => XS.dstoreN X.here hx rfl (hb hby hd) rfl hl q
theorem WP.dstore {k : Nat} {v : UInt64} (hd : decode code pc = .ok (.dstore k, 2)) (hp : pc + 2 = pc') (hl : storeLocals Ls k (.double v) = some Ls') (hr : WP C Z code ml own rt nm R n0 Q cl sl h pc' Ls' st) : WP C Z code ml own rt nm R n0 Q cl sl h pc Ls (.double v :: st) := by
  subst hp
  exact hr.pure fun X hx hby hown hZ eT t q => XS.dstore X.here hx rfl (hb hby hd) rfl hl q
theorem WP.astoreN {k : Fin 4} {v : Value} (hd : decode code pc = .ok (.astore_n k, 1)) (hp : pc + 1 = pc') (hv : v.isRef = true) (hl : storeLocals Ls k.val v = some Ls') (hr : WP C Z code ml own rt nm R n0 Q cl sl h pc' Ls' st) : WP C Z code ml own rt nm R n0 Q cl sl h pc Ls (v :: st) := by
  subst hp
  exact hr.pure fun X hx hby hown hZ eT t q => XS.astoreN X.here hx rfl (hb hby hd) rfl hv hl q
theorem WP.astore {k : Nat} {v : Value} (hd : decode code pc = .ok (.astore k, 2)) (hp : pc + 2 = pc') (hv : v.isRef = true) (hl : storeLocals Ls k v = some Ls') (hr : WP C Z code ml own rt nm R n0 Q cl sl h pc' Ls' st) : WP C Z code ml own rt nm R n0 Q cl sl h pc Ls (v :: st) := by
  subst hp
  exact hr.pure fun X hx hby hown hZ eT t q => XS.astore X.here hx rfl (hb hby hd) rfl hv hl q
theorem WP.iconst {i : Int} {z : Int32} (hd : decode code pc = .ok (.iconst i, 1)) (hp : pc + 1 = pc') (hz : Int32.ofInt i = z) (hr : WP C Z code ml own rt nm R n0 Q cl sl h pc' Ls (.int z :: st)) : WP C Z code ml own rt nm R n0 Q cl sl h pc Ls st := by
  subst hp
  subst hz
  exact hr.pure fun X hx hby hown hZ eT t q => XS.iconst X.here hx rfl (hb hby hd) q
theorem WP.bipush {i : Int} {z : Int32} (hd : decode code pc = .ok (.bipush i, 2)) (hp : pc + 2 = pc') (hz : (Int8.ofInt i).toInt32 = z) (hr : WP C Z code ml own rt nm R n0 Q cl sl h pc' Ls (.int z :: st)) : WP C Z code ml own rt nm R n0 Q cl sl h pc Ls st := by
  subst hp
  subst hz
  exact hr.pure fun X hx hby hown hZ eT t q => XS.bipush X.here hx rfl (hb hby hd) q
theorem WP.sipush {i : Int} {z : Int32} (hd : decode code pc = .ok (.sipush i, 3)) (hp : pc + 3 = pc') (hz : (Int16.ofInt i).toInt32 = z) (hr : WP C Z code ml own rt nm R n0 Q cl sl h pc' Ls (.int z :: st)) : WP C Z code ml own rt nm R n0 Q cl sl h pc Ls st := by
  subst hp
  subst hz
  exact hr.pure fun X hx hby hown hZ eT t q => XS.sipush X.here hx rfl (hb hby hd) q
theorem WP.lconst {k : Fin 2} {z : Int64} (hd : decode code pc = .ok (.lconst k, 1)) (hp : pc + 1 = pc') (hz : Int64.ofNat k = z) (hr : WP C Z code ml own rt nm R n0 Q cl sl h pc' Ls (.long z :: st)) : WP C Z code ml own rt nm R n0 Q cl sl h pc Ls st := by
  subst hp
  subst hz
  exact hr.pure fun X hx hby hown hZ eT t q => XS.lconst X.here hx rfl (hb hby hd) q
theorem WP.aconstNull  (hd : decode code pc = .ok (.aconst_null, 1)) (hp : pc + 1 = pc') (hr : WP C Z code ml own rt nm R n0 Q cl sl h pc' Ls (.null :: st)) : WP C Z code ml own rt nm R n0 Q cl sl h pc Ls st := by
  subst hp
  exact hr.pure fun X hx hby hown hZ eT t q => XS.aconstNull X.here hx rfl (hb hby hd) q
theorem WP.ldcI {i : Nat} {v : Int32} (hd : decode code pc = .ok (.ldc i, 2)) (hp : pc + 2 = pc') (w : (Jvm.Cond.constant own i v).before a0 Z = true) (hr : WP C Z code ml own rt nm R n0 Q cl sl h pc' Ls (.int v :: st)) : WP C Z code ml own rt nm R n0 Q cl sl h pc Ls st := by
  subst hp
  exact hr.pure fun X hx hby hown hZ eT t q => X.ldcInt hx hown (mvT hZ w) (g := mkF _ pc Ls st) rfl (hb hby hd) t q
theorem WP.ldcWI {i : Nat} {v : Int32} (hd : decode code pc = .ok (.ldc_w i, 3)) (hp : pc + 3 = pc') (w : (Jvm.Cond.constant own i v).before a0 Z = true) (hr : WP C Z code ml own rt nm R n0 Q cl sl h pc' Ls (.int v :: st)) : WP C Z code ml own rt nm R n0 Q cl sl h pc Ls st := by
  subst hp
  exact hr.pure fun X hx hby hown hZ eT t q => X.ldcWInt hx hown (mvT hZ w) (g := mkF _ pc Ls st) rfl (hb hby hd) t q
theorem WP.ldc2J {i : Nat} {v : Int64} (hd : decode code pc = .ok (.ldc2_w i, 3)) (hp : pc + 3 = pc') (w : (Jvm.Cond.constantLong own i v).before a0 Z = true) (hr : WP C Z code ml own rt nm R n0 Q cl sl h pc' Ls (.long v :: st)) : WP C Z code ml own rt nm R n0 Q cl sl h pc Ls st := by
  subst hp
  exact hr.pure fun X hx hby hown hZ eT t q => X.ldc2Long hx hown (mvT hZ w) (g := mkF _ pc Ls st) rfl (hb hby hd) t q
theorem WP.iadd {x y : Int32} (hd : decode code pc = .ok (.iadd, 1)) (hp : pc + 1 = pc') (hr : WP C Z code ml own rt nm R n0 Q cl sl h pc' Ls (.int (x + y) :: st)) : WP C Z code ml own rt nm R n0 Q cl sl h pc Ls (.int y :: .int x :: st) := by
  subst hp
  exact hr.pure fun X hx hby hown hZ eT t q => XS.iadd X.here hx rfl (hb hby hd) rfl q
theorem WP.isub {x y : Int32} (hd : decode code pc = .ok (.isub, 1)) (hp : pc + 1 = pc') (hr : WP C Z code ml own rt nm R n0 Q cl sl h pc' Ls (.int (x - y) :: st)) : WP C Z code ml own rt nm R n0 Q cl sl h pc Ls (.int y :: .int x :: st) := by
  subst hp
  exact hr.pure fun X hx hby hown hZ eT t q => XS.isub X.here hx rfl (hb hby hd) rfl q
theorem WP.imul {x y : Int32} (hd : decode code pc = .ok (.imul, 1)) (hp : pc + 1 = pc') (hr : WP C Z code ml own rt nm R n0 Q cl sl h pc' Ls (.int (x * y) :: st)) : WP C Z code ml own rt nm R n0 Q cl sl h pc Ls (.int y :: .int x :: st) := by
  subst hp
  exact hr.pure fun X hx hby hown hZ eT t q => XS.imul X.here hx rfl (hb hby hd) rfl q
theorem WP.iand {x y : Int32} (hd : decode code pc = .ok (.iand, 1)) (hp : pc + 1 = pc') (hr : WP C Z code ml own rt nm R n0 Q cl sl h pc' Ls (.int (x &&& y) :: st)) : WP C Z code ml own rt nm R n0 Q cl sl h pc Ls (.int y :: .int x :: st) := by
  subst hp
  exact hr.pure fun X hx hby hown hZ eT t q => XS.iand X.here hx rfl (hb hby hd) rfl q
theorem WP.ior {x y : Int32} (hd : decode code pc = .ok (.ior, 1)) (hp : pc + 1 = pc') (hr : WP C Z code ml own rt nm R n0 Q cl sl h pc' Ls (.int (x ||| y) :: st)) : WP C Z code ml own rt nm R n0 Q cl sl h pc Ls (.int y :: .int x :: st) := by
  subst hp
  exact hr.pure fun X hx hby hown hZ eT t q => XS.ior X.here hx rfl (hb hby hd) rfl q
theorem WP.ixor {x y : Int32} (hd : decode code pc = .ok (.ixor, 1)) (hp : pc + 1 = pc') (hr : WP C Z code ml own rt nm R n0 Q cl sl h pc' Ls (.int (x ^^^ y) :: st)) : WP C Z code ml own rt nm R n0 Q cl sl h pc Ls (.int y :: .int x :: st) := by
  subst hp
  exact hr.pure fun X hx hby hown hZ eT t q => XS.ixor X.here hx rfl (hb hby hd) rfl q
theorem WP.ishl {x y : Int32} (hd : decode code pc = .ok (.ishl, 1)) (hp : pc + 1 = pc') (hr : WP C Z code ml own rt nm R n0 Q cl sl h pc' Ls (.int (x <<< (y &&& 31)) :: st)) : WP C Z code ml own rt nm R n0 Q cl sl h pc Ls (.int y :: .int x :: st) := by
  subst hp
  exact hr.pure fun X hx hby hown hZ eT t q => XS.ishl X.here hx rfl (hb hby hd) rfl q
theorem WP.ishr {x y : Int32} (hd : decode code pc = .ok (.ishr, 1)) (hp : pc + 1 = pc') (hr : WP C Z code ml own rt nm R n0 Q cl sl h pc' Ls (.int (x >>> (y &&& 31)) :: st)) : WP C Z code ml own rt nm R n0 Q cl sl h pc Ls (.int y :: .int x :: st) := by
  subst hp
  exact hr.pure fun X hx hby hown hZ eT t q => XS.ishr X.here hx rfl (hb hby hd) rfl q
theorem WP.iushr {x y : Int32} (hd : decode code pc = .ok (.iushr, 1)) (hp : pc + 1 = pc') (hr : WP C Z code ml own rt nm R n0 Q cl sl h pc' Ls (.int ((x.toUInt32 >>> (y &&& 31).toUInt32).toInt32) :: st)) : WP C Z code ml own rt nm R n0 Q cl sl h pc Ls (.int y :: .int x :: st) := by
  subst hp
  exact hr.pure fun X hx hby hown hZ eT t q => XS.iushr X.here hx rfl (hb hby hd) rfl q
theorem WP.ladd {x y : Int64} (hd : decode code pc = .ok (.ladd, 1)) (hp : pc + 1 = pc') (hr : WP C Z code ml own rt nm R n0 Q cl sl h pc' Ls (.long (x + y) :: st)) : WP C Z code ml own rt nm R n0 Q cl sl h pc Ls (.long y :: .long x :: st) := by
  subst hp
  exact hr.pure fun X hx hby hown hZ eT t q => XS.ladd X.here hx rfl (hb hby hd) rfl q
theorem WP.lsub {x y : Int64} (hd : decode code pc = .ok (.lsub, 1)) (hp : pc + 1 = pc') (hr : WP C Z code ml own rt nm R n0 Q cl sl h pc' Ls (.long (x - y) :: st)) : WP C Z code ml own rt nm R n0 Q cl sl h pc Ls (.long y :: .long x :: st) := by
  subst hp
  exact hr.pure fun X hx hby hown hZ eT t q => XS.lsub X.here hx rfl (hb hby hd) rfl q
theorem WP.lmul {x y : Int64} (hd : decode code pc = .ok (.lmul, 1)) (hp : pc + 1 = pc') (hr : WP C Z code ml own rt nm R n0 Q cl sl h pc' Ls (.long (x * y) :: st)) : WP C Z code ml own rt nm R n0 Q cl sl h pc Ls (.long y :: .long x :: st) := by
  subst hp
  exact hr.pure fun X hx hby hown hZ eT t q => XS.lmul X.here hx rfl (hb hby hd) rfl q
theorem WP.land {x y : Int64} (hd : decode code pc = .ok (.land, 1)) (hp : pc + 1 = pc') (hr : WP C Z code ml own rt nm R n0 Q cl sl h pc' Ls (.long (x &&& y) :: st)) : WP C Z code ml own rt nm R n0 Q cl sl h pc Ls (.long y :: .long x :: st) := by
  subst hp
  exact hr.pure fun X hx hby hown hZ eT t q => XS.land X.here hx rfl (hb hby hd) rfl q
theorem WP.lor {x y : Int64} (hd : decode code pc = .ok (.lor, 1)) (hp : pc + 1 = pc') (hr : WP C Z code ml own rt nm R n0 Q cl sl h pc' Ls (.long (x ||| y) :: st)) : WP C Z code ml own rt nm R n0 Q cl sl h pc Ls (.long y :: .long x :: st) := by
  subst hp
  exact hr.pure fun X hx hby hown hZ eT t q => XS.lor X.here hx rfl (hb hby hd) rfl q
theorem WP.lxor {x y : Int64} (hd : decode code pc = .ok (.lxor, 1)) (hp : pc + 1 = pc') (hr : WP C Z code ml own rt nm R n0 Q cl sl h pc' Ls (.long (x ^^^ y) :: st)) : WP C Z code ml own rt nm R n0 Q cl sl h pc Ls (.long y :: .long x :: st) := by
  subst hp
  exact hr.pure fun X hx hby hown hZ eT t q => XS.lxor X.here hx rfl (hb hby hd) rfl q
theorem WP.lshl {x : Int64} {y : Int32} (hd : decode code pc = .ok (.lshl, 1)) (hp : pc + 1 = pc') (hr : WP C Z code ml own rt nm R n0 Q cl sl h pc' Ls (.long (x <<< (y &&& 0x3f).toInt64) :: st)) : WP C Z code ml own rt nm R n0 Q cl sl h pc Ls (.int y :: .long x :: st) := by
  subst hp
  exact hr.pure fun X hx hby hown hZ eT t q => XS.lshl X.here hx rfl (hb hby hd) rfl q
theorem WP.lshr {x : Int64} {y : Int32} (hd : decode code pc = .ok (.lshr, 1)) (hp : pc + 1 = pc') (hr : WP C Z code ml own rt nm R n0 Q cl sl h pc' Ls (.long (x >>> (y &&& 0x3f).toInt64) :: st)) : WP C Z code ml own rt nm R n0 Q cl sl h pc Ls (.int y :: .long x :: st) := by
  subst hp
  exact hr.pure fun X hx hby hown hZ eT t q => XS.lshr X.here hx rfl (hb hby hd) rfl q
theorem WP.lushr {x : Int64} {y : Int32} (hd : decode code pc = .ok (.lushr, 1)) (hp : pc + 1 = pc') (hr : WP C Z code ml own rt nm R n0 Q cl sl h pc' Ls (.long ((x.toUInt64 >>> (y &&& 0x3f).toInt64.toUInt64).toInt64) :: st)) : WP C Z code ml own rt nm R n0 Q cl sl h pc Ls (.int y :: .long x :: st) := by
  subst hp
  exact hr.pure fun X hx hby hown hZ eT t q => XS.lushr X.here hx rfl (hb hby hd) rfl q
theorem WP.idiv {x y : Int32} (hd : decode code pc = .ok (.idiv, 1)) (hp : pc + 1 = pc') (hy : y ≠ 0) (hr : WP C Z code ml own rt nm R n0 Q cl sl h pc' Ls (.int (x / y) :: st)) : WP C Z code ml own rt nm R n0 Q cl sl h pc Ls (.int y :: .int x :: st) := by
  subst hp
  exact hr.pure fun X hx hby hown hZ eT t q => XS.idiv X.here hx rfl (hb hby hd) rfl hy q
theorem WP.irem {x y : Int32} (hd : decode code pc = .ok (.irem, 1)) (hp : pc + 1 = pc') (hy : y ≠ 0) (hr : WP C Z code ml own rt nm R n0 Q cl sl h pc' Ls (.int (x % y) :: st)) : WP C Z code ml own rt nm R n0 Q cl sl h pc Ls (.int y :: .int x :: st) := by
  subst hp
  exact hr.pure fun X hx hby hown hZ eT t q => iremM X hx rfl (hb hby hd) rfl hy q
theorem WP.ldiv {x y : Int64} (hd : decode code pc = .ok (.ldiv, 1)) (hp : pc + 1 = pc') (hy : y ≠ 0) (hr : WP C Z code ml own rt nm R n0 Q cl sl h pc' Ls (.long (x / y) :: st)) : WP C Z code ml own rt nm R n0 Q cl sl h pc Ls (.long y :: .long x :: st) := by
  subst hp
  exact hr.pure fun X hx hby hown hZ eT t q => XS.ldiv X.here hx rfl (hb hby hd) rfl hy q
theorem WP.lrem {x y : Int64} (hd : decode code pc = .ok (.lrem, 1)) (hp : pc + 1 = pc') (hy : y ≠ 0) (hr : WP C Z code ml own rt nm R n0 Q cl sl h pc' Ls (.long (x % y) :: st)) : WP C Z code ml own rt nm R n0 Q cl sl h pc Ls (.long y :: .long x :: st) := by
  subst hp
  exact hr.pure fun X hx hby hown hZ eT t q => XS.lrem X.here hx rfl (hb hby hd) rfl hy (by rw [lrem_mod]; exact q)
theorem WP.ineg {x : Int32} (hd : decode code pc = .ok (.ineg, 1)) (hp : pc + 1 = pc') (hr : WP C Z code ml own rt nm R n0 Q cl sl h pc' Ls (.int (-x) :: st)) : WP C Z code ml own rt nm R n0 Q cl sl h pc Ls (.int x :: st) := by
  subst hp
  exact hr.pure fun X hx hby hown hZ eT t q => XS.ineg X.here hx rfl (hb hby hd) rfl q
theorem WP.lneg {x : Int64} (hd : decode code pc = .ok (.lneg, 1)) (hp : pc + 1 = pc') (hr : WP C Z code ml own rt nm R n0 Q cl sl h pc' Ls (.long (-x) :: st)) : WP C Z code ml own rt nm R n0 Q cl sl h pc Ls (.long x :: st) := by
  subst hp
  exact hr.pure fun X hx hby hown hZ eT t q => XS.lneg X.here hx rfl (hb hby hd) rfl q
theorem WP.i2l {x : Int32} (hd : decode code pc = .ok (.i2l, 1)) (hp : pc + 1 = pc') (hr : WP C Z code ml own rt nm R n0 Q cl sl h pc' Ls (.long (x.toInt64) :: st)) : WP C Z code ml own rt nm R n0 Q cl sl h pc Ls (.int x :: st) := by
  subst hp
  exact hr.pure fun X hx hby hown hZ eT t q => XS.i2l X.here hx rfl (hb hby hd) rfl q
theorem WP.l2i {x : Int64} (hd : decode code pc = .ok (.l2i, 1)) (hp : pc + 1 = pc') (hr : WP C Z code ml own rt nm R n0 Q cl sl h pc' Ls (.int (x.toInt32) :: st)) : WP C Z code ml own rt nm R n0 Q cl sl h pc Ls (.long x :: st) := by
  subst hp
  exact hr.pure fun X hx hby hown hZ eT t q => XS.l2i X.here hx rfl (hb hby hd) rfl q
theorem WP.i2b {x : Int32} (hd : decode code pc = .ok (.i2b, 1)) (hp : pc + 1 = pc') (hr : WP C Z code ml own rt nm R n0 Q cl sl h pc' Ls (.int (x.toInt8.toInt32) :: st)) : WP C Z code ml own rt nm R n0 Q cl sl h pc Ls (.int x :: st) := by
  subst hp
  exact hr.pure fun X hx hby hown hZ eT t q => XS.i2b X.here hx rfl (hb hby hd) rfl q
theorem WP.i2c {x : Int32} (hd : decode code pc = .ok (.i2c, 1)) (hp : pc + 1 = pc') (hr : WP C Z code ml own rt nm R n0 Q cl sl h pc' Ls (.int (x.toUInt32.toUInt16.toUInt32.toInt32) :: st)) : WP C Z code ml own rt nm R n0 Q cl sl h pc Ls (.int x :: st) := by
  subst hp
  exact hr.pure fun X hx hby hown hZ eT t q => XS.i2c X.here hx rfl (hb hby hd) rfl q
theorem WP.i2s {x : Int32} (hd : decode code pc = .ok (.i2s, 1)) (hp : pc + 1 = pc') (hr : WP C Z code ml own rt nm R n0 Q cl sl h pc' Ls (.int (x.toInt16.toInt32) :: st)) : WP C Z code ml own rt nm R n0 Q cl sl h pc Ls (.int x :: st) := by
  subst hp
  exact hr.pure fun X hx hby hown hZ eT t q => XS.i2s X.here hx rfl (hb hby hd) rfl q
theorem WP.dup {x : Value} (hd : decode code pc = .ok (.dup, 1)) (hp : pc + 1 = pc') (hc : x.category = 1) (hr : WP C Z code ml own rt nm R n0 Q cl sl h pc' Ls (x :: x :: st)) : WP C Z code ml own rt nm R n0 Q cl sl h pc Ls (x :: st) := by
  subst hp
  exact hr.pure fun X hx hby hown hZ eT t q => XS.dup X.here hx rfl (hb hby hd) rfl hc q
theorem WP.pop {x : Value} (hd : decode code pc = .ok (.pop, 1)) (hp : pc + 1 = pc') (hc : x.category = 1) (hr : WP C Z code ml own rt nm R n0 Q cl sl h pc' Ls st) : WP C Z code ml own rt nm R n0 Q cl sl h pc Ls (x :: st) := by
  subst hp
  exact hr.pure fun X hx hby hown hZ eT t q => XS.pop X.here hx rfl (hb hby hd) rfl hc q
theorem WP.dupX1 {x y : Value} (hd : decode code pc = .ok (.dup_x1, 1)) (hp : pc + 1 = pc') (hc : x.category = 1) (hc' : y.category = 1) (hr : WP C Z code ml own rt nm R n0 Q cl sl h pc' Ls (x :: y :: x :: st)) : WP C Z code ml own rt nm R n0 Q cl sl h pc Ls (x :: y :: st) := by
  subst hp
  exact hr.pure fun X hx hby hown hZ eT t q => XS.dupX1 X.here hx rfl (hb hby hd) rfl hc hc' q
theorem WP.dup2 {x y : Value} (hd : decode code pc = .ok (.dup2, 1)) (hp : pc + 1 = pc') (hc : x.category = 1) (hc' : y.category = 1) (hr : WP C Z code ml own rt nm R n0 Q cl sl h pc' Ls (x :: y :: x :: y :: st)) : WP C Z code ml own rt nm R n0 Q cl sl h pc Ls (x :: y :: st) := by
  subst hp
  exact hr.pure fun X hx hby hown hZ eT t q => Jvm.Free.XT.dup2 X.here hx rfl (hb hby hd) rfl hc hc' q
theorem WP.dup2L {x : Int64} (hd : decode code pc = .ok (.dup2, 1)) (hp : pc + 1 = pc') (hr : WP C Z code ml own rt nm R n0 Q cl sl h pc' Ls (.long x :: .long x :: st)) : WP C Z code ml own rt nm R n0 Q cl sl h pc Ls (.long x :: st) := by
  subst hp
  exact hr.pure fun X hx hby hown hZ eT t q => Jvm.Free.XT.dup2L X.here hx rfl (hb hby hd) rfl q
theorem WP.iinc {k : Nat} {i : Int} {x z : Int32} (hd : decode code pc = .ok (.iinc k i, 3)) (hp : pc + 3 = pc') (hl : Ls[k]? = some (.val (.int x))) (hz : x + Int32.ofInt i = z) (hl' : storeLocals Ls k (.int z) = some Ls') (hr : WP C Z code ml own rt nm R n0 Q cl sl h pc' Ls' st) : WP C Z code ml own rt nm R n0 Q cl sl h pc Ls st := by
  subst hp
  subst hz
  exact hr.pure fun X hx hby hown hZ eT t q => XS.iinc X.here hx rfl (hb hby hd) hl hl' q
theorem WP.ldc2D {i : Nat} {v : UInt64} (hd : decode code pc = .ok (.ldc2_w i, 3)) (hp : pc + 3 = pc') (w : (Jvm.Cond.constantDouble own i v).before a0 Z = true) (hr : WP C Z code ml own rt nm R n0 Q cl sl h pc' Ls (.double v :: st)) : WP C Z code ml own rt nm R n0 Q cl sl h pc Ls st := by
  subst hp
  exact hr.pure fun X hx hby hown hZ eT t q => X.ldc2DoubleC hx hown (mvT hZ w) (g := mkF _ pc Ls st) rfl (hb hby hd) t q
theorem WP.dconst0 {v : UInt64} (hd : decode code pc = .ok (.dconst 0, 1)) (hp : pc + 1 = pc') (hv : FP.dconst0 = v) (hr : WP C Z code ml own rt nm R n0 Q cl sl h pc' Ls (.double v :: st)) : WP C Z code ml own rt nm R n0 Q cl sl h pc Ls st := by
  subst hp
  exact hr.pure fun X hx hby hown hZ eT t q => XS.dconst0 X.here hx rfl (hb hby hd) hv q
theorem WP.dconst1 {v : UInt64} (hd : decode code pc = .ok (.dconst 1, 1)) (hp : pc + 1 = pc') (hv : FP.dconst1 = v) (hr : WP C Z code ml own rt nm R n0 Q cl sl h pc' Ls (.double v :: st)) : WP C Z code ml own rt nm R n0 Q cl sl h pc Ls st := by
  subst hp
  exact hr.pure fun X hx hby hown hZ eT t q => XS.dconst1 X.here hx rfl (hb hby hd) hv q
theorem WP.i2d {x : Int32} {v : UInt64} (hd : decode code pc = .ok (.i2d, 1)) (hp : pc + 1 = pc') (hv : FP.i2d x = v) (hr : WP C Z code ml own rt nm R n0 Q cl sl h pc' Ls (.double v :: st)) : WP C Z code ml own rt nm R n0 Q cl sl h pc Ls (.int x :: st) := by
  subst hp
  exact hr.pure fun X hx hby hown hZ eT t q => XS.i2dS X.here hx rfl (hb hby hd) rfl hv q
theorem WP.l2d {x : Int64} {v : UInt64} (hd : decode code pc = .ok (.l2d, 1)) (hp : pc + 1 = pc') (hv : FP.l2d x = v) (hr : WP C Z code ml own rt nm R n0 Q cl sl h pc' Ls (.double v :: st)) : WP C Z code ml own rt nm R n0 Q cl sl h pc Ls (.long x :: st) := by
  subst hp
  exact hr.pure fun X hx hby hown hZ eT t q => XS.l2dS X.here hx rfl (hb hby hd) rfl hv q
theorem WP.dcmp {o : CmpOp} {x y : UInt64} {v : Int32} (hd : decode code pc = .ok (.dcmp o, 1)) (hp : pc + 1 = pc') (hv : cmpValue (FP.dcmp x y) o = v) (hr : WP C Z code ml own rt nm R n0 Q cl sl h pc' Ls (.int v :: st)) : WP C Z code ml own rt nm R n0 Q cl sl h pc Ls (.double y :: .double x :: st) := by
  subst hp
  exact hr.pure fun X hx hby hown hZ eT t q => XS.dcmpS X.here hx rfl (hb hby hd) rfl hv q
theorem WP.dadd {x y v : UInt64} (hd : decode code pc = .ok (.dadd, 1)) (hp : pc + 1 = pc') (hn : Jvm.Free.Fl.NoNaN64 (FP.dadd x y)) (hv : FP.dadd x y = v) (hr : WP C Z code ml own rt nm R n0 Q cl sl h pc' Ls (.double v :: st)) : WP C Z code ml own rt nm R n0 Q cl sl h pc Ls (.double y :: .double x :: st) := by
  subst hp
  exact hr.pure fun X hx hby hown hZ eT t q => XS.daddS X.here hx rfl (hb hby hd) rfl hn hv q
theorem WP.dsub {x y v : UInt64} (hd : decode code pc = .ok (.dsub, 1)) (hp : pc + 1 = pc') (hn : Jvm.Free.Fl.NoNaN64 (FP.dsub x y)) (hv : FP.dsub x y = v) (hr : WP C Z code ml own rt nm R n0 Q cl sl h pc' Ls (.double v :: st)) : WP C Z code ml own rt nm R n0 Q cl sl h pc Ls (.double y :: .double x :: st) := by
  subst hp
  exact hr.pure fun X hx hby hown hZ eT t q => XS.dsubS X.here hx rfl (hb hby hd) rfl hn hv q
theorem WP.dmul {x y v : UInt64} (hd : decode code pc = .ok (.dmul, 1)) (hp : pc + 1 = pc') (hn : Jvm.Free.Fl.NoNaN64 (FP.dmul x y)) (hv : FP.dmul x y = v) (hr : WP C Z code ml own rt nm R n0 Q cl sl h pc' Ls (.double v :: st)) : WP C Z code ml own rt nm R n0 Q cl sl h pc Ls (.double y :: .double x :: st) := by
  subst hp
  exact hr.pure fun X hx hby hown hZ eT t q => XS.dmulS X.here hx rfl (hb hby hd) rfl hn hv q
theorem WP.ddiv {x y v : UInt64} (hd : decode code pc = .ok (.ddiv, 1)) (hp : pc + 1 = pc') (hn : Jvm.Free.Fl.NoNaN64 (FP.ddiv x y)) (hv : FP.ddiv x y = v) (hr : WP C Z code ml own rt nm R n0 Q cl sl h pc' Ls (.double v :: st)) : WP C Z code ml own rt nm R n0 Q cl sl h pc Ls (.double y :: .double x :: st) := by
  subst hp
  exact hr.pure fun X hx hby hown hZ eT t q => XS.ddivS X.here hx rfl (hb hby hd) rfl hn hv q
theorem WP.lcmp {x y : Int64} (hd : decode code pc = .ok (.lcmp, 1)) (hp : pc + 1 = pc') (hr : WP C Z code ml own rt nm R n0 Q cl sl h pc' Ls (.int (lcmpW x y) :: st)) : WP C Z code ml own rt nm R n0 Q cl sl h pc Ls (.long y :: .long x :: st) := by
  subst hp
  exact hr.pure fun X hx hby hown hZ eT t q => XS.lcmp X.here hx rfl (hb hby hd) rfl q
theorem WP.goto {o : Int} (hd : decode code pc = .ok (.goto o, 3)) (ho : 0 ≤ (pc : Int) + o) (hp : ((pc : Int) + o).toNat = pc') (hr : WP C Z code ml own rt nm R n0 Q cl sl h pc' Ls st) : WP C Z code ml own rt nm R n0 Q cl sl h pc Ls st :=
  hr.pure fun X hx hby hown hZ eT t q => XS.goto X.here hx rfl (pc0 := pc) rfl (hb hby hd) ho hp q
theorem WP.icmp {pc1 pc2 : Nat} {x y : Int32} {cd : ClassFile.Cond} {o : Int} (hd : decode code pc = .ok (.if_icmp cd o, 3)) (ho : 0 ≤ (pc : Int) + o) (hp : ((pc : Int) + o).toNat = pc1) (hp2 : pc + 3 = pc2) (hy : if_icmp.holds cd x y = true → WP C Z code ml own rt nm R n0 Q cl sl h pc1 Ls st) (hn : if_icmp.holds cd x y = false → WP C Z code ml own rt nm R n0 Q cl sl h pc2 Ls st) : WP C Z code ml own rt nm R n0 Q cl sl h pc Ls (.int y :: .int x :: st) := by
  subst hp2
  cases hq : if_icmp.holds cd x y with
  | true => exact (hy hq).pure fun X hx hby hown hZ eT t q => XS.icmpYes X.here hx rfl (pc0 := pc) rfl (hb hby hd) rfl hq ho hp q
  | false => exact (hn hq).pure fun X hx hby hown hZ eT t q => XS.icmpNo X.here hx rfl (hb hby hd) rfl hq q
theorem WP.icmp_lt {pc1 pc2 : Nat} {x y : Int32} {o : Int} (hd : decode code pc = .ok (.if_icmp .lt o, 3)) (ho : 0 ≤ (pc : Int) + o) (hp : ((pc : Int) + o).toNat = pc1) (hp2 : pc + 3 = pc2) (hy : x < y → WP C Z code ml own rt nm R n0 Q cl sl h pc1 Ls st) (hn : ¬ x < y → WP C Z code ml own rt nm R n0 Q cl sl h pc2 Ls st) : WP C Z code ml own rt nm R n0 Q cl sl h pc Ls (.int y :: .int x :: st) :=
  WP.icmp hd ho hp hp2 (fun hq => hy (Decidable.byContradiction fun k => by rw [(flt k).1] at hq; cases hq)) (fun hq => hn (fun k => by rw [(tlt k).1] at hq; cases hq))
theorem WP.icmp_ge {pc1 pc2 : Nat} {x y : Int32} {o : Int} (hd : decode code pc = .ok (.if_icmp .ge o, 3)) (ho : 0 ≤ (pc : Int) + o) (hp : ((pc : Int) + o).toNat = pc1) (hp2 : pc + 3 = pc2) (hy : ¬ x < y → WP C Z code ml own rt nm R n0 Q cl sl h pc1 Ls st) (hn : x < y → WP C Z code ml own rt nm R n0 Q cl sl h pc2 Ls st) : WP C Z code ml own rt nm R n0 Q cl sl h pc Ls (.int y :: .int x :: st) :=
  WP.icmp hd ho hp hp2 (fun hq => hy (fun k => by rw [(tlt k).2.1] at hq; cases hq)) (fun hq => hn (Decidable.byContradiction fun k => by rw [(flt k).2.1] at hq; cases hq))
theorem WP.icmp_gt {pc1 pc2 : Nat} {x y : Int32} {o : Int} (hd : decode code pc = .ok (.if_icmp .gt o, 3)) (ho : 0 ≤ (pc : Int) + o) (hp : ((pc : Int) + o).toNat = pc1) (hp2 : pc + 3 = pc2) (hy : y < x → WP C Z code ml own rt nm R n0 Q cl sl h pc1 Ls st) (hn : ¬ y < x → WP C Z code ml own rt nm R n0 Q cl sl h pc2 Ls st) : WP C Z code ml own rt nm R n0 Q cl sl h pc Ls (.int y :: .int x :: st) :=
  WP.icmp hd ho hp hp2 (fun hq => hy (Decidable.byContradiction fun k => by rw [(flt k).2.2.1] at hq; cases hq)) (fun hq => hn (fun k => by rw [(tlt k).2.2.1] at hq; cases hq))
theorem WP.icmp_le {pc1 pc2 : Nat} {x y : Int32} {o : Int} (hd : decode code pc = .ok (.if_icmp .le o, 3)) (ho : 0 ≤ (pc : Int) + o) (hp : ((pc : Int) + o).toNat = pc1) (hp2 : pc + 3 = pc2) (hy : ¬ y < x → WP C Z code ml own rt nm R n0 Q cl sl h pc1 Ls st) (hn : y < x → WP C Z code ml own rt nm R n0 Q cl sl h pc2 Ls st) : WP C Z code ml own rt nm R n0 Q cl sl h pc Ls (.int y :: .int x :: st) :=
  WP.icmp hd ho hp hp2 (fun hq => hy (fun k => by rw [(tlt k).2.2.2] at hq; cases hq)) (fun hq => hn (Decidable.byContradiction fun k => by rw [(flt k).2.2.2] at hq; cases hq))
theorem WP.icmp_eq {pc1 pc2 : Nat} {x y : Int32} {o : Int} (hd : decode code pc = .ok (.if_icmp .eq o, 3)) (ho : 0 ≤ (pc : Int) + o) (hp : ((pc : Int) + o).toNat = pc1) (hp2 : pc + 3 = pc2) (hy : x = y → WP C Z code ml own rt nm R n0 Q cl sl h pc1 Ls st) (hn : ¬ x = y → WP C Z code ml own rt nm R n0 Q cl sl h pc2 Ls st) : WP C Z code ml own rt nm R n0 Q cl sl h pc Ls (.int y :: .int x :: st) :=
  WP.icmp hd ho hp hp2 (fun hq => hy (Decidable.byContradiction fun k => by rw [(feq k).1] at hq; cases hq)) (fun hq => hn (fun k => by rw [(teq k).1] at hq; cases hq))
theorem WP.icmp_ne {pc1 pc2 : Nat} {x y : Int32} {o : Int} (hd : decode code pc = .ok (.if_icmp .ne o, 3)) (ho : 0 ≤ (pc : Int) + o) (hp : ((pc : Int) + o).toNat = pc1) (hp2 : pc + 3 = pc2) (hy : ¬ x = y → WP C Z code ml own rt nm R n0 Q cl sl h pc1 Ls st) (hn : x = y → WP C Z code ml own rt nm R n0 Q cl sl h pc2 Ls st) : WP C Z code ml own rt nm R n0 Q cl sl h pc Ls (.int y :: .int x :: st) :=
  WP.icmp hd ho hp hp2 (fun hq => hy (fun k => by rw [(teq k).2] at hq; cases hq)) (fun hq => hn (Decidable.byContradiction fun k => by rw [(feq k).2] at hq; cases hq))
theorem WP.ifc {pc1 pc2 : Nat} {x : Int32} {cd : ClassFile.Cond} {o : Int} (hd : decode code pc = .ok (.ifCond cd o, 3)) (ho : 0 ≤ (pc : Int) + o) (hp : ((pc : Int) + o).toNat = pc1) (hp2 : pc + 3 = pc2) (hy : ifCond.holds cd x = true → WP C Z code ml own rt nm R n0 Q cl sl h pc1 Ls st) (hn : ifCond.holds cd x = false → WP C Z code ml own rt nm R n0 Q cl sl h pc2 Ls st) : WP C Z code ml own rt nm R n0 Q cl sl h pc Ls (.int x :: st) := by
  subst hp2
  cases hq : ifCond.holds cd x with
  | true => exact (hy hq).pure fun X hx hby hown hZ eT t q => XS.ifYes X.here hx rfl (pc0 := pc) rfl (hb hby hd) rfl hq ho hp q
  | false => exact (hn hq).pure fun X hx hby hown hZ eT t q => XS.ifNo X.here hx rfl (hb hby hd) rfl hq q
theorem WP.ifc_lt {pc1 pc2 : Nat} {x : Int32} {o : Int} (hd : decode code pc = .ok (.ifCond .lt o, 3)) (ho : 0 ≤ (pc : Int) + o) (hp : ((pc : Int) + o).toNat = pc1) (hp2 : pc + 3 = pc2) (hy : x < (0 : Int32) → WP C Z code ml own rt nm R n0 Q cl sl h pc1 Ls st) (hn : ¬ x < (0 : Int32) → WP C Z code ml own rt nm R n0 Q cl sl h pc2 Ls st) : WP C Z code ml own rt nm R n0 Q cl sl h pc Ls (.int x :: st) :=
  WP.ifc hd ho hp hp2 (fun hq => hy (Decidable.byContradiction fun k => by rw [(if0 _ _).trans (flt k).1] at hq; cases hq)) (fun hq => hn (fun k => by rw [(if0 _ _).trans (tlt k).1] at hq; cases hq))
theorem WP.ifc_ge {pc1 pc2 : Nat} {x : Int32} {o : Int} (hd : decode code pc = .ok (.ifCond .ge o, 3)) (ho : 0 ≤ (pc : Int) + o) (hp : ((pc : Int) + o).toNat = pc1) (hp2 : pc + 3 = pc2) (hy : ¬ x < (0 : Int32) → WP C Z code ml own rt nm R n0 Q cl sl h pc1 Ls st) (hn : x < (0 : Int32) → WP C Z code ml own rt nm R n0 Q cl sl h pc2 Ls st) : WP C Z code ml own rt nm R n0 Q cl sl h pc Ls (.int x :: st) :=
  WP.ifc hd ho hp hp2 (fun hq => hy (fun k => by rw [(if0 _ _).trans (tlt k).2.1] at hq; cases hq)) (fun hq => hn (Decidable.byContradiction fun k => by rw [(if0 _ _).trans (flt k).2.1] at hq; cases hq))
theorem WP.ifc_gt {pc1 pc2 : Nat} {x : Int32} {o : Int} (hd : decode code pc = .ok (.ifCond .gt o, 3)) (ho : 0 ≤ (pc : Int) + o) (hp : ((pc : Int) + o).toNat = pc1) (hp2 : pc + 3 = pc2) (hy : (0 : Int32) < x → WP C Z code ml own rt nm R n0 Q cl sl h pc1 Ls st) (hn : ¬ (0 : Int32) < x → WP C Z code ml own rt nm R n0 Q cl sl h pc2 Ls st) : WP C Z code ml own rt nm R n0 Q cl sl h pc Ls (.int x :: st) :=
  WP.ifc hd ho hp hp2 (fun hq => hy (Decidable.byContradiction fun k => by rw [(if0 _ _).trans (flt k).2.2.1] at hq; cases hq)) (fun hq => hn (fun k => by rw [(if0 _ _).trans (tlt k).2.2.1] at hq; cases hq))
theorem WP.ifc_le {pc1 pc2 : Nat} {x : Int32} {o : Int} (hd : decode code pc = .ok (.ifCond .le o, 3)) (ho : 0 ≤ (pc : Int) + o) (hp : ((pc : Int) + o).toNat = pc1) (hp2 : pc + 3 = pc2) (hy : ¬ (0 : Int32) < x → WP C Z code ml own rt nm R n0 Q cl sl h pc1 Ls st) (hn : (0 : Int32) < x → WP C Z code ml own rt nm R n0 Q cl sl h pc2 Ls st) : WP C Z code ml own rt nm R n0 Q cl sl h pc Ls (.int x :: st) :=
  WP.ifc hd ho hp hp2 (fun hq => hy (fun k => by rw [(if0 _ _).trans (tlt k).2.2.2] at hq; cases hq)) (fun hq => hn (Decidable.byContradiction fun k => by rw [(if0 _ _).trans (flt k).2.2.2] at hq; cases hq))
theorem WP.ifc_eq {pc1 pc2 : Nat} {x : Int32} {o : Int} (hd : decode code pc = .ok (.ifCond .eq o, 3)) (ho : 0 ≤ (pc : Int) + o) (hp : ((pc : Int) + o).toNat = pc1) (hp2 : pc + 3 = pc2) (hy : x = (0 : Int32) → WP C Z code ml own rt nm R n0 Q cl sl h pc1 Ls st) (hn : ¬ x = (0 : Int32) → WP C Z code ml own rt nm R n0 Q cl sl h pc2 Ls st) : WP C Z code ml own rt nm R n0 Q cl sl h pc Ls (.int x :: st) :=
  WP.ifc hd ho hp hp2 (fun hq => hy (Decidable.byContradiction fun k => by rw [(if0 _ _).trans (feq k).1] at hq; cases hq)) (fun hq => hn (fun k => by rw [(if0 _ _).trans (teq k).1] at hq; cases hq))
theorem WP.ifc_ne {pc1 pc2 : Nat} {x : Int32} {o : Int} (hd : decode code pc = .ok (.ifCond .ne o, 3)) (ho : 0 ≤ (pc : Int) + o) (hp : ((pc : Int) + o).toNat = pc1) (hp2 : pc + 3 = pc2) (hy : ¬ x = (0 : Int32) → WP C Z code ml own rt nm R n0 Q cl sl h pc1 Ls st) (hn : x = (0 : Int32) → WP C Z code ml own rt nm R n0 Q cl sl h pc2 Ls st) : WP C Z code ml own rt nm R n0 Q cl sl h pc Ls (.int x :: st) :=
  WP.ifc hd ho hp hp2 (fun hq => hy (fun k => by rw [(if0 _ _).trans (teq k).2] at hq; cases hq)) (fun hq => hn (Decidable.byContradiction fun k => by rw [(if0 _ _).trans (feq k).2] at hq; cases hq))
theorem WP.lcmp_lt {pc1 pc2 : Nat} {x y : Int64} {o : Int} (hd1 : decode code pc = .ok (.lcmp, 1)) (hp0 : pc + 1 = pc') (hd : decode code pc' = .ok (.ifCond .lt o, 3)) (ho : 0 ≤ (pc' : Int) + o) (hp : ((pc' : Int) + o).toNat = pc1) (hp2 : pc' + 3 = pc2) (hy : x < y → WP C Z code ml own rt nm R n0 Q cl sl h pc1 Ls st) (hn : ¬ x < y → WP C Z code ml own rt nm R n0 Q cl sl h pc2 Ls st) : WP C Z code ml own rt nm R n0 Q cl sl h pc Ls (.long y :: .long x :: st) :=
  WP.lcmp hd1 hp0 (WP.ifc_lt hd ho hp hp2 (fun k => hy ((lw_lt x y).mp k)) (fun k => hn (fun z => k ((lw_lt x y).mpr z))))
theorem WP.lcmp_ge {pc1 pc2 : Nat} {x y : Int64} {o : Int} (hd1 : decode code pc = .ok (.lcmp, 1)) (hp0 : pc + 1 = pc') (hd : decode code pc' = .ok (.ifCond .ge o, 3)) (ho : 0 ≤ (pc' : Int) + o) (hp : ((pc' : Int) + o).toNat = pc1) (hp2 : pc' + 3 = pc2) (hy : ¬ x < y → WP C Z code ml own rt nm R n0 Q cl sl h pc1 Ls st) (hn : x < y → WP C Z code ml own rt nm R n0 Q cl sl h pc2 Ls st) : WP C Z code ml own rt nm R n0 Q cl sl h pc Ls (.long y :: .long x :: st) :=
  WP.lcmp hd1 hp0 (WP.ifc_ge hd ho hp hp2 (fun k => hy (fun z => k ((lw_lt x y).mpr z))) (fun k => hn ((lw_lt x y).mp k)))
theorem WP.lcmp_gt {pc1 pc2 : Nat} {x y : Int64} {o : Int} (hd1 : decode code pc = .ok (.lcmp, 1)) (hp0 : pc + 1 = pc') (hd : decode code pc' = .ok (.ifCond .gt o, 3)) (ho : 0 ≤ (pc' : Int) + o) (hp : ((pc' : Int) + o).toNat = pc1) (hp2 : pc' + 3 = pc2) (hy : y < x → WP C Z code ml own rt nm R n0 Q cl sl h pc1 Ls st) (hn : ¬ y < x → WP C Z code ml own rt nm R n0 Q cl sl h pc2 Ls st) : WP C Z code ml own rt nm R n0 Q cl sl h pc Ls (.long y :: .long x :: st) :=
  WP.lcmp hd1 hp0 (WP.ifc_gt hd ho hp hp2 (fun k => hy ((lw_gt x y).mp k)) (fun k => hn (fun z => k ((lw_gt x y).mpr z))))
theorem WP.lcmp_le {pc1 pc2 : Nat} {x y : Int64} {o : Int} (hd1 : decode code pc = .ok (.lcmp, 1)) (hp0 : pc + 1 = pc') (hd : decode code pc' = .ok (.ifCond .le o, 3)) (ho : 0 ≤ (pc' : Int) + o) (hp : ((pc' : Int) + o).toNat = pc1) (hp2 : pc' + 3 = pc2) (hy : ¬ y < x → WP C Z code ml own rt nm R n0 Q cl sl h pc1 Ls st) (hn : y < x → WP C Z code ml own rt nm R n0 Q cl sl h pc2 Ls st) : WP C Z code ml own rt nm R n0 Q cl sl h pc Ls (.long y :: .long x :: st) :=
  WP.lcmp hd1 hp0 (WP.ifc_le hd ho hp hp2 (fun k => hy (fun z => k ((lw_gt x y).mpr z))) (fun k => hn ((lw_gt x y).mp k)))
theorem WP.lcmp_eq {pc1 pc2 : Nat} {x y : Int64} {o : Int} (hd1 : decode code pc = .ok (.lcmp, 1)) (hp0 : pc + 1 = pc') (hd : decode code pc' = .ok (.ifCond .eq o, 3)) (ho : 0 ≤ (pc' : Int) + o) (hp : ((pc' : Int) + o).toNat = pc1) (hp2 : pc' + 3 = pc2) (hy : x = y → WP C Z code ml own rt nm R n0 Q cl sl h pc1 Ls st) (hn : ¬ x = y → WP C Z code ml own rt nm R n0 Q cl sl h pc2 Ls st) : WP C Z code ml own rt nm R n0 Q cl sl h pc Ls (.long y :: .long x :: st) :=
  WP.lcmp hd1 hp0 (WP.ifc_eq hd ho hp hp2 (fun k => hy ((lw_eq x y).mp k)) (fun k => hn (fun z => k ((lw_eq x y).mpr z))))
theorem WP.lcmp_ne {pc1 pc2 : Nat} {x y : Int64} {o : Int} (hd1 : decode code pc = .ok (.lcmp, 1)) (hp0 : pc + 1 = pc') (hd : decode code pc' = .ok (.ifCond .ne o, 3)) (ho : 0 ≤ (pc' : Int) + o) (hp : ((pc' : Int) + o).toNat = pc1) (hp2 : pc' + 3 = pc2) (hy : ¬ x = y → WP C Z code ml own rt nm R n0 Q cl sl h pc1 Ls st) (hn : x = y → WP C Z code ml own rt nm R n0 Q cl sl h pc2 Ls st) : WP C Z code ml own rt nm R n0 Q cl sl h pc Ls (.long y :: .long x :: st) :=
  WP.lcmp hd1 hp0 (WP.ifc_ne hd ho hp hp2 (fun k => hy (fun z => k ((lw_eq x y).mpr z))) (fun k => hn ((lw_eq x y).mp k)))
theorem WP.ifnullY {b : Addr} {o : Int} (hd : decode code pc = .ok (.ifnull o, 3)) (ho : 0 ≤ (pc : Int) + o) (hp : ((pc : Int) + o).toNat = pc') (hr : WP C Z code ml own rt nm R n0 Q cl sl h pc' Ls st) : WP C Z code ml own rt nm R n0 Q cl sl h pc Ls (.null :: st) :=
  hr.pure fun X hx hby hown hZ eT t q => XS.ifnullYes X.here hx rfl (pc0 := pc) rfl (hb hby hd) rfl ho hp q
theorem WP.ifnullN {b : Addr} {o : Int} (hd : decode code pc = .ok (.ifnull o, 3)) (hp : pc + 3 = pc') (hr : WP C Z code ml own rt nm R n0 Q cl sl h pc' Ls st) : WP C Z code ml own rt nm R n0 Q cl sl h pc Ls (.ref b :: st) := by
  subst hp
  exact hr.pure fun X hx hby hown hZ eT t q => XS.ifnullNo X.here hx rfl (hb hby hd) rfl q
theorem WP.ifnonnullY {b : Addr} {o : Int} (hd : decode code pc = .ok (.ifnonnull o, 3)) (ho : 0 ≤ (pc : Int) + o) (hp : ((pc : Int) + o).toNat = pc') (hr : WP C Z code ml own rt nm R n0 Q cl sl h pc' Ls st) : WP C Z code ml own rt nm R n0 Q cl sl h pc Ls (.ref b :: st) :=
  hr.pure fun X hx hby hown hZ eT t q => XS.ifnonnullYes X.here hx rfl (pc0 := pc) rfl (hb hby hd) rfl ho hp q
theorem WP.ifnonnullN {b : Addr} {o : Int} (hd : decode code pc = .ok (.ifnonnull o, 3)) (hp : pc + 3 = pc') (hr : WP C Z code ml own rt nm R n0 Q cl sl h pc' Ls st) : WP C Z code ml own rt nm R n0 Q cl sl h pc Ls (.null :: st) := by
  subst hp
  exact hr.pure fun X hx hby hown hZ eT t q => XS.ifnonnullNo X.here hx rfl (hb hby hd) rfl q
theorem WP.acmp_eq {pc1 pc2 : Nat} {x y : Value} {o : Int} (hd : decode code pc = .ok (.if_acmp .eq o, 3)) (h1 : x.isRef = true) (h2 : y.isRef = true) (ho : 0 ≤ (pc : Int) + o) (hp : ((pc : Int) + o).toNat = pc1) (hp2 : pc + 3 = pc2) (hy : x = y → WP C Z code ml own rt nm R n0 Q cl sl h pc1 Ls st) (hn : ¬ x = y → WP C Z code ml own rt nm R n0 Q cl sl h pc2 Ls st) : WP C Z code ml own rt nm R n0 Q cl sl h pc Ls (y :: x :: st) := by
  by_cases k : x = y
  · exact (hy k).pure fun X hx hby hown hZ eT t q => Jvm.RoadKit.acmp X hx rfl h1 h2 (pc0 := pc) (same := true) rfl (hb hby hd) rfl (decide_eq_true k) ho (by simp [acV, hp, hp2]) q
  · exact (hn k).pure fun X hx hby hown hZ eT t q => Jvm.RoadKit.acmp X hx rfl h1 h2 (pc0 := pc) (same := false) rfl (hb hby hd) rfl (decide_eq_false k) ho (by simp [acV, hp, hp2]) q
theorem WP.acmp_ne {pc1 pc2 : Nat} {x y : Value} {o : Int} (hd : decode code pc = .ok (.if_acmp .ne o, 3)) (h1 : x.isRef = true) (h2 : y.isRef = true) (ho : 0 ≤ (pc : Int) + o) (hp : ((pc : Int) + o).toNat = pc1) (hp2 : pc + 3 = pc2) (hy : ¬ x = y → WP C Z code ml own rt nm R n0 Q cl sl h pc1 Ls st) (hn : x = y → WP C Z code ml own rt nm R n0 Q cl sl h pc2 Ls st) : WP C Z code ml own rt nm R n0 Q cl sl h pc Ls (y :: x :: st) := by
  by_cases k : x = y
  · exact (hn k).pure fun X hx hby hown hZ eT t q => Jvm.RoadKit.acmp X hx rfl h1 h2 (pc0 := pc) (same := true) rfl (hb hby hd) rfl (decide_eq_true k) ho (by simp [acV, hp, hp2]) q
  · exact (hy k).pure fun X hx hby hown hZ eT t q => Jvm.RoadKit.acmp X hx rfl h1 h2 (pc0 := pc) (same := false) rfl (hb hby hd) rfl (decide_eq_false k) ho (by simp [acV, hp, hp2]) q
theorem WP.getF {i : Nat} {R0 O n d host : String} {a : Addr} {v : Value} (hd : decode code pc = .ok (.getfield i, 3)) (hp : pc + 3 = pc') (w : (Jvm.Cond.fieldLink own i R0 n d).before a0 Z = true ∨ (Jvm.Cond.fieldLinkNest own i R0 n d host).before a0 Z = true) (via : Via Z R0 O n d) (F : Fld Z h a O n d v) (hr : WP C Z code ml own rt nm R n0 Q cl sl h pc' Ls (v :: st)) : WP C Z code ml own rt nm R n0 Q cl sl h pc Ls (.ref a :: st) := by
  subst hp
  refine hr.step fun X hx hby hml hown hZ hnm eT N => ?_
  obtain ⟨T', X', e', k⟩ := RoadKit.getF X hx hZ hown w via eT F (g := mkF _ pc Ls (.ref a :: st)) rfl rfl (hb hby hd)
  exact ⟨T', _, X', e', N, fun t q => k t q⟩
theorem WP.getS {i : Nat} {R0 O n d host : String} {v : Value} (hd : decode code pc = .ok (.getstatic i, 3)) (hp : pc + 3 = pc') (w : (Jvm.Cond.fieldLink own i R0 n d).before a0 Z = true ∨ (Jvm.Cond.fieldLinkNest own i R0 n d host).before a0 Z = true) (via : Via Z R0 O n d) (F : Sta Z h O n d v) (hr : WP C Z code ml own rt nm R n0 Q cl sl h pc' Ls (v :: st)) : WP C Z code ml own rt nm R n0 Q cl sl h pc Ls st := by
  subst hp
  refine hr.step fun X hx hby hml hown hZ hnm eT N => ?_
  obtain ⟨T', X', e', k⟩ := getS2 X hx hZ hown w via eT F (g := mkF _ pc Ls st) rfl (hb hby hd)
  exact ⟨T', _, X', e', N, fun t q => k t q⟩
theorem WP.putF {i kk : Nat} {R0 O n d host K : String} {ty : FieldType} {a : Addr} {v old : Value} (hd : decode code pc = .ok (.putfield i, 3)) (hp : pc + 3 = pc') (w : (Jvm.Cond.fieldLink own i R0 n d).before a0 Z = true ∨ (Jvm.Cond.fieldLinkNest own i R0 n d host).before a0 Z = true) (via : Via Z R0 O n d) (F : Fld Z h a O n d old) (E : Exa Z h a K) (L : (Jvm.Cond.lays K O n d).before a0 Z = true ∨ ((Jvm.Cond.laysFinal K O n d).before a0 Z = true ∧ own = O ∧ nm = "<init>")) (wi : (Jvm.Cond.instantiable K kk).before a0 Z = true)
    (hty : parseFieldDescriptor d = some ty) (hn : narrow ty v = v) (hf : fits ty v = true) (ge : n0 ≤ a) (hr : ∀ h', Wr h h' a (Jvm.RoadKit.slotOf Z O n d) v → WP C Z code ml own rt nm R n0 Q cl sl h' pc' Ls st) : WP C Z code ml own rt nm R n0 Q cl sl h pc Ls (v :: .ref a :: st) := by
  subst hp
  intro k1 k2 k3 k4 k5 k6 k7 k8 T locs X e N
  obtain ⟨T', h', X', e', W', k⟩ := RoadKit.putF X k1 k5 k4 w via e F E (L.imp id fun z => ⟨z.1, z.2.1, k8.trans z.2.2⟩) wi hty hn hf (g := mkF _ pc Ls (v :: .ref a :: st)) rfl rfl (hb k2 hd)
  obtain ⟨s₂, v', L', h1, h2⟩ := hr h' W' k1 k2 k3 k4 k5 k6 k7 k8 T' _ X' e' (Fr.snoc X' N ge)
  exact ⟨s₂, v', L', k _ h1, h2⟩
theorem WP.putFN {i kk : Nat} {R0 O n d K : String} {ty : FieldType} {a : Addr} {v v' old : Value} (hd : decode code pc = .ok (.putfield i, 3)) (hp : pc + 3 = pc') (w : (Jvm.Cond.fieldLink own i R0 n d).before a0 Z = true) (via : Via Z R0 O n d) (F : Fld Z h a O n d old) (E : Exa Z h a K) (L : (Jvm.Cond.lays K O n d).before a0 Z = true ∨ ((Jvm.Cond.laysFinal K O n d).before a0 Z = true ∧ own = O ∧ nm = "<init>")) (wi : (Jvm.Cond.instantiable K kk).before a0 Z = true)
    (hty : parseFieldDescriptor d = some ty) (hn : narrow ty v = v') (hf : fits ty v' = true) (ge : n0 ≤ a) (hr : ∀ h', Wr h h' a (Jvm.RoadKit.slotOf Z O n d) v' → WP C Z code ml own rt nm R n0 Q cl sl h' pc' Ls st) : WP C Z code ml own rt nm R n0 Q cl sl h pc Ls (v :: .ref a :: st) := by
  subst hp
  intro k1 k2 k3 k4 k5 k6 k7 k8 T locs X e N
  obtain ⟨T', h', X', e', W', k⟩ := RoadKit.putFN X k1 k5 k4 w via e F E (L.imp id fun z => ⟨z.1, z.2.1, k8.trans z.2.2⟩) wi hty hn hf (g := mkF _ pc Ls (v :: .ref a :: st)) rfl rfl (hb k2 hd)
  obtain ⟨s₂, v'', L', h1, h2⟩ := hr h' W' k1 k2 k3 k4 k5 k6 k7 k8 T' _ X' e' (Fr.snoc X' N ge)
  exact ⟨s₂, v'', L', k _ h1, h2⟩
theorem WP.newO {i n : Nat} {K : String} {cl' sl' : Nat} (hd : decode code pc = .ok (.new i, 3)) (hp : pc + 3 = pc') (w : (Jvm.Cond.classLink own i K).before a0 Z = true) (wi : (Jvm.Cond.instantiable K n).before a0 Z = true) (wz : (Jvm.Cond.initialized K).before a0 Z = true) (hc : cl + 1 = cl') (hs : sl + n = sl') (hc' : cl' ≤ R.cells) (hs' : sl' ≤ R.slots)
    (hr : ∀ h' a, a = h.size → Ext h h' → Exa Z h' a K → (∀ {O nf d : String} {ty : FieldType}, Laid Z a0 K O nf d → parseFieldDescriptor d = some ty → Fld Z h' a O nf d (defaultValue ty)) → WP C Z code ml own rt nm R n0 Q cl' sl' h' pc' Ls (.ref a :: st)) : WP C Z code ml own rt nm R n0 Q cl sl h pc Ls st := by
  subst hp hc hs
  intro k1 k2 k3 k4 k5 k6 k7 k8 T locs X e N
  obtain ⟨T', h', X', e', E', A', D', -, k⟩ := RoadKit.newO X k1 k5 k4 w wi wz e (g := mkF _ pc Ls st) rfl (hb k2 hd) hc' hs'
  obtain ⟨s₂, v', L', h1, h2⟩ := hr h' _ rfl E' A' D' k1 k2 k3 k4 k5 k6 k7 k8 T' _ X' e' N
  exact ⟨s₂, v', L', k _ h1, h2⟩
/-- an array of n elements, the i-th is f i -/
def Arf (Z : State) (h : Heap) (a : Addr) (ty : FieldType) (n : Nat) (f : Nat → Value) : Prop := ∃ c : Cell, Arr Z h a c ty ∧ c.slots.size = n ∧ n < 2147483648 ∧ (∀ i, i < n → c.slots[i]? = some (f i)) ∧ ∀ i, i < n → fits ty (f i) = true
theorem Arf.lt {a : Addr} {ty : FieldType} {n : Nat} {f : Nat → Value} (A : Arf Z h a ty n f) : a < h.size := by obtain ⟨c, A, -⟩ := A; exact A.lt
theorem Arf.small {a : Addr} {ty : FieldType} {n : Nat} {f : Nat → Value} (A : Arf Z h a ty n f) : n < 2147483648 := by obtain ⟨c, -, -, h, -⟩ := A; exact h
theorem Arf.keep {h' : Heap} {ws : List Addr} {a : Addr} {ty : FieldType} {n : Nat} {f : Nat → Value} (A : Arf Z h a ty n f) (K : Keep h h' ws) (q : a ∉ ws) : Arf Z h' a ty n f := by obtain ⟨c, A, r⟩ := A; exact ⟨c, ⟨K.2.1 a c A.1 q, A.2⟩, r⟩
theorem Arf.ext {h' : Heap} {a : Addr} {ty : FieldType} {n : Nat} {f : Nat → Value} (A : Arf Z h a ty n f) (E : Ext h h') : Arf Z h' a ty n f := by obtain ⟨c, A, r⟩ := A; exact ⟨c, A.ext E, r⟩
theorem Arf.fit {a : Addr} {ty : FieldType} {n : Nat} {f : Nat → Value} (A : Arf Z h a ty n f) {i : Nat} (hi : i < n) : fits ty (f i) = true := by obtain ⟨c, -, -, -, -, r⟩ := A; exact r i hi
theorem Arf.congr {a : Addr} {ty : FieldType} {n : Nat} {f g : Nat → Value} (A : Arf Z h a ty n f) (q : ∀ i, i < n → f i = g i) : Arf Z h a ty n g := by
  obtain ⟨c, A, r1, r2, r3, r4⟩ := A; exact ⟨c, A, r1, r2, fun i hi => by rw [← q i hi]; exact r3 i hi, fun i hi => by rw [← q i hi]; exact r4 i hi⟩
theorem idxN {j : Int32} {i n : Nat} (hi : j.toInt = (i : Int)) (hl : i < n) : ¬ (j < 0 ∨ n ≤ j.toNatClampNeg) ∧ j.toNatClampNeg = i := by
  have e0 : (0 : Int32).toInt = 0 := rfl
  simp only [Int32.lt_iff_toInt_lt, Int32.toNatClampNeg, hi, e0]; omega
theorem WP.baload {a : Addr} {j : Int32} {n : Nat} {f : Nat → Value} {v : Value} (i : Nat) (hd : decode code pc = .ok (.baload, 1)) (hp : pc + 1 = pc') (A : Arf Z h a .byte n f) (hi : j.toInt = (i : Int)) (hl : i < n) (hv : f i = v) (hr : WP C Z code ml own rt nm R n0 Q cl sl h pc' Ls (v :: st)) : WP C Z code ml own rt nm R n0 Q cl sl h pc Ls (.int j :: .ref a :: st) := by
  subst hp hv
  obtain ⟨c, A, r1, r2, r3, r4⟩ := A
  obtain ⟨q1, q2⟩ := idxN hi hl
  exact hr.pure fun X hx hby hown hZ eT t q => X.baloadBytes hx (j := j) (by rw [eT]; exact A.1) (State.isArrayOf_alike hZ.alike A.2.1) A.2.2 (by rw [r1]; exact q1) (by rw [q2]; exact r3 i hl) (g := mkF _ pc Ls (.int j :: .ref a :: st)) rfl rfl (hb hby hd) t q
theorem WP.baloadZ {a : Addr} {j : Int32} {n : Nat} {f : Nat → Value} {v : Value} (i : Nat) (hd : decode code pc = .ok (.baload, 1)) (hp : pc + 1 = pc') (A : Arf Z h a .boolean n f) (hi : j.toInt = (i : Int)) (hl : i < n) (hv : f i = v) (hr : WP C Z code ml own rt nm R n0 Q cl sl h pc' Ls (v :: st)) : WP C Z code ml own rt nm R n0 Q cl sl h pc Ls (.int j :: .ref a :: st) := by
  subst hp hv
  obtain ⟨c, A, r1, r2, r3, r4⟩ := A
  obtain ⟨q1, q2⟩ := idxN hi hl
  exact hr.pure fun X hx hby hown hZ eT t q => X.baloadBooleans hx (j := j) (by rw [eT]; exact A.1) (State.isArrayOf_alike hZ.alike A.2.1) A.2.2 (by rw [r1]; exact q1) (by rw [q2]; exact r3 i hl) (g := mkF _ pc Ls (.int j :: .ref a :: st)) rfl rfl (hb hby hd) t q
theorem WP.caload {a : Addr} {j : Int32} {n : Nat} {f : Nat → Value} {v : Value} (i : Nat) (hd : decode code pc = .ok (.caload, 1)) (hp : pc + 1 = pc') (A : Arf Z h a .char n f) (hi : j.toInt = (i : Int)) (hl : i < n) (hv : f i = v) (hr : WP C Z code ml own rt nm R n0 Q cl sl h pc' Ls (v :: st)) : WP C Z code ml own rt nm R n0 Q cl sl h pc Ls (.int j :: .ref a :: st) := by
  subst hp hv
  obtain ⟨c, A, r1, r2, r3, r4⟩ := A
  obtain ⟨q1, q2⟩ := idxN hi hl
  exact hr.pure fun X hx hby hown hZ eT t q => X.caload hx (j := j) (by rw [eT]; exact A.1) (State.isArrayOf_alike hZ.alike A.2.1) A.2.2 (by rw [r1]; exact q1) (by rw [q2]; exact r3 i hl) (g := mkF _ pc Ls (.int j :: .ref a :: st)) rfl rfl (hb hby hd) t q
theorem WP.iaload {a : Addr} {j : Int32} {n : Nat} {f : Nat → Value} {v : Value} (i : Nat) (hd : decode code pc = .ok (.iaload, 1)) (hp : pc + 1 = pc') (A : Arf Z h a .int n f) (hi : j.toInt = (i : Int)) (hl : i < n) (hv : f i = v) (hr : WP C Z code ml own rt nm R n0 Q cl sl h pc' Ls (v :: st)) : WP C Z code ml own rt nm R n0 Q cl sl h pc Ls (.int j :: .ref a :: st) := by
  subst hp hv
  obtain ⟨c, A, r1, r2, r3, r4⟩ := A
  obtain ⟨q1, q2⟩ := idxN hi hl
  exact hr.pure fun X hx hby hown hZ eT t q => X.iaload hx (j := j) (by rw [eT]; exact A.1) (State.isArrayOf_alike hZ.alike A.2.1) A.2.2 (by rw [r1]; exact q1) (by rw [q2]; exact r3 i hl) (g := mkF _ pc Ls (.int j :: .ref a :: st)) rfl rfl (hb hby hd) t q
theorem WP.laload {a : Addr} {j : Int32} {n : Nat} {f : Nat → Value} {v : Value} (i : Nat) (hd : decode code pc = .ok (.laload, 1)) (hp : pc + 1 = pc') (A : Arf Z h a .long n f) (hi : j.toInt = (i : Int)) (hl : i < n) (hv : f i = v) (hr : WP C Z code ml own rt nm R n0 Q cl sl h pc' Ls (v :: st)) : WP C Z code ml own rt nm R n0 Q cl sl h pc Ls (.int j :: .ref a :: st) := by
  subst hp hv
  obtain ⟨c, A, r1, r2, r3, r4⟩ := A
  obtain ⟨q1, q2⟩ := idxN hi hl
  exact hr.pure fun X hx hby hown hZ eT t q => X.laload hx (j := j) (by rw [eT]; exact A.1) (State.isArrayOf_alike hZ.alike A.2.1) A.2.2 (by rw [r1]; exact q1) (by rw [q2]; exact r3 i hl) (g := mkF _ pc Ls (.int j :: .ref a :: st)) rfl rfl (hb hby hd) t q
theorem WP.saload {a : Addr} {j : Int32} {n : Nat} {f : Nat → Value} {v : Value} (i : Nat) (hd : decode code pc = .ok (.saload, 1)) (hp : pc + 1 = pc') (A : Arf Z h a .short n f) (hi : j.toInt = (i : Int)) (hl : i < n) (hv : f i = v) (hr : WP C Z code ml own rt nm R n0 Q cl sl h pc' Ls (v :: st)) : WP C Z code ml own rt nm R n0 Q cl sl h pc Ls (.int j :: .ref a :: st) := by
  subst hp hv
  obtain ⟨c, A, r1, r2, r3, r4⟩ := A
  obtain ⟨q1, q2⟩ := idxN hi hl
  exact hr.pure fun X hx hby hown hZ eT t q => X.saload hx (j := j) (by rw [eT]; exact A.1) (State.isArrayOf_alike hZ.alike A.2.1) A.2.2 (by rw [r1]; exact q1) (by rw [q2]; exact r3 i hl) (g := mkF _ pc Ls (.int j :: .ref a :: st)) rfl rfl (hb hby hd) t q
theorem WP.aaload {a : Addr} {j : Int32} {n : Nat} {f : Nat → Value} {v : Value} {ty : FieldType} (i : Nat) (hd : decode code pc = .ok (.aaload, 1)) (hp : pc + 1 = pc') (A : Arf Z h a ty n f) (hty : ty.isReference = true) (hi : j.toInt = (i : Int)) (hl : i < n) (hv : f i = v) (hr : WP C Z code ml own rt nm R n0 Q cl sl h pc' Ls (v :: st)) : WP C Z code ml own rt nm R n0 Q cl sl h pc Ls (.int j :: .ref a :: st) := by
  subst hp hv
  obtain ⟨c, A, r1, r2, r3, r4⟩ := A
  obtain ⟨q1, q2⟩ := idxN hi hl
  exact hr.pure fun X hx hby hown hZ eT t q => X.aaload hx (j := j) (by rw [eT]; exact A.1) (State.isArrayOf_alike hZ.alike A.2.1) hty A.2.2 (by rw [r1]; exact q1) (by rw [q2]; exact r3 i hl) (g := mkF _ pc Ls (.int j :: .ref a :: st)) rfl rfl (hb hby hd) t q
theorem WP.arraylength {a : Addr} {n : Nat} {f : Nat → Value} {ty : FieldType} {z : Int32} (hd : decode code pc = .ok (.arraylength, 1)) (hp : pc + 1 = pc') (A : Arf Z h a ty n f) (hz : n.toInt32 = z) (hr : WP C Z code ml own rt nm R n0 Q cl sl h pc' Ls (.int z :: st)) : WP C Z code ml own rt nm R n0 Q cl sl h pc Ls (.ref a :: st) := by
  subst hp hz
  obtain ⟨c, A, r1, r2, r3, r4⟩ := A
  exact hr.pure fun X hx hby hown hZ eT t q => X.arraylength hx (by rw [eT]; exact A.1) (State.isArrayOf_alike hZ.alike A.2.1) (g := mkF _ pc Ls (.ref a :: st)) rfl rfl (hb hby hd) t (by rw [r1]; exact q)
theorem Arf.set {h' : Heap} {a : Addr} {ty : FieldType} {n : Nat} {f : Nat → Value} {c : Cell} {v : Value} {j : Int32} {i : Nat} (A : Arr Z h a c ty) (r1 : c.slots.size = n) (r2 : n < 2147483648) (r3 : ∀ i, i < n → c.slots[i]? = some (f i)) (r4 : ∀ i, i < n → fits ty (f i) = true) (hv : fits ty v = true) (W : Wr h h' a j.toNatClampNeg v) (hj : j.toNatClampNeg = i) (hl : i < n) : Arf Z h' a ty n (fun k => if k = i then v else f k) := by
  subst hj
  refine ⟨_, A.same W, by rw [sz_set]; exact r1, r2, fun k hk => ?_, fun k hk => ?_⟩
  · by_cases e : k = j.toNatClampNeg
    · show _ = some (if k = j.toNatClampNeg then v else f k)
      rw [if_pos e, e]; simp [Cell.setSlot, r1, hl]
    · show _ = some (if k = j.toNatClampNeg then v else f k)
      rw [if_neg e, ← r3 k hk]; exact Array.getElem?_setIfInBounds_ne (Ne.symm e)
  · by_cases e : k = j.toNatClampNeg
    · simp only [if_pos e]; exact hv
    · simp only [if_neg e]; exact r4 k hk
theorem WP.bastore {a : Addr} {j : Int32} {x : Int32} {n : Nat} {f : Nat → Value} (i : Nat) (hd : decode code pc = .ok (.bastore, 1)) (hp : pc + 1 = pc') (A : Arf Z h a .byte n f) (hi : j.toInt = (i : Int)) (hl : i < n) (ge : n0 ≤ a) (hr : ∀ h', Keep h h' [a] → Arf Z h' a .byte n (fun k => if k = i then .int (nar .byte x) else f k) → WP C Z code ml own rt nm R n0 Q cl sl h' pc' Ls st) : WP C Z code ml own rt nm R n0 Q cl sl h pc Ls (.int x :: .int j :: .ref a :: st) := by
  subst hp
  obtain ⟨c, A, r1, r2, r3, r4⟩ := A
  obtain ⟨q1, q2⟩ := idxN hi hl
  intro k1 k2 k3 k4 k5 k6 k7 k8 T locs X e N
  obtain ⟨T', h', X', e', W', k⟩ := stB X k1 k5 e A (j := j) (x := x) (by rw [r1]; exact q1) (g := mkF _ pc Ls (.int x :: .int j :: .ref a :: st)) rfl rfl (hb k2 hd)
  obtain ⟨s₂, v', L', h1, h2⟩ := hr h' (Keep.of_wr W') (Arf.set A r1 r2 r3 r4 (fits_nar_byte x) W' q2 hl) k1 k2 k3 k4 k5 k6 k7 k8 T' _ X' e' (Fr.snoc X' N ge)
  exact ⟨s₂, v', L', k _ h1, h2⟩
theorem WP.castore {a : Addr} {j : Int32} {x : Int32} {n : Nat} {f : Nat → Value} (i : Nat) (hd : decode code pc = .ok (.castore, 1)) (hp : pc + 1 = pc') (A : Arf Z h a .char n f) (hi : j.toInt = (i : Int)) (hl : i < n) (ge : n0 ≤ a) (hr : ∀ h', Keep h h' [a] → Arf Z h' a .char n (fun k => if k = i then .int (nar .char x) else f k) → WP C Z code ml own rt nm R n0 Q cl sl h' pc' Ls st) : WP C Z code ml own rt nm R n0 Q cl sl h pc Ls (.int x :: .int j :: .ref a :: st) := by
  subst hp
  obtain ⟨c, A, r1, r2, r3, r4⟩ := A
  obtain ⟨q1, q2⟩ := idxN hi hl
  intro k1 k2 k3 k4 k5 k6 k7 k8 T locs X e N
  obtain ⟨T', h', X', e', W', k⟩ := stC X k1 k5 e A (j := j) (x := x) (by rw [r1]; exact q1) (g := mkF _ pc Ls (.int x :: .int j :: .ref a :: st)) rfl rfl (hb k2 hd)
  obtain ⟨s₂, v', L', h1, h2⟩ := hr h' (Keep.of_wr W') (Arf.set A r1 r2 r3 r4 (fits_nar_char x) W' q2 hl) k1 k2 k3 k4 k5 k6 k7 k8 T' _ X' e' (Fr.snoc X' N ge)
  exact ⟨s₂, v', L', k _ h1, h2⟩
theorem WP.iastore {a : Addr} {j : Int32} {x : Int32} {n : Nat} {f : Nat → Value} (i : Nat) (hd : decode code pc = .ok (.iastore, 1)) (hp : pc + 1 = pc') (A : Arf Z h a .int n f) (hi : j.toInt = (i : Int)) (hl : i < n) (ge : n0 ≤ a) (hr : ∀ h', Keep h h' [a] → Arf Z h' a .int n (fun k => if k = i then .int x else f k) → WP C Z code ml own rt nm R n0 Q cl sl h' pc' Ls st) : WP C Z code ml own rt nm R n0 Q cl sl h pc Ls (.int x :: .int j :: .ref a :: st) := by
  subst hp
  obtain ⟨c, A, r1, r2, r3, r4⟩ := A
  obtain ⟨q1, q2⟩ := idxN hi hl
  intro k1 k2 k3 k4 k5 k6 k7 k8 T locs X e N
  obtain ⟨T', h', X', e', W', k⟩ := stI X k1 k5 e A (j := j) (x := x) (by rw [r1]; exact q1) (g := mkF _ pc Ls (.int x :: .int j :: .ref a :: st)) rfl rfl (hb k2 hd)
  obtain ⟨s₂, v', L', h1, h2⟩ := hr h' (Keep.of_wr W') (Arf.set A r1 r2 r3 r4 rfl W' q2 hl) k1 k2 k3 k4 k5 k6 k7 k8 T' _ X' e' (Fr.snoc X' N ge)
  exact ⟨s₂, v', L', k _ h1, h2⟩
theorem WP.lastore {a : Addr} {j : Int32} {x : Int64} {n : Nat} {f : Nat → Value} (i : Nat) (hd : decode code pc = .ok (.lastore, 1)) (hp : pc + 1 = pc') (A : Arf Z h a .long n f) (hi : j.toInt = (i : Int)) (hl : i < n) (ge : n0 ≤ a) (hr : ∀ h', Keep h h' [a] → Arf Z h' a .long n (fun k => if k = i then .long x else f k) → WP C Z code ml own rt nm R n0 Q cl sl h' pc' Ls st) : WP C Z code ml own rt nm R n0 Q cl sl h pc Ls (.long x :: .int j :: .ref a :: st) := by
  subst hp
  obtain ⟨c, A, r1, r2, r3, r4⟩ := A
  obtain ⟨q1, q2⟩ := idxN hi hl
  intro k1 k2 k3 k4 k5 k6 k7 k8 T locs X e N
  obtain ⟨T', h', X', e', W', k⟩ := stJ X k1 k5 e A (j := j) (x := x) (by rw [r1]; exact q1) (g := mkF _ pc Ls (.long x :: .int j :: .ref a :: st)) rfl rfl (hb k2 hd)
  obtain ⟨s₂, v', L', h1, h2⟩ := hr h' (Keep.of_wr W') (Arf.set A r1 r2 r3 r4 rfl W' q2 hl) k1 k2 k3 k4 k5 k6 k7 k8 T' _ X' e' (Fr.snoc X' N ge)
  exact ⟨s₂, v', L', k _ h1, h2⟩
theorem WP.newP {aty : ArrayType} {z : Int32} {n cap : Nat} {cl' sl' : Nat} (hd : decode code pc = .ok (.newarray aty, 2)) (hp : pc + 2 = pc') (w : (Jvm.Cond.arrayClass (newarray.typeOf aty)).before a0 Z = true) (hz : z.toInt = (n : Int)) (hcap : n ≤ cap) (hbig : cap * 8 ≤ 536870912) (hc : cl + 1 = cl') (hs : sl + cap = sl') (hc' : cl' ≤ R.cells) (hs' : sl' ≤ R.slots)
    (hr : ∀ h' a, a = h.size → Ext h h' → Arf Z h' a (newarray.typeOf aty) n (fun _ => defaultValue (newarray.typeOf aty)) → WP C Z code ml own rt nm R n0 Q cl' sl' h' pc' Ls (.ref a :: st)) : WP C Z code ml own rt nm R n0 Q cl sl h pc Ls (.int z :: st) := by
  subst hp hc hs
  have e0 : (0 : Int32).toInt = 0 := rfl
  have hzn : z.toNatClampNeg = n := by simp only [Int32.toNatClampNeg, hz]; omega
  have hzl : n < 2147483648 := by have := z.toInt_lt; omega
  intro k1 k2 k3 k4 k5 k6 k7 k8 T locs X e N
  obtain ⟨T', h', cA, X', e', E', A', k⟩ := RoadKit.newP X k1 k5 w e (g := mkF _ pc Ls (.int z :: st)) rfl (hb k2 hd) rfl (by rw [Int32.lt_iff_toInt_lt, hz, e0]; omega) (cap := cap) (by rw [hzn]; exact hcap) hbig hc' hs'
  obtain ⟨s₂, v', L', h1, h2⟩ := hr h' _ rfl E' ⟨_, A', by rw [sz_new, hzn], hzl, fun i hi => by simp [newA, hzn, hi], fun i _ => by cases aty <;> rfl⟩ k1 k2 k3 k4 k5 k6 k7 k8 T' _ X' e' N
  exact ⟨s₂, v', L', k _ h1, h2⟩
def updI (g : Nat → Int32) (i : Nat) (x : Int32) : Nat → Int32 := fun k => if k = i then x else g k
def Ari (Z : State) (h : Heap) (a : Addr) (ty : FieldType) (n : Nat) (g : Nat → Int32) : Prop := Arf Z h a ty n (fun i => .int (g i))
theorem Ari.lt {a : Addr} {ty : FieldType} {n : Nat} {g : Nat → Int32} (A : Ari Z h a ty n g) : a < h.size := Arf.lt A
theorem Ari.small {a : Addr} {ty : FieldType} {n : Nat} {g : Nat → Int32} (A : Ari Z h a ty n g) : n < 2147483648 := Arf.small A
theorem Ari.keep {h' : Heap} {ws : List Addr} {a : Addr} {ty : FieldType} {n : Nat} {g : Nat → Int32} (A : Ari Z h a ty n g) (K : Keep h h' ws) (q : a ∉ ws) : Ari Z h' a ty n g := Arf.keep A K q
theorem Ari.ext {h' : Heap} {a : Addr} {ty : FieldType} {n : Nat} {g : Nat → Int32} (A : Ari Z h a ty n g) (E : Ext h h') : Ari Z h' a ty n g := Arf.ext A E
theorem Ari.congr {a : Addr} {ty : FieldType} {n : Nat} {f g : Nat → Int32} (A : Ari Z h a ty n f) (q : ∀ i, i < n → f i = g i) : Ari Z h a ty n g := Arf.congr A fun i hi => congrArg Value.int (q i hi)
theorem upd_at (g : Nat → Int32) (i : Nat) (x : Int32) : updI g i x i = x := if_pos rfl
theorem upd_ne {g : Nat → Int32} {i k : Nat} {x : Int32} (q : k ≠ i) : updI g i x k = g k := if_neg q
theorem upd_if (g : Nat → Int32) (i : Nat) (x : Int32) : (fun k => if k = i then Value.int x else Value.int (g k)) = fun k => Value.int (updI g i x k) := by funext k; unfold updI; split <;> rfl
theorem litN (z : Int32) (n : Nat) (h : z.toInt = (n : Int)) : z.toInt = (n : Int) := h
theorem WP.baloadI {a : Addr} {j : Int32} {n : Nat} {g : Nat → Int32} {v : Int32} (i : Nat) (hd : decode code pc = .ok (.baload, 1)) (hp : pc + 1 = pc') (A : Ari Z h a .byte n g) (hi : j.toInt = (i : Int)) (hl : i < n) (hv : g i = v) (hr : WP C Z code ml own rt nm R n0 Q cl sl h pc' Ls (.int v :: st)) : WP C Z code ml own rt nm R n0 Q cl sl h pc Ls (.int j :: .ref a :: st) := WP.baload i hd hp A hi hl (congrArg Value.int hv) hr
theorem WP.baloadZI {a : Addr} {j : Int32} {n : Nat} {g : Nat → Int32} {v : Int32} (i : Nat) (hd : decode code pc = .ok (.baload, 1)) (hp : pc + 1 = pc') (A : Ari Z h a .boolean n g) (hi : j.toInt = (i : Int)) (hl : i < n) (hv : g i = v) (hr : WP C Z code ml own rt nm R n0 Q cl sl h pc' Ls (.int v :: st)) : WP C Z code ml own rt nm R n0 Q cl sl h pc Ls (.int j :: .ref a :: st) := WP.baloadZ i hd hp A hi hl (congrArg Value.int hv) hr
theorem WP.caloadI {a : Addr} {j : Int32} {n : Nat} {g : Nat → Int32} {v : Int32} (i : Nat) (hd : decode code pc = .ok (.caload, 1)) (hp : pc + 1 = pc') (A : Ari Z h a .char n g) (hi : j.toInt = (i : Int)) (hl : i < n) (hv : g i = v) (hr : WP C Z code ml own rt nm R n0 Q cl sl h pc' Ls (.int v :: st)) : WP C Z code ml own rt nm R n0 Q cl sl h pc Ls (.int j :: .ref a :: st) := WP.caload i hd hp A hi hl (congrArg Value.int hv) hr
theorem WP.ialoadI {a : Addr} {j : Int32} {n : Nat} {g : Nat → Int32} {v : Int32} (i : Nat) (hd : decode code pc = .ok (.iaload, 1)) (hp : pc + 1 = pc') (A : Ari Z h a .int n g) (hi : j.toInt = (i : Int)) (hl : i < n) (hv : g i = v) (hr : WP C Z code ml own rt nm R n0 Q cl sl h pc' Ls (.int v :: st)) : WP C Z code ml own rt nm R n0 Q cl sl h pc Ls (.int j :: .ref a :: st) := WP.iaload i hd hp A hi hl (congrArg Value.int hv) hr
theorem WP.saloadI {a : Addr} {j : Int32} {n : Nat} {g : Nat → Int32} {v : Int32} (i : Nat) (hd : decode code pc = .ok (.saload, 1)) (hp : pc + 1 = pc') (A : Ari Z h a .short n g) (hi : j.toInt = (i : Int)) (hl : i < n) (hv : g i = v) (hr : WP C Z code ml own rt nm R n0 Q cl sl h pc' Ls (.int v :: st)) : WP C Z code ml own rt nm R n0 Q cl sl h pc Ls (.int j :: .ref a :: st) := WP.saload i hd hp A hi hl (congrArg Value.int hv) hr
theorem WP.bastoreI {a : Addr} {j x x' : Int32} {n : Nat} {g : Nat → Int32} (i : Nat) (hd : decode code pc = .ok (.bastore, 1)) (hp : pc + 1 = pc') (A : Ari Z h a .byte n g) (hi : j.toInt = (i : Int)) (hl : i < n) (ge : n0 ≤ a) (hx : nar .byte x = x') (hr : ∀ h', Keep h h' [a] → Ari Z h' a .byte n (updI g i x') → WP C Z code ml own rt nm R n0 Q cl sl h' pc' Ls st) : WP C Z code ml own rt nm R n0 Q cl sl h pc Ls (.int x :: .int j :: .ref a :: st) := by
  subst hx
  exact WP.bastore i hd hp A hi hl ge fun h' K A' => hr h' K (by unfold Ari; rw [← upd_if]; exact A')
theorem WP.castoreI {a : Addr} {j x x' : Int32} {n : Nat} {g : Nat → Int32} (i : Nat) (hd : decode code pc = .ok (.castore, 1)) (hp : pc + 1 = pc') (A : Ari Z h a .char n g) (hi : j.toInt = (i : Int)) (hl : i < n) (ge : n0 ≤ a) (hx : nar .char x = x') (hr : ∀ h', Keep h h' [a] → Ari Z h' a .char n (updI g i x') → WP C Z code ml own rt nm R n0 Q cl sl h' pc' Ls st) : WP C Z code ml own rt nm R n0 Q cl sl h pc Ls (.int x :: .int j :: .ref a :: st) := by
  subst hx
  exact WP.castore i hd hp A hi hl ge fun h' K A' => hr h' K (by unfold Ari; rw [← upd_if]; exact A')
theorem WP.iastoreI {a : Addr} {j x x' : Int32} {n : Nat} {g : Nat → Int32} (i : Nat) (hd : decode code pc = .ok (.iastore, 1)) (hp : pc + 1 = pc') (A : Ari Z h a .int n g) (hi : j.toInt = (i : Int)) (hl : i < n) (ge : n0 ≤ a) (hx : x = x') (hr : ∀ h', Keep h h' [a] → Ari Z h' a .int n (updI g i x') → WP C Z code ml own rt nm R n0 Q cl sl h' pc' Ls st) : WP C Z code ml own rt nm R n0 Q cl sl h pc Ls (.int x :: .int j :: .ref a :: st) := by
  subst hx
  exact WP.iastore i hd hp A hi hl ge fun h' K A' => hr h' K (by unfold Ari; rw [← upd_if]; exact A')
theorem WP.newPI {aty : ArrayType} {ty : FieldType} {z : Int32} {n cap : Nat} {cl' sl' : Nat} (hd : decode code pc = .ok (.newarray aty, 2)) (hp : pc + 2 = pc') (hty : newarray.typeOf aty = ty) (hdv : defaultValue ty = .int 0) (w : (Jvm.Cond.arrayClass ty).before a0 Z = true) (hz : z.toInt = (n : Int)) (hcap : n ≤ cap) (hbig : cap * 8 ≤ 536870912) (hc : cl + 1 = cl') (hs : sl + cap = sl') (hc' : cl' ≤ R.cells) (hs' : sl' ≤ R.slots)
    (hr : ∀ h' a, a = h.size → Ext h h' → Ari Z h' a ty n (fun _ => 0) → WP C Z code ml own rt nm R n0 Q cl' sl' h' pc' Ls (.ref a :: st)) : WP C Z code ml own rt nm R n0 Q cl sl h pc Ls (.int z :: st) := by
  subst hty
  exact WP.newP hd hp w hz hcap hbig hc hs hc' hs' fun h' a e E A => hr h' a e E (by rw [hdv] at A; exact A)
theorem WP.arraylengthI {a : Addr} {n : Nat} {g : Nat → Int32} {ty : FieldType} {z : Int32} (hd : decode code pc = .ok (.arraylength, 1)) (hp : pc + 1 = pc') (A : Ari Z h a ty n g) (hz : n.toInt32 = z) (hr : WP C Z code ml own rt nm R n0 Q cl sl h pc' Ls (.int z :: st)) : WP C Z code ml own rt nm R n0 Q cl sl h pc Ls (.ref a :: st) := WP.arraylength hd hp A hz hr
/-- the array's class is that of arrays of C -/
def Ocl (Z : State) (h : Heap) (a : Addr) (K : String) : Prop := ∃ c : Cell, h[a]? = some c ∧ Ovr Z c.cls K
theorem Ocl.ext {h' : Heap} {a : Addr} {K : String} (O : Ocl Z h a K) (E : Ext h h') : Ocl Z h' a K := by obtain ⟨c, h1, h2⟩ := O; exact ⟨c, E.2 _ _ h1, h2⟩
theorem Ocl.keep {h' : Heap} {ws : List Addr} {a : Addr} {K : String} (O : Ocl Z h a K) (E : Keep h h' ws) : Ocl Z h' a K := by
  obtain ⟨c, h1, h2⟩ := O
  obtain ⟨c', q1, q2, -⟩ := E.2.2 _ _ h1
  exact ⟨c', q1, by rw [q2]; exact h2⟩
theorem Ocl.sto {a y : Addr} {K : String} {ty : FieldType} {n : Nat} {f : Nat → Value} (O : Ocl Z h a K) (A : Arf Z h a ty n f) (I : Ins Z h y K true) : Sto Z h a (.ref y) := by
  obtain ⟨c, h1, h2⟩ := O
  obtain ⟨c', A, -⟩ := A
  cases h1.symm.trans A.1
  exact Sto.of A h2 I
def updV (g : Nat → Value) (i : Nat) (x : Value) : Nat → Value := fun k => if k = i then x else g k
theorem WP.newR {i n cap : Nat} {K : String} {z : Int32} {cl' sl' : Nat} (hd : decode code pc = .ok (.anewarray i, 3)) (hp : pc + 3 = pc') (w1 : (Jvm.Cond.classLink own i K).before a0 Z = true) (w2 : (Jvm.Cond.arrayOver (.object K)).before a0 Z = true) (hz : z.toInt = (n : Int)) (hcap : n ≤ cap) (hbig : cap * 8 ≤ 536870912) (hc : cl + 1 = cl') (hs : sl + cap = sl') (hc' : cl' ≤ R.cells) (hs' : sl' ≤ R.slots)
    (hr : ∀ h' a, a = h.size → Ext h h' → Arf Z h' a (.object K) n (fun _ => .null) → Ocl Z h' a K → WP C Z code ml own rt nm R n0 Q cl' sl' h' pc' Ls (.ref a :: st)) : WP C Z code ml own rt nm R n0 Q cl sl h pc Ls (.int z :: st) := by
  subst hp hc hs
  have e0 : (0 : Int32).toInt = 0 := rfl
  have hzn : z.toNatClampNeg = n := by simp only [Int32.toNatClampNeg, hz]; omega
  have hzl : n < 2147483648 := by have := z.toInt_lt; omega
  intro k1 k2 k3 k4 k5 k6 k7 k8 T locs X e N
  obtain ⟨T', h', cA, X', e', E', A', O', k⟩ := RoadKit.newR X k1 k5 k4 w1 w2 e (g := mkF _ pc Ls (.int z :: st)) rfl (hb k2 hd) rfl (by rw [Int32.lt_iff_toInt_lt, hz, e0]; omega) (cap := cap) (by rw [hzn]; exact hcap) hbig hc' hs'
  obtain ⟨s₂, v', L', h1, h2⟩ := hr h' _ rfl E' ⟨_, A', by rw [sz_new, hzn], hzl, fun i hi => by simp [newA, hzn, hi, defaultValue], fun i _ => rfl⟩ ⟨_, A'.1, O'⟩ k1 k2 k3 k4 k5 k6 k7 k8 T' _ X' e' N
  exact ⟨s₂, v', L', k _ h1, h2⟩
theorem WP.aastore {a : Addr} {j : Int32} {x : Value} {n : Nat} {f : Nat → Value} {ty : FieldType} (i : Nat) (hd : decode code pc = .ok (.aastore, 1)) (hp : pc + 1 = pc') (A : Arf Z h a ty n f) (hty : ty.isReference = true) (F : Sto Z h a x) (hf : fits ty x = true) (hi : j.toInt = (i : Int)) (hl : i < n) (ge : n0 ≤ a) (hr : ∀ h', Keep h h' [a] → Arf Z h' a ty n (updV f i x) → WP C Z code ml own rt nm R n0 Q cl sl h' pc' Ls st) : WP C Z code ml own rt nm R n0 Q cl sl h pc Ls (x :: .int j :: .ref a :: st) := by
  subst hp
  obtain ⟨c, A, r1, r2, r3, r4⟩ := A
  obtain ⟨q1, q2⟩ := idxN hi hl
  intro k1 k2 k3 k4 k5 k6 k7 k8 T locs X e N
  obtain ⟨T', h', X', e', W', k⟩ := stR X k1 k5 e A (j := j) (by rw [r1]; exact q1) hty F (g := mkF _ pc Ls (x :: .int j :: .ref a :: st)) rfl rfl (hb k2 hd)
  obtain ⟨s₂, v', L', h1, h2⟩ := hr h' (Keep.of_wr W') (Arf.set A r1 r2 r3 r4 hf W' q2 hl) k1 k2 k3 k4 k5 k6 k7 k8 T' _ X' e' (Fr.snoc X' N ge)
  exact ⟨s₂, v', L', k _ h1, h2⟩
theorem getD_range {f : Nat → Int32} {m n : Nat} (h : m < n) : ((List.range n).map fun i => Value.int (f i)).getD m (.int 0) = .int (f m) := by
  simp [List.getD_eq_getElem?_getD, h]
theorem Ari.arv {a : Addr} {ty : FieldType} {n : Nat} {g : Nat → Int32} (A : Ari Z h a ty n g) : ∃ (k : ClassId) (z : Int32), z.toNatClampNeg = n ∧ Arv Z h a k ty z ((List.range n).map fun i => Value.int (g i)) (.int 0) := by
  obtain ⟨c, A, r1, r2, r3, r4⟩ := A
  have e1 : n.toInt32.toInt = (n : Int) := len_toInt r2
  have e0 : (0 : Int32).toInt = 0 := rfl
  have e2 : n.toInt32.toNatClampNeg = n := by simp only [Int32.toNatClampNeg, e1]; omega
  refine ⟨c.cls, n.toInt32, e2, c, A, rfl, by rw [e2]; exact r1, by rw [Int32.lt_iff_toInt_lt, e1, e0]; omega, fun i hi => ?_, fun i hi => ?_⟩
  · rw [r1] at hi; rw [getD_range hi]; exact r3 i hi
  · rw [r1] at hi; rw [getD_range hi]; exact r4 i hi
/-- n elements of f from sp on, laid into g from dp on -/
def blit (f g : Nat → Int32) (sp dp n : Nat) : Nat → Int32 := fun k => if dp ≤ k ∧ k < dp + n then f (sp + (k - dp)) else g k
theorem WP.arraycopy {i : Nat} {a b : Addr} {ty : FieldType} {na nb sp dp nn wd : Nat} {zs zd zn : Int32} {f g : Nat → Int32} (hd : decode code pc = .ok (.invokestatic i, 3)) (hp : pc + 3 = pc') (w1 : (Jvm.Cond.methodLink own i Jvm.Stand.acN).before a0 Z = true) (w2 : (Jvm.Cond.native Jvm.Stand.acN).before a0 Z = true) (w3 : (Jvm.Cond.static Jvm.Stand.acN).before a0 Z = true) (w4 : (Jvm.Cond.initialized "java/lang/System").before a0 Z = true) (A : Ari Z h a ty na f) (B : Ari Z h b ty nb g) (hty : refKind ty = false) (hs1 : zs.toInt = (sp : Int)) (hd1 : zd.toInt = (dp : Int)) (hn1 : zn.toInt = (nn : Int)) (h4 : sp + nn ≤ na) (h5 : dp + nn ≤ nb) (ge : n0 ≤ b) (hml : Ls.size = ml) (hf : 1 ≤ R.frames) (hw : (st.map fun v => v.category).sum ≤ wd) (hlo : wd + (nativeFrameWords "java/lang/System" "arraycopy" 5 + 11) ≤ R.locals)
    (hr : ∀ h', Keep h h' [b] → Ari Z h' b ty nb (blit f g sp dp nn) → WP C Z code ml own rt nm R n0 Q cl sl h' pc' Ls st) : WP C Z code ml own rt nm R n0 Q cl sl h pc Ls (.int zn :: .int zd :: .ref b :: .int zs :: .ref a :: st) := by
  subst hp
  obtain ⟨ka, za, ea, A'⟩ := A.arv
  obtain ⟨kb, zb, eb, B'⟩ := B.arv
  have hsm := B.small
  have e0 : (0 : Int32).toInt = 0 := rfl
  have q1 : zs.toNatClampNeg = sp := by simp only [Int32.toNatClampNeg, hs1]; omega
  have q2 : zd.toNatClampNeg = dp := by simp only [Int32.toNatClampNeg, hd1]; omega
  have q3 : zn.toNatClampNeg = nn := by simp only [Int32.toNatClampNeg, hn1]; omega
  intro k1 k2 k3 k4 k5 k6 k7 k8 T locs X e N
  obtain ⟨T', h', L', X', e', N', K', V', k⟩ := cpA X k1 k5 k4 w1 w2 w3 w4 e (sp := zs) (dp := zd) (nn := zn) A' B' (Or.inl ⟨rfl, hty⟩) (by rw [Int32.lt_iff_toInt_lt, hs1, e0]; omega) (by rw [Int32.lt_iff_toInt_lt, hd1, e0]; omega) (by rw [Int32.lt_iff_toInt_lt, hn1, e0]; omega) (by rw [q1, q3, ea]; exact h4) (by rw [q2, q3, eb]; exact h5) rfl (by rw [q2, q3, List.length_map, List.length_range]; exact h5) N ge (g := mkF _ pc Ls (.int zn :: .int zd :: .ref b :: .int zs :: .ref a :: st)) rfl (by rw [k3]; exact hml) rfl (hb k2 hd) hf (W := wd) (by show 2 * 0 + _ ≤ _; omega) hlo
  rw [q1, q2, q3] at V'
  have VV : Ari Z h' b ty nb (blit f g sp dp nn) := by
    obtain ⟨c, A, r1, r2, r3, H, G⟩ := V'
    rw [eb] at r2
    have key : ∀ i, i < nb → (((List.range nb).map fun i => Value.int (g i)).take dp ++ (List.range nn).map (fun i => ((List.range na).map fun i => Value.int (f i)).getD (sp + i) (.int 0)) ++ ((List.range nb).map fun i => Value.int (g i)).drop (dp + nn)).getD i (.int 0) = .int (blit f g sp dp nn i) := by
      intro i hi
      simp only [List.getD_eq_getElem?_getD, blit]
      by_cases c1 : i < dp
      · rw [List.append_assoc, List.getElem?_append_left (by simp; omega), if_neg (by omega)]; simp [List.getElem?_take, c1, hi]
      · by_cases c2 : i < dp + nn
        · rw [List.getElem?_append_left (by simp; omega), List.getElem?_append_right (by simp; omega), if_pos (by omega)]
          have z1 : min dp nb = dp := by omega
          have z2 : i - dp < nn := by omega
          have z3 : sp + (i - dp) < na := by omega
          simp [z1, z2, z3]
        · rw [List.getElem?_append_right (by simp; omega), if_neg (by omega)]
          have z1 : min dp nb = dp := by omega
          have z2 : dp + nn + (i - (dp + nn)) = i := by omega
          simp [z1, z2, hi]
    exact ⟨c, A, r2, hsm, fun i hi => by rw [H i (by rw [r2]; exact hi), key i hi], fun i hi => by have := G i (by rw [r2]; exact hi); rw [key i hi] at this; exact this⟩
  obtain ⟨s₂, v', L2, h1, h2⟩ := hr h' K' VV k1 k2 k3 k4 k5 k6 k7 k8 T' _ X' e' N'
  exact ⟨s₂, v', L2, k _ h1, h2⟩
theorem WP.initO {i : Nat} {a : Addr} {wd : Nat} (hd : decode code pc = .ok (.invokespecial i, 3)) (hp : pc + 3 = pc') (w1 : (Jvm.Cond.methodLink own i Lib.objectInit).before a0 Z = true) (w2 : (Jvm.Cond.instanceMethod Lib.objectInit).before a0 Z = true) (w3 : (Jvm.Cond.code Lib.objectInit ⟨#[0xb1]⟩ 1 none).before a0 Z = true) (hml : Ls.size = ml) (hf : 1 ≤ R.frames) (hw : (st.map fun v => v.category).sum ≤ wd) (hl : wd + 12 ≤ R.locals) (hr : WP C Z code ml own rt nm R n0 Q cl sl h pc' Ls st) : WP C Z code ml own rt nm R n0 Q cl sl h pc Ls (.ref a :: st) := by
  subst hp
  refine hr.step fun X hx hby hml' hown hZ hnm eT N => ?_
  obtain ⟨T', X', e', k⟩ := RoadKit.initO X hx hZ hown w1 w2 w3 eT (g := mkF _ pc Ls (.ref a :: st)) rfl (by rw [hml']; exact hml) rfl (hb hby hd) hf (W := wd) (by show 2 * 0 + _ ≤ _; omega) hl
  exact ⟨T', _, X', e', N, fun t q => k t q⟩
theorem WP.callS {i : Nat} {y : MethodName} {code' : ByteArray} {ml' wd cl' sl' : Nat} {rt' : Option FieldType} {R' : Room} {Q' : Option Value → Heap → Prop} {argsL rest : List Value} {ps : List FieldType} {rr : Option FieldType} (hd : decode code pc = .ok (.invokestatic i, 3)) (hp : pc + 3 = pc') (w1 : (Jvm.Cond.methodLink own i y).before a0 Z = true) (w2 : (Jvm.Cond.static y).before a0 Z = true) (w3 : (Jvm.Cond.initialized y.cls).before a0 Z = true) (w4 : (Jvm.Cond.code y code' ml' rt').before a0 Z = true) (hy : y.cls ≠ "java/lang/invoke/MethodHandle" ∧ y.cls ≠ "java/lang/invoke/VarHandle") (hM : ∀ l, Does l Z y code' ml' rt' R' n0 argsL.toArray h Q') (hpd : parseMethodDescriptor y.desc = some ⟨ps, rr⟩) (hlen : argsL.length = ps.length) (hst : st = argsL.reverse ++ rest) (hml : Ls.size = ml) (hw : (rest.map fun v => v.category).sum ≤ wd) (hrm : R'.frames + 1 ≤ R.frames) (hlo : wd + (ml' + 11) + R'.locals ≤ R.locals) (hc : cl + R'.cells = cl') (hs : sl + R'.slots = sl') (hc' : cl' ≤ R.cells) (hs' : sl' ≤ R.slots)
    (hr : ∀ v h', Q' v h' → WP C Z code ml own rt nm R n0 Q cl' sl' h' pc' Ls (v.toList ++ rest)) : WP C Z code ml own rt nm R n0 Q cl sl h pc Ls st := by
  subst hp hc hs
  intro k1 k2 k3 k4 k5 k6 k7 k8 T locs X e N
  obtain ⟨v, _, ⟨T', L', c', n'⟩, -, X', ⟨Lc, hQ, l1, y1, z1⟩, k⟩ := Jvm.LawKit.callS X k1 (y := y) k4 (mvT k5 w1) (mvT k5 w2) (mvT k5 w3) (mvT k5 w4) hy (backOf (W := wd) (Q := fun v h L => Q' v h ∧ Fr n0 L) (hM _ []) k5 w4 w3 hrm hlo) (g := mkF _ pc Ls st) rfl (by rw [k3]; exact hml) (argsL := argsL) (rest := rest) (lenOf hpd hlen) hst (by show 2 * 0 + _ ≤ _; omega) (hb k2 hd) (fun _ _ => ⟨rfl, e, hc', hs'⟩)
  dsimp only [Pt.U, Pt.locs, Pt.cells, Pt.slots] at X' l1 y1 z1 k hQ
  subst l1 y1 z1
  obtain ⟨s₂, v', L2, h1, h2⟩ := hr v _ hQ.1 k1 k2 k3 k4 k5 k6 k7 k8 T' _ X' rfl (Fr.app N hQ.2)
  exact ⟨s₂, v', L2, k _ h1, h2⟩
theorem WP.callI {a : Addr} {i : Nat} {y : MethodName} {code' : ByteArray} {ml' wd cl' sl' : Nat} {R' : Room} {Q' : Option Value → Heap → Prop} {argsL rest : List Value} {ps : List FieldType} {rr : Option FieldType} (hd : decode code pc = .ok (.invokespecial i, 3)) (hp : pc + 3 = pc') (hy1 : y.name = "<init>") (w1 : (Jvm.Cond.methodLink own i y).before a0 Z = true) (w2 : (Jvm.Cond.instanceMethod y).before a0 Z = true) (w3 : (Jvm.Cond.initialized y.cls).before a0 Z = true) (w4 : (Jvm.Cond.code y code' ml' none).before a0 Z = true) (hy : y.cls ≠ "java/lang/invoke/MethodHandle" ∧ y.cls ≠ "java/lang/invoke/VarHandle") (hM : ∀ l, Does l Z y code' ml' none R' n0 (.ref a :: argsL).toArray h Q') (hpd : parseMethodDescriptor y.desc = some ⟨ps, rr⟩) (hlen : argsL.length = ps.length) (hst : st = argsL.reverse ++ .ref a :: rest) (hml : Ls.size = ml) (hw : (rest.map fun v => v.category).sum ≤ wd) (hrm : R'.frames + 1 ≤ R.frames) (hlo : wd + (ml' + 11) + R'.locals ≤ R.locals) (hc : cl + R'.cells = cl') (hs : sl + R'.slots = sl') (hc' : cl' ≤ R.cells) (hs' : sl' ≤ R.slots)
    (hr : ∀ v h', Q' v h' → WP C Z code ml own rt nm R n0 Q cl' sl' h' pc' Ls (v.toList ++ rest)) : WP C Z code ml own rt nm R n0 Q cl sl h pc Ls st := by
  subst hp hc hs
  intro k1 k2 k3 k4 k5 k6 k7 k8 T locs X e N
  obtain ⟨v, _, ⟨T', L', c', n'⟩, -, X', ⟨Lc, hQ, l1, y1, z1⟩, k⟩ := X.specialBack k1 (y := y) hy1 k4 (mvT k5 w1) (mvT k5 w2) (mvT k5 w4) hy (backOf (W := wd) (Q := fun v h L => Q' v h ∧ Fr n0 L) (hM _ []) k5 w4 w3 hrm hlo) (g := mkF _ pc Ls st) rfl (by rw [k3]; exact hml) (Steps.refl _) (a := a) (argsL := argsL) (rest := rest) (lenOf hpd hlen) hst (by show 2 * 0 + _ ≤ _; omega) (hb k2 hd) (fun _ _ => ⟨rfl, e, hc', hs'⟩)
  dsimp only [Pt.U, Pt.locs, Pt.cells, Pt.slots] at X' l1 y1 z1 k hQ
  subst l1 y1 z1
  obtain ⟨s₂, v', L2, h1, h2⟩ := hr v _ hQ.1 k1 k2 k3 k4 k5 k6 k7 k8 T' _ X' rfl (Fr.app N hQ.2)
  exact ⟨s₂, v', L2, k.trans h1, h2⟩
theorem WP.callV {a : Addr} {z : MethodName} {K : String} {i : Nat} {y : MethodName} {code' : ByteArray} {ml' wd cl' sl' : Nat} {rt' : Option FieldType} {R' : Room} {Q' : Option Value → Heap → Prop} {argsL rest : List Value} {ps : List FieldType} {rr : Option FieldType} (hd : decode code pc = .ok (.invokevirtual i, 3)) (hp : pc + 3 = pc') (w1 : (Jvm.Cond.methodLink own i y).before a0 Z = true) (wd1 : (Jvm.Cond.declares y).before a0 Z = true) (hnf : ∀ s : State, Z.Warmed39 s.vm → NotFace s y) (ws : (Jvm.Cond.selects K y z).before a0 Z = true) (w2 : (Jvm.Cond.instanceMethod z).before a0 Z = true) (w3 : (Jvm.Cond.initialized z.cls).before a0 Z = true) (w4 : (Jvm.Cond.code z code' ml' rt').before a0 Z = true) (hy : y.cls ≠ "java/lang/invoke/MethodHandle" ∧ y.cls ≠ "java/lang/invoke/VarHandle") (E : Exa Z h a K) (hM : ∀ l, Does l Z z code' ml' rt' R' n0 (.ref a :: argsL).toArray h Q') (hpd : parseMethodDescriptor y.desc = some ⟨ps, rr⟩) (hlen : argsL.length = ps.length) (hst : st = argsL.reverse ++ .ref a :: rest) (hml : Ls.size = ml) (hw : (rest.map fun v => v.category).sum ≤ wd) (hrm : R'.frames + 1 ≤ R.frames) (hlo : wd + (ml' + 11) + R'.locals ≤ R.locals) (hc : cl + R'.cells = cl') (hs : sl + R'.slots = sl') (hc' : cl' ≤ R.cells) (hs' : sl' ≤ R.slots)
    (hr : ∀ v h', Q' v h' → WP C Z code ml own rt nm R n0 Q cl' sl' h' pc' Ls (v.toList ++ rest)) : WP C Z code ml own rt nm R n0 Q cl sl h pc Ls st := by
  subst hp hc hs
  intro k1 k2 k3 k4 k5 k6 k7 k8 T locs X e N
  obtain ⟨cq, kq, q1, q2, q3⟩ := isOf k5 e E
  obtain ⟨v, _, ⟨T', L', c', n'⟩, -, X', ⟨Lc, hQ, l1, y1, z1⟩, k⟩ := X.virtualBack k1 (y := y) (z := z) k4 (mvT k5 w1) (mvT k5 wd1) (hnf _ k5) (mvT k5 ws) (mvT k5 w2) hy (backOf (W := wd) (Q := fun v h L => Q' v h ∧ Fr n0 L) (hM _ []) k5 w4 w3 hrm hlo) q1 q3 (g := mkF _ pc Ls st) rfl (by rw [k3]; exact hml) (Steps.refl _) (argsL := argsL) (rest := rest) (lenOf hpd hlen) hst (by show 2 * 0 + _ ≤ _; omega) (hb k2 hd) (fun _ _ => ⟨rfl, e, hc', hs'⟩)
  dsimp only [Pt.U, Pt.locs, Pt.cells, Pt.slots] at X' l1 y1 z1 k hQ
  subst l1 y1 z1
  obtain ⟨s₂, v', L2, h1, h2⟩ := hr v _ hQ.1 k1 k2 k3 k4 k5 k6 k7 k8 T' _ X' rfl (Fr.app N hQ.2)
  exact ⟨s₂, v', L2, k.trans h1, h2⟩
theorem nfS {y z : MethodName} {K : String} (ws : (Jvm.Cond.selects K y z).before a0 Z = true) (e : y = z) : ∀ s : State, Z.Warmed39 s.vm → NotFace s y := by subst e; exact fun s k => notFace_of_selects (args := #[]) (mvT k ws)
theorem WP.callP {a : Addr} {K : String} {i : Nat} {y : MethodName} {code' : ByteArray} {ml' wd cl' sl' : Nat} {rt' : Option FieldType} {R' : Room} {Q' : Option Value → Heap → Prop} {argsL rest : List Value} {ps : List FieldType} {rr : Option FieldType} (hd : decode code pc = .ok (.invokevirtual i, 3)) (hp : pc + 3 = pc') (w1 : (Jvm.Cond.methodLink own i y).before a0 Z = true) (w2 : (Jvm.Cond.instanceMethod y).before a0 Z = true) (ws : (Jvm.Cond.selects y.cls y y).before a0 Z = true) (wp : (Jvm.Cond.privateMethod y).before a0 Z = true) (w3 : (Jvm.Cond.initialized y.cls).before a0 Z = true) (w4 : (Jvm.Cond.code y code' ml' rt').before a0 Z = true) (hy : y.cls ≠ "java/lang/invoke/MethodHandle" ∧ y.cls ≠ "java/lang/invoke/VarHandle") (E : Exa Z h a K) (hM : ∀ l, Does l Z y code' ml' rt' R' n0 (.ref a :: argsL).toArray h Q') (hpd : parseMethodDescriptor y.desc = some ⟨ps, rr⟩) (hlen : argsL.length = ps.length) (hst : st = argsL.reverse ++ .ref a :: rest) (hml : Ls.size = ml) (hw : (rest.map fun v => v.category).sum ≤ wd) (hrm : R'.frames + 1 ≤ R.frames) (hlo : wd + (ml' + 11) + R'.locals ≤ R.locals) (hc : cl + R'.cells = cl') (hs : sl + R'.slots = sl') (hc' : cl' ≤ R.cells) (hs' : sl' ≤ R.slots)
    (hr : ∀ v h', Q' v h' → WP C Z code ml own rt nm R n0 Q cl' sl' h' pc' Ls (v.toList ++ rest)) : WP C Z code ml own rt nm R n0 Q cl sl h pc Ls st := by
  subst hp hc hs
  intro k1 k2 k3 k4 k5 k6 k7 k8 T locs X e N
  obtain ⟨cq, q1, q2⟩ := E.cell
  obtain ⟨v, _, ⟨T', L', c', n'⟩, -, X', ⟨Lc, hQ, l1, y1, z1⟩, k⟩ := X.privateBack k1 (y := y) k4 (mvT k5 w1) (mvT k5 w2) (mvT k5 ws) (Cond.privateMethod_at (mvP k5 wp (args := #[]))) (mvT k5 w4) hy (backOf (W := wd) (Q := fun v h L => Q' v h ∧ Fr n0 L) (hM _ []) k5 w4 w3 hrm hlo) (g := mkF _ pc Ls st) rfl (by rw [k3]; exact hml) (Steps.refl _) (a := a) (by rw [e]; exact q1) q2 (argsL := argsL) (rest := rest) (lenOf hpd hlen) hst (by show 2 * 0 + _ ≤ _; omega) (hb k2 hd) (fun _ _ => ⟨rfl, e, hc', hs'⟩)
  dsimp only [Pt.U, Pt.locs, Pt.cells, Pt.slots] at X' l1 y1 z1 k hQ
  subst l1 y1 z1
  obtain ⟨s₂, v', L2, h1, h2⟩ := hr v _ hQ.1 k1 k2 k3 k4 k5 k6 k7 k8 T' _ X' rfl (Fr.app N hQ.2)
  exact ⟨s₂, v', L2, k.trans h1, h2⟩
theorem WP.iret {z : Int32} (hd : decode code pc = .ok (.ireturn, 1)) (hrt : rt = some .int) (hc : cl ≤ R.cells) (hs : sl ≤ R.slots) (hq : Q (some (.int z)) h) : WP C Z code ml own rt nm R n0 Q cl sl h pc Ls (.int z :: st) := by
  intro k1 k2 k3 k4 k5 k6 k7 k8 T locs X e N
  obtain ⟨fs, hr', hrun, hended, hW, hsame⟩ := X.leave (v := some (.int z)) (fun q => by rw [k6, hrt] at q; cases q) k7
  exact ⟨_, _, _, retOut X k1 (t := .int) (k6.trans hrt) rfl (Or.inl ⟨rfl, Or.inl rfl, _, rfl⟩) (hb k2 hd) hr', hrun, hended, by show Q _ T.heap; rw [e]; exact hq, N, ⟨_, rfl⟩, hW, hsame.mono hc hs⟩
theorem WP.lret {z : Int64} (hd : decode code pc = .ok (.lreturn, 1)) (hrt : rt = some .long) (hc : cl ≤ R.cells) (hs : sl ≤ R.slots) (hq : Q (some (.long z)) h) : WP C Z code ml own rt nm R n0 Q cl sl h pc Ls (.long z :: st) := by
  intro k1 k2 k3 k4 k5 k6 k7 k8 T locs X e N
  obtain ⟨fs, hr', hrun, hended, hW, hsame⟩ := X.leave (v := some (.long z)) (fun q => by rw [k6, hrt] at q; cases q) k7
  exact ⟨_, _, _, retOut X k1 (t := .long) (k6.trans hrt) rfl (Or.inr (Or.inl ⟨rfl, rfl, _, rfl⟩)) (hb k2 hd) hr', hrun, hended, by show Q _ T.heap; rw [e]; exact hq, N, ⟨_, rfl⟩, hW, hsame.mono hc hs⟩
theorem WP.dret {z : UInt64} (hd : decode code pc = .ok (.dreturn, 1)) (hrt : rt = some .double) (hc : cl ≤ R.cells) (hs : sl ≤ R.slots) (hq : Q (some (.double z)) h) : WP C Z code ml own rt nm R n0 Q cl sl h pc Ls (.double z :: st) := by
  intro k1 k2 k3 k4 k5 k6 k7 k8 T locs X e N
  obtain ⟨fs, hr', hrun, hended, hW, hsame⟩ := X.leave (v := some (.double z)) (fun q => by rw [k6, hrt] at q; cases q) k7
  exact ⟨_, _, _, retOut X k1 (t := .double) (k6.trans hrt) rfl (Or.inr (Or.inr (Or.inl ⟨rfl, rfl, _, rfl⟩))) (hb k2 hd) hr', hrun, hended, by show Q _ T.heap; rw [e]; exact hq, N, ⟨_, rfl⟩, hW, hsame.mono hc hs⟩
theorem WP.aret {z : Value} (hd : decode code pc = .ok (.areturn, 1)) {t : FieldType} (hrt : rt = some t) (ht : t.isReference = true) (hv : z.isRef = true) (hc : cl ≤ R.cells) (hs : sl ≤ R.slots) (hq : Q (some z) h) : WP C Z code ml own rt nm R n0 Q cl sl h pc Ls (z :: st) := by
  intro k1 k2 k3 k4 k5 k6 k7 k8 T locs X e N
  obtain ⟨fs, hr', hrun, hended, hW, hsame⟩ := X.leave (v := some z) (fun q => by rw [k6, hrt] at q; cases q) k7
  exact ⟨_, _, _, retOut X k1 (t := t) (k6.trans hrt) (by cases t <;> first | (cases ht; done) | rfl) (Or.inr (Or.inr (Or.inr (Or.inr ⟨rfl, ht, hv⟩)))) (hb k2 hd) hr', hrun, hended, by show Q _ T.heap; rw [e]; exact hq, N, ⟨_, rfl⟩, hW, hsame.mono hc hs⟩
theorem WP.nret {z : Int32} (hd : decode code pc = .ok (.ireturn, 1)) {t : FieldType} {z' : Int32} (hrt : rt = some t) (ht : t = .boolean ∨ t = .byte ∨ t = .char ∨ t = .short) (hz : nar t z = z') (hc : cl ≤ R.cells) (hs : sl ≤ R.slots) (hq : Q (some (.int z')) h) : WP C Z code ml own rt nm R n0 Q cl sl h pc Ls (.int z :: st) := by
  intro k1 k2 k3 k4 k5 k6 k7 k8 T locs X e N
  obtain ⟨fs, hr', hrun, hended, hW, hsame⟩ := X.leave (v := some (.int z')) (fun q => by rw [k6, hrt] at q; cases q) k7
  exact ⟨_, _, _, retN X k1 (t := t) (k6.trans hrt) ht (hb k2 hd) (by rw [hz]; exact hr'), hrun, hended, by show Q _ T.heap; rw [e]; exact hq, N, ⟨_, rfl⟩, hW, hsame.mono hc hs⟩
theorem WP.vret (hd : decode code pc = .ok (.return_, 1)) (hrt : rt = none) (hc : cl ≤ R.cells) (hs : sl ≤ R.slots) (hq : Q none h) : WP C Z code ml own rt nm R n0 Q cl sl h pc Ls [] := by
  intro k1 k2 k3 k4 k5 k6 k7 k8 T locs X e N
  obtain ⟨fs, hr', hrun, hended, hW, hsame⟩ := X.leave (v := none) (fun _ => rfl) k7
  exact ⟨_, _, _, X.returnOut k1 (k6.trans hrt) (hb k2 hd) hr', hrun, hended, by show Q _ T.heap; rw [e]; exact hq, N, ⟨_, rfl⟩, hW, hsame.mono hc hs⟩
end Rules
end Jvm.WK
namespace Jvm.WK
open Jvm Sem ClassFile Op Lib Jvm.Free Jvm.Stand Jvm.LawKit Jvm.RoadKit
def b2i (b : Bool) : Int32 := if b then 1 else 0
theorem b2i_t {P : Prop} [Decidable P] (h : P) : some (Value.int 1) = some (Value.int (b2i (decide P))) := by rw [decide_eq_true h]; rfl
theorem b2i_f {P : Prop} [Decidable P] (h : ¬ P) : some (Value.int 0) = some (Value.int (b2i (decide P))) := by rw [decide_eq_false h]; rfl
theorem b2i_congr {P P' : Prop} [Decidable P] [Decidable P'] (h : P ↔ P') : b2i (decide P) = b2i (decide P') := by rw [decide_eq_decide.mpr h]
theorem b2i_1 {b : Bool} : b2i b = 1 ↔ b = true := by cases b <;> simp [b2i]
theorem b2i_0 {b : Bool} : b2i b = 0 ↔ b = false := by cases b <;> simp [b2i]
theorem b2i_one (b : Bool) : b2i b &&& 1 = b2i b := by cases b <;> rfl
theorem eqInt_v {args : Array Value} {first s : State} {o : Option Outcome} {idx : List Nat} {t : Term} {k : Int32} (h : (Jvm.Cond.eq t (.int k)).value args first o s idx = some true) : t.eval args first o idx s = some (.int k) := by
  obtain ⟨x, y, e1, e2, k1, k2⟩ := cmp_v (Or.inl h)
  have e3 : y = .int k := by simpa [Term.eval] using e2.symm
  subst e3
  obtain ⟨z, rfl⟩ := k2
  simp [Cond.value, e1, Term.eval] at h
  rw [e1, h]
theorem Sta.of_exa {args : Array Value} {s : State} {C n d K : String} (h : (Jvm.Cond.exactly (.static C n d) K).value args s none s [] = some true) (hi : (Jvm.Cond.initializedFor C n d).before args s = true ∨ ((Jvm.Cond.initialized C).before args s = true ∧ (Jvm.Cond.laysStatic C n d).before args s = true)) :
    ∃ a, (Term.static C n d).eval args s none [] s = some (.ref a) ∧ Sta s s.heap C n d (.ref a) ∧ Exa s s.heap a K := by
  obtain ⟨a, e⟩ := exa_v h
  exact ⟨a, e, Sta.start e hi, Exa.start e h⟩
theorem Fld.of_eq {args : Array Value} {s : State} {t : Term} {a : Addr} {C n d : String} {k : Int32} (e : t.eval args s none [] s = some (.ref a)) (h : (Jvm.Cond.eq (.field t C n d) (.int k)).value args s none s [] = some true) : Fld s s.heap a C n d (.int k) := by
  have q := eqInt_v h
  rw [fld_at e] at q
  exact Fld.start q
theorem Ari.of_start {s : State} {a : Addr} {c : Cell} {ty : FieldType} (hf : Fit s) (A : Arr s s.heap a c ty) (ht : ty = .int ∨ ty = .boolean ∨ ty = .byte ∨ ty = .char ∨ ty = .short) (hsz : c.slots.size < 2147483648) :
    ∃ g : Nat → Int32, Ari s s.heap a ty c.slots.size g ∧ ∀ i x, c.slots[i]? = some (.int x) → g i = x := by
  have key : ∀ i, i < c.slots.size → ∃ x, c.slots[i]? = some (.int x) ∧ fits ty (.int x) = true := by
    intro i hi
    have e1 : i.toInt32.toInt = (i : Int) := len_toInt (show i < 2 ^ 31 by omega)
    have e : i.toInt32.toNatClampNeg = i := by simp only [Int32.toNatClampNeg, e1]; omega
    obtain ⟨v, h1, h2⟩ := elem_fit (j := i.toInt32) hf A (idx_in hi (show c.slots.size < 2 ^ 31 by omega))
    obtain ⟨x, rfl⟩ := fit_I h2 ht
    rw [e] at h1
    exact ⟨x, h1, h2⟩
  refine ⟨fun i => match c.slots[i]? with | some (.int x) => x | _ => 0, ⟨c, A, rfl, hsz, fun i hi => ?_, fun i hi => ?_⟩, fun i x h => by simp only [h]⟩
  · obtain ⟨x, h1, -⟩ := key i hi; simp only [h1]
  · obtain ⟨x, h1, h2⟩ := key i hi; simp only [h1]; exact h2
theorem len_small {args : Array Value} {first s : State} {o : Option Outcome} {idx : List Nat} {t : Term} {v : Value} {a : Addr} {c : Cell} (h : (Term.length t).eval args first o idx s = some v) (ht : t.eval args first o idx s = some (.ref a)) (ha : s.arrayAt? a = some c) : c.slots.size < 2 ^ 31 := by
  simp only [Term.eval, ht, ha, Option.bind_eq_bind, Option.bind_some] at h
  split at h
  · assumption
  · cases h
/-- an array that a static holds, pinned by a case's words -/
theorem Ari.of_static {s : State} {args : Array Value} {C n d : String} {ty : FieldType} {N : Int32} {k : Nat} (hf : Fit s) (hA : (Jvm.Cond.arrayOf (.static C n d) ty).value args s none s [] = some true) (hL : (Jvm.Cond.eq (.length (.static C n d)) (.int N)).value args s none s [] = some true)
    (ht : ty = .int ∨ ty = .boolean ∨ ty = .byte ∨ ty = .char ∨ ty = .short) (hi : (Jvm.Cond.initializedFor C n d).before args s = true ∨ ((Jvm.Cond.initialized C).before args s = true ∧ (Jvm.Cond.laysStatic C n d).before args s = true)) (hN : N.toInt = (k : Int)) :
    ∃ (a : Addr) (g : Nat → Int32), Sta s s.heap C n d (.ref a) ∧ Ari s s.heap a ty k g ∧
      (∀ (j x : Int32) (i : Nat), (Jvm.Cond.eq (.elem (.static C n d) (.int j)) (.int x)).value args s none s [] = some true → j.toInt = (i : Int) → g i = x) ∧
      (∀ c : Jvm.Cond, (Jvm.Cond.all (.static C n d) c).value args s none s [] = some true → ∀ i, i < k → c.value args s none s [i] = some true) ∧
      (∀ (i : Nat) (x : Int32), i < k → (Jvm.Cond.eq (.elem (.static C n d) (.index 0)) (.int x)).value args s none s [i] = some true → g i = x) := by
  obtain ⟨a, e⟩ := arr_v hA
  obtain ⟨c, A⟩ := Arr.start e hA
  have eL := eqInt_v hL
  have hat : s.arrayAt? a = some c := A.fin (Vm.Alike.refl _)
  have hsz : c.slots.size < 2 ^ 31 := len_small eL e hat
  obtain ⟨a', c', q1, q2, q3⟩ := Term.length_spec eL
  cases e.symm.trans q1
  cases hat.symm.trans q2
  have hk : c.slots.size = k := by
    have z := congrArg Int32.toInt (Value.int.inj q3)
    rw [len_toInt hsz] at z
    omega
  obtain ⟨g, G, hg⟩ := Ari.of_start hf A ht hsz
  rw [hk] at G
  refine ⟨a, g, Sta.start e hi, G, fun j x i h hj => ?_, fun c0 h i hi => Cond.all_elim e hat h i (by omega), fun i x hi h => ?_⟩
  · obtain ⟨h1, h2⟩ := elem_in (eqInt_v h) e (show (Term.int j).eval args s none [] s = some (.int j) from rfl) A.1
    have ej : j.toNatClampNeg = i := by simp only [Int32.toNatClampNeg, hj]; omega
    rw [ej] at h2
    exact hg i x h2
  · have e2 : (Term.static C n d).eval args s none [i] s = some (.ref a) := e
    obtain ⟨h1, h2⟩ := elem_in (eqInt_v h) e2 (show (Term.index 0).eval args s none [i] s = some (.int i.toInt32) from rfl) A.1
    have e1 : i.toInt32.toInt = (i : Int) := len_toInt (show i < 2 ^ 31 by omega)
    have ej : i.toInt32.toNatClampNeg = i := by simp only [Int32.toNatClampNeg, e1]; omega
    rw [ej] at h2
    exact hg i x h2
theorem idx_lt {args : Array Value} {s : State} {i : Nat} {lo : Int32} (hi : i < 2147483648) : (Jvm.Cond.lt (.index 0) (.int lo)).value args s none s [i] = some (decide ((i : Int) < lo.toInt)) := by
  have e1 : i.toInt32.toInt = (i : Int) := len_toInt (show i < 2 ^ 31 by omega)
  rw [Cond.lt_ints (x := i.toInt32) (y := lo) rfl rfl, Option.some.injEq, decide_eq_decide, Int32.lt_iff_toInt_lt, e1]
theorem idx_le {args : Array Value} {s : State} {i : Nat} {hi : Int32} (h : i < 2147483648) : (Jvm.Cond.le (.int hi) (.index 0)).value args s none s [i] = some (decide (hi.toInt ≤ (i : Int))) := by
  have e1 : i.toInt32.toInt = (i : Int) := len_toInt (show i < 2 ^ 31 by omega)
  rw [Cond.le_ints (x := hi) (y := i.toInt32) rfl rfl, Option.some.injEq, decide_eq_decide, Int32.le_iff_toInt_le, e1]
theorem or_v {args : Array Value} {first s : State} {o : Option Outcome} {idx : List Nat} {G X : Jvm.Cond} {P : Prop} [Decidable P] (h : (Jvm.Cond.or G X).value args first o s idx = some true) (h1 : G.value args first o s idx = some (decide P)) : P ∨ X.value args first o s idx = some true := by
  by_cases p : P
  · exact Or.inl p
  · rw [Cond.or_of_right (nay h1 p)] at h; exact Or.inr h
end Jvm.WK
namespace Jvm.Pilot.@@N@@
open Jvm Jvm.ClassFile Sem Op Lib Jvm.Free Jvm.Stand Jvm.LawKit Jvm.RoadKit Bundle Jvm.WK Jvm.Pilot.@@N@@.Jvm.D
theorem idx24 {s w : Int64} {a : Int32} {i : Nat} (h1 : 0 < w.toInt) (h2 : w.toInt ≤ 288230376151711744) (ha : a.toInt = (i : Int)) (hi : i < 24) : (((s + a.toInt64 * w) - s) / w).toInt32.toInt = (i : Int) := by
  have c1 := c_lmul a.toInt64 w
  rw [c_i2l, ha] at c1
  have m1 : 0 ≤ (i : Int) * w.toInt := Int.mul_nonneg (by omega) (by omega)
  have m2 : (i : Int) * w.toInt ≤ 23 * w.toInt := Int.mul_le_mul_of_nonneg_right (by omega) (by omega)
  have r1 := rng64 (a.toInt64 * w)
  have e1 : (a.toInt64 * w).toInt = (i : Int) * w.toInt := by omega
  have c2 := c_ladd s (a.toInt64 * w)
  have c3 := c_lsub (s + a.toInt64 * w) s
  have r2 := rng64 (s + a.toInt64 * w - s)
  have e2 : (s + a.toInt64 * w - s).toInt = (i : Int) * w.toInt := by omega
  have hw : w ≠ -1 := fun q => by rw [q] at h1; exact absurd h1 (by decide)
  have e3 : ((s + a.toInt64 * w - s) / w).toInt = (i : Int) := by
    rw [(c_ldiv _ w w.toInt rfl hw).1 (by omega), e2, Int.mul_ediv_cancel _ (by omega)]
  have c4 := c_l2i ((s + a.toInt64 * w - s) / w)
  have r3 := rng32 ((s + a.toInt64 * w - s) / w).toInt32
  omega
theorem wpos (x : Int64) : 0 < ((x &&& 288230376151711743) + 1).toInt ∧ ((x &&& 288230376151711743) + 1).toInt ≤ 288230376151711744 := by
  have h1 := c_maskL x 288230376151711743 58 (by decide) (by decide)
  have h2 := c_ladd (x &&& 288230376151711743) 1
  have h3 := rng64 ((x &&& 288230376151711743) + 1)
  have e : (1 : Int64).toInt = 1 := rfl
  omega
theorem rem24 (x : Int32) : 0 ≤ ((x &&& 2147483647) % 24).toInt ∧ ((x &&& 2147483647) % 24).toInt < 24 := by
  have h1 := c_mask x 2147483647 31 (by decide) (by decide)
  have h2 := c_irem (x &&& 2147483647) 24 24 rfl
  omega
theorem and3 (x : Int32) : 0 ≤ (x &&& 3).toInt ∧ (x &&& 3).toInt < 4 := by
  have h1 := c_mask x 3 2 (by decide) (by decide)
  omega
theorem next {i : Int32} {k : Nat} (h : i.toInt = (k : Int)) (hk : k < 100) : (i + 1).toInt = ((k + 1 : Nat) : Int) := by
  have h1 := c_iadd i 1
  have h2 := rng32 (i + 1)
  have e : (1 : Int32).toInt = 1 := rfl
  omega
theorem d_prog_85_method_1_0 : decode prog_85_method_1_code 0 = .ok (.aload_n 0, 1) := by decide +kernel
theorem d_prog_85_method_1_1 : decode prog_85_method_1_code 1 = .ok (.invokespecial 1, 3) := by decide +kernel
theorem wd13 {Z : State} {a0 : Array Value} (hw : ∀ d ∈ tables_1, d.before a0 Z = true) : (Jvm.Cond.methodLink "com/example/takt/takt/store/StoredAggregate" (1 : Nat) ({ cls := "java/lang/Object", name := "<init>", desc := "()V" } : Jvm.MethodName)).before a0 Z = true := hw _ (List.mem_of_getElem? (i := 13) rfl)
theorem wd14 {Z : State} {a0 : Array Value} (hw : ∀ d ∈ tables_1, d.before a0 Z = true) : (Jvm.Cond.instanceMethod ({ cls := "java/lang/Object", name := "<init>", desc := "()V" } : Jvm.MethodName)).before a0 Z = true := hw _ (List.mem_of_getElem? (i := 14) rfl)
theorem wd15 {Z : State} {a0 : Array Value} (hw : ∀ d ∈ tables_1, d.before a0 Z = true) : (Jvm.Cond.code ({ cls := "java/lang/Object", name := "<init>", desc := "()V" } : Jvm.MethodName) object_method_1_code (1 : Nat) (Option.none : Option Jvm.ClassFile.FieldType)).before a0 Z = true := hw _ (List.mem_of_getElem? (i := 15) rfl)
theorem d_prog_85_method_1_4 : decode prog_85_method_1_code 4 = .ok (.aload_n 0, 1) := by decide +kernel
theorem d_prog_85_method_1_5 : decode prog_85_method_1_code 5 = .ok (.lload_n 1, 1) := by decide +kernel
theorem d_prog_85_method_1_6 : decode prog_85_method_1_code 6 = .ok (.putfield 7, 3) := by decide +kernel
theorem wd16 {Z : State} {a0 : Array Value} (hw : ∀ d ∈ tables_1, d.before a0 Z = true) : (Jvm.Cond.fieldLink "com/example/takt/takt/store/StoredAggregate" (7 : Nat) "com/example/takt/takt/store/StoredAggregate" "count" "J").before a0 Z = true := hw _ (List.mem_of_getElem? (i := 16) rfl)
theorem wd17 {Z : State} {a0 : Array Value} (hw : ∀ d ∈ tables_1, d.before a0 Z = true) : (Jvm.Cond.laysFinal "com/example/takt/takt/store/StoredAggregate" "com/example/takt/takt/store/StoredAggregate" "count" "J").before a0 Z = true := hw _ (List.mem_of_getElem? (i := 17) rfl)
theorem wd9 {Z : State} {a0 : Array Value} (hw : ∀ d ∈ tables_1, d.before a0 Z = true) : (Jvm.Cond.instantiable "com/example/takt/takt/store/StoredAggregate" (7 : Nat)).before a0 Z = true := hw _ (List.mem_of_getElem? (i := 9) rfl)
theorem wd19 {Z : State} {a0 : Array Value} (hw : ∀ d ∈ tables_1, d.before a0 Z = true) : (Jvm.Cond.laysFinal "com/example/takt/takt/store/StoredAggregate" "com/example/takt/takt/store/StoredAggregate" "min" "D").before a0 Z = true := hw _ (List.mem_of_getElem? (i := 19) rfl)
theorem wd21 {Z : State} {a0 : Array Value} (hw : ∀ d ∈ tables_1, d.before a0 Z = true) : (Jvm.Cond.laysFinal "com/example/takt/takt/store/StoredAggregate" "com/example/takt/takt/store/StoredAggregate" "max" "D").before a0 Z = true := hw _ (List.mem_of_getElem? (i := 21) rfl)
theorem wd23 {Z : State} {a0 : Array Value} (hw : ∀ d ∈ tables_1, d.before a0 Z = true) : (Jvm.Cond.laysFinal "com/example/takt/takt/store/StoredAggregate" "com/example/takt/takt/store/StoredAggregate" "sum" "D").before a0 Z = true := hw _ (List.mem_of_getElem? (i := 23) rfl)
theorem wd25 {Z : State} {a0 : Array Value} (hw : ∀ d ∈ tables_1, d.before a0 Z = true) : (Jvm.Cond.laysFinal "com/example/takt/takt/store/StoredAggregate" "com/example/takt/takt/store/StoredAggregate" "exact" "Z").before a0 Z = true := hw _ (List.mem_of_getElem? (i := 25) rfl)
theorem wd27 {Z : State} {a0 : Array Value} (hw : ∀ d ∈ tables_1, d.before a0 Z = true) : (Jvm.Cond.laysFinal "com/example/takt/takt/store/StoredAggregate" "com/example/takt/takt/store/StoredAggregate" "unscaled" "Ljava/math/BigInteger;").before a0 Z = true := hw _ (List.mem_of_getElem? (i := 27) rfl)
theorem wd29 {Z : State} {a0 : Array Value} (hw : ∀ d ∈ tables_1, d.before a0 Z = true) : (Jvm.Cond.laysFinal "com/example/takt/takt/store/StoredAggregate" "com/example/takt/takt/store/StoredAggregate" "exponent" "I").before a0 Z = true := hw _ (List.mem_of_getElem? (i := 29) rfl)
theorem d_prog_85_method_1_9 : decode prog_85_method_1_code 9 = .ok (.aload_n 0, 1) := by decide +kernel
theorem d_prog_85_method_1_10 : decode prog_85_method_1_code 10 = .ok (.dload_n 3, 1) := by decide +kernel
theorem d_prog_85_method_1_11 : decode prog_85_method_1_code 11 = .ok (.putfield 13, 3) := by decide +kernel
theorem wd18 {Z : State} {a0 : Array Value} (hw : ∀ d ∈ tables_1, d.before a0 Z = true) : (Jvm.Cond.fieldLink "com/example/takt/takt/store/StoredAggregate" (13 : Nat) "com/example/takt/takt/store/StoredAggregate" "min" "D").before a0 Z = true := hw _ (List.mem_of_getElem? (i := 18) rfl)
theorem d_prog_85_method_1_14 : decode prog_85_method_1_code 14 = .ok (.aload_n 0, 1) := by decide +kernel
theorem d_prog_85_method_1_15 : decode prog_85_method_1_code 15 = .ok (.dload 5, 2) := by decide +kernel
theorem d_prog_85_method_1_17 : decode prog_85_method_1_code 17 = .ok (.putfield 17, 3) := by decide +kernel
theorem wd20 {Z : State} {a0 : Array Value} (hw : ∀ d ∈ tables_1, d.before a0 Z = true) : (Jvm.Cond.fieldLink "com/example/takt/takt/store/StoredAggregate" (17 : Nat) "com/example/takt/takt/store/StoredAggregate" "max" "D").before a0 Z = true := hw _ (List.mem_of_getElem? (i := 20) rfl)
theorem d_prog_85_method_1_20 : decode prog_85_method_1_code 20 = .ok (.aload_n 0, 1) := by decide +kernel
theorem d_prog_85_method_1_21 : decode prog_85_method_1_code 21 = .ok (.dload 7, 2) := by decide +kernel
theorem d_prog_85_method_1_23 : decode prog_85_method_1_code 23 = .ok (.putfield 20, 3) := by decide +kernel
theorem wd22 {Z : State} {a0 : Array Value} (hw : ∀ d ∈ tables_1, d.before a0 Z = true) : (Jvm.Cond.fieldLink "com/example/takt/takt/store/StoredAggregate" (20 : Nat) "com/example/takt/takt/store/StoredAggregate" "sum" "D").before a0 Z = true := hw _ (List.mem_of_getElem? (i := 22) rfl)
theorem d_prog_85_method_1_26 : decode prog_85_method_1_code 26 = .ok (.aload_n 0, 1) := by decide +kernel
theorem d_prog_85_method_1_27 : decode prog_85_method_1_code 27 = .ok (.iload 9, 2) := by decide +kernel
theorem d_prog_85_method_1_29 : decode prog_85_method_1_code 29 = .ok (.putfield 23, 3) := by decide +kernel
theorem wd24 {Z : State} {a0 : Array Value} (hw : ∀ d ∈ tables_1, d.before a0 Z = true) : (Jvm.Cond.fieldLink "com/example/takt/takt/store/StoredAggregate" (23 : Nat) "com/example/takt/takt/store/StoredAggregate" "exact" "Z").before a0 Z = true := hw _ (List.mem_of_getElem? (i := 24) rfl)
theorem d_prog_85_method_1_32 : decode prog_85_method_1_code 32 = .ok (.aload_n 0, 1) := by decide +kernel
theorem d_prog_85_method_1_33 : decode prog_85_method_1_code 33 = .ok (.aload 10, 2) := by decide +kernel
theorem d_prog_85_method_1_35 : decode prog_85_method_1_code 35 = .ok (.putfield 27, 3) := by decide +kernel
theorem wd26 {Z : State} {a0 : Array Value} (hw : ∀ d ∈ tables_1, d.before a0 Z = true) : (Jvm.Cond.fieldLink "com/example/takt/takt/store/StoredAggregate" (27 : Nat) "com/example/takt/takt/store/StoredAggregate" "unscaled" "Ljava/math/BigInteger;").before a0 Z = true := hw _ (List.mem_of_getElem? (i := 26) rfl)
theorem d_prog_85_method_1_38 : decode prog_85_method_1_code 38 = .ok (.aload_n 0, 1) := by decide +kernel
theorem d_prog_85_method_1_39 : decode prog_85_method_1_code 39 = .ok (.iload 11, 2) := by decide +kernel
theorem d_prog_85_method_1_41 : decode prog_85_method_1_code 41 = .ok (.putfield 31, 3) := by decide +kernel
theorem wd28 {Z : State} {a0 : Array Value} (hw : ∀ d ∈ tables_1, d.before a0 Z = true) : (Jvm.Cond.fieldLink "com/example/takt/takt/store/StoredAggregate" (31 : Nat) "com/example/takt/takt/store/StoredAggregate" "exponent" "I").before a0 Z = true := hw _ (List.mem_of_getElem? (i := 28) rfl)
theorem d_prog_85_method_1_44 : decode prog_85_method_1_code 44 = .ok (.return_, 1) := by decide +kernel
theorem pn_0 : plainName "com/example/takt/takt/store/StoredAggregate" = true := by first | (simp [plainName, overriddenIn]; done) | decide +kernel
set_option maxRecDepth 65536 in
set_option maxHeartbeats 40000000 in
theorem m_si {Z : State} {a0 : Array Value} (hw : ∀ d ∈ tables_1, d.before a0 Z = true) (a : Addr) (q : Int64) (x : UInt64) (y : UInt64) (z : UInt64) (p : Int32) (r : Int32) (h0 : Heap) (n0 : Nat) (E0 : Exa Z h0 a "com/example/takt/takt/store/StoredAggregate") (g0 : n0 ≤ a) (u1 : Int64) (u2 u3 u4 : UInt64) (u5 : Int32) (u6 : Value) (u7 : Int32) (F_count : Fld Z h0 a "com/example/takt/takt/store/StoredAggregate" "count" "J" (.long u1)) (F_min : Fld Z h0 a "com/example/takt/takt/store/StoredAggregate" "min" "D" (.double u2)) (F_max : Fld Z h0 a "com/example/takt/takt/store/StoredAggregate" "max" "D" (.double u3)) (F_sum : Fld Z h0 a "com/example/takt/takt/store/StoredAggregate" "sum" "D" (.double u4)) (F_exact : Fld Z h0 a "com/example/takt/takt/store/StoredAggregate" "exact" "Z" (.int u5)) (F_unscaled : Fld Z h0 a "com/example/takt/takt/store/StoredAggregate" "unscaled" "Ljava/math/BigInteger;" u6) (F_exponent : Fld Z h0 a "com/example/takt/takt/store/StoredAggregate" "exponent" "I" (.int u7)) : ∀ l, Does l Z (⟨"com/example/takt/takt/store/StoredAggregate", "<init>", "(JDDDZLjava/math/BigInteger;I)V"⟩ : MethodName) prog_85_method_1_code 12 none ({ frames := 1, cells := 0, slots := 0, locals := 12 } : Room) n0 #[(.ref a), (.long q), (.double x), (.double y), (.double z), (.int p), .null, (.int r)] h0 (fun v h => v = none ∧ Keep h0 h [a] ∧ Exa Z h a "com/example/takt/takt/store/StoredAggregate") := by
  intro l
  refine Does.of_wp (plainFor_of_name pn_0) (Ls := #[.val (.ref a), .val (.long q), .second, .val (.double x), .second, .val (.double y), .second, .val (.double z), .second, .val (.int p), .val .null, .val (.int r)]) (fun m => by first | (simp [entryFrame, mkF, argsToLocals, Value.category]; done) | rfl) ?_
  intro C
  have K0 := Keep.refl h0 [a]
  refine WP.aloadN (pc' := 1) d_prog_85_method_1_0 rfl rfl rfl ?_
  refine WP.initO (wd := 0) (pc' := 4) d_prog_85_method_1_1 rfl (wd13 hw) (wd14 hw) (wd15 hw) rfl (by decide) (Nat.le_of_eq rfl) (by decide) ?_
  refine WP.aloadN (pc' := 5) d_prog_85_method_1_4 rfl rfl rfl ?_
  refine WP.lloadN (pc' := 6) d_prog_85_method_1_5 rfl rfl ?_
  refine WP.putF (pc' := 9) d_prog_85_method_1_6 rfl (host := "") (Or.inl (wd16 hw)) Via.refl F_count E0 (Or.inr ⟨(wd17 hw), rfl, rfl⟩) (wd9 hw) (ty := .long) (by decide) rfl rfl g0 ?_
  intro h1 W2
  have Kw3 := Keep.of_wr W2
  have E4 := E0.keep Kw3
  have K5 := K0.trans Kw3 (allS (Or.inl (by simp)) all0)
  have F7 := F_count.same W2
  have F8 := F_min.other W2 (Or.inr (slot_ne (Or.inr (wd19 hw)) (Or.inr (wd17 hw)) (by decide) (t := .double) (t' := .long) (by decide) (by decide)))
  have F9 := F_max.other W2 (Or.inr (slot_ne (Or.inr (wd21 hw)) (Or.inr (wd17 hw)) (by decide) (t := .double) (t' := .long) (by decide) (by decide)))
  have F10 := F_sum.other W2 (Or.inr (slot_ne (Or.inr (wd23 hw)) (Or.inr (wd17 hw)) (by decide) (t := .double) (t' := .long) (by decide) (by decide)))
  have F11 := F_exact.other W2 (Or.inr (slot_ne (Or.inr (wd25 hw)) (Or.inr (wd17 hw)) (by decide) (t := .boolean) (t' := .long) (by decide) (by decide)))
  have F12 := F_unscaled.other W2 (Or.inr (slot_ne (Or.inr (wd27 hw)) (Or.inr (wd17 hw)) (by decide) (t := (.object "java/math/BigInteger")) (t' := .long) (by decide) (by decide)))
  have F13 := F_exponent.other W2 (Or.inr (slot_ne (Or.inr (wd29 hw)) (Or.inr (wd17 hw)) (by decide) (t := .int) (t' := .long) (by decide) (by decide)))
  refine WP.aloadN (pc' := 10) d_prog_85_method_1_9 rfl rfl rfl ?_
  refine WP.dloadN (pc' := 11) d_prog_85_method_1_10 rfl rfl ?_
  refine WP.putF (pc' := 14) d_prog_85_method_1_11 rfl (host := "") (Or.inl (wd18 hw)) Via.refl F8 E4 (Or.inr ⟨(wd19 hw), rfl, rfl⟩) (wd9 hw) (ty := .double) (by decide) rfl rfl g0 ?_
  intro h14 W15
  have Kw16 := Keep.of_wr W15
  have E17 := E4.keep Kw16
  have K18 := K5.trans Kw16 (allS (Or.inl (by simp)) all0)
  have F20 := F7.other W15 (Or.inr (slot_ne (Or.inr (wd17 hw)) (Or.inr (wd19 hw)) (by decide) (t := .long) (t' := .double) (by decide) (by decide)))
  have F21 := F8.same W15
  have F22 := F9.other W15 (Or.inr (slot_ne (Or.inr (wd21 hw)) (Or.inr (wd19 hw)) (by decide) (t := .double) (t' := .double) (by decide) (by decide)))
  have F23 := F10.other W15 (Or.inr (slot_ne (Or.inr (wd23 hw)) (Or.inr (wd19 hw)) (by decide) (t := .double) (t' := .double) (by decide) (by decide)))
  have F24 := F11.other W15 (Or.inr (slot_ne (Or.inr (wd25 hw)) (Or.inr (wd19 hw)) (by decide) (t := .boolean) (t' := .double) (by decide) (by decide)))
  have F25 := F12.other W15 (Or.inr (slot_ne (Or.inr (wd27 hw)) (Or.inr (wd19 hw)) (by decide) (t := (.object "java/math/BigInteger")) (t' := .double) (by decide) (by decide)))
  have F26 := F13.other W15 (Or.inr (slot_ne (Or.inr (wd29 hw)) (Or.inr (wd19 hw)) (by decide) (t := .int) (t' := .double) (by decide) (by decide)))
  refine WP.aloadN (pc' := 15) d_prog_85_method_1_14 rfl rfl rfl ?_
  refine WP.dload (pc' := 17) d_prog_85_method_1_15 rfl rfl ?_
  refine WP.putF (pc' := 20) d_prog_85_method_1_17 rfl (host := "") (Or.inl (wd20 hw)) Via.refl F22 E17 (Or.inr ⟨(wd21 hw), rfl, rfl⟩) (wd9 hw) (ty := .double) (by decide) rfl rfl g0 ?_
  intro h27 W28
  have Kw29 := Keep.of_wr W28
  have E30 := E17.keep Kw29
  have K31 := K18.trans Kw29 (allS (Or.inl (by simp)) all0)
  have F33 := F20.other W28 (Or.inr (slot_ne (Or.inr (wd17 hw)) (Or.inr (wd21 hw)) (by decide) (t := .long) (t' := .double) (by decide) (by decide)))
  have F34 := F21.other W28 (Or.inr (slot_ne (Or.inr (wd19 hw)) (Or.inr (wd21 hw)) (by decide) (t := .double) (t' := .double) (by decide) (by decide)))
  have F35 := F22.same W28
  have F36 := F23.other W28 (Or.inr (slot_ne (Or.inr (wd23 hw)) (Or.inr (wd21 hw)) (by decide) (t := .double) (t' := .double) (by decide) (by decide)))
  have F37 := F24.other W28 (Or.inr (slot_ne (Or.inr (wd25 hw)) (Or.inr (wd21 hw)) (by decide) (t := .boolean) (t' := .double) (by decide) (by decide)))
  have F38 := F25.other W28 (Or.inr (slot_ne (Or.inr (wd27 hw)) (Or.inr (wd21 hw)) (by decide) (t := (.object "java/math/BigInteger")) (t' := .double) (by decide) (by decide)))
  have F39 := F26.other W28 (Or.inr (slot_ne (Or.inr (wd29 hw)) (Or.inr (wd21 hw)) (by decide) (t := .int) (t' := .double) (by decide) (by decide)))
  refine WP.aloadN (pc' := 21) d_prog_85_method_1_20 rfl rfl rfl ?_
  refine WP.dload (pc' := 23) d_prog_85_method_1_21 rfl rfl ?_
  refine WP.putF (pc' := 26) d_prog_85_method_1_23 rfl (host := "") (Or.inl (wd22 hw)) Via.refl F36 E30 (Or.inr ⟨(wd23 hw), rfl, rfl⟩) (wd9 hw) (ty := .double) (by decide) rfl rfl g0 ?_
  intro h40 W41
  have Kw42 := Keep.of_wr W41
  have E43 := E30.keep Kw42
  have K44 := K31.trans Kw42 (allS (Or.inl (by simp)) all0)
  have F46 := F33.other W41 (Or.inr (slot_ne (Or.inr (wd17 hw)) (Or.inr (wd23 hw)) (by decide) (t := .long) (t' := .double) (by decide) (by decide)))
  have F47 := F34.other W41 (Or.inr (slot_ne (Or.inr (wd19 hw)) (Or.inr (wd23 hw)) (by decide) (t := .double) (t' := .double) (by decide) (by decide)))
  have F48 := F35.other W41 (Or.inr (slot_ne (Or.inr (wd21 hw)) (Or.inr (wd23 hw)) (by decide) (t := .double) (t' := .double) (by decide) (by decide)))
  have F49 := F36.same W41
  have F50 := F37.other W41 (Or.inr (slot_ne (Or.inr (wd25 hw)) (Or.inr (wd23 hw)) (by decide) (t := .boolean) (t' := .double) (by decide) (by decide)))
  have F51 := F38.other W41 (Or.inr (slot_ne (Or.inr (wd27 hw)) (Or.inr (wd23 hw)) (by decide) (t := (.object "java/math/BigInteger")) (t' := .double) (by decide) (by decide)))
  have F52 := F39.other W41 (Or.inr (slot_ne (Or.inr (wd29 hw)) (Or.inr (wd23 hw)) (by decide) (t := .int) (t' := .double) (by decide) (by decide)))
  refine WP.aloadN (pc' := 27) d_prog_85_method_1_26 rfl rfl rfl ?_
  refine WP.iload (pc' := 29) d_prog_85_method_1_27 rfl rfl ?_
  refine WP.putFN (pc' := 32) d_prog_85_method_1_29 rfl (wd24 hw) Via.refl F50 E43 (Or.inr ⟨(wd25 hw), rfl, rfl⟩) (wd9 hw) (ty := .boolean) (v' := (.int (nar .boolean p))) (by decide) rfl (fits_nar_bool _) g0 ?_
  intro h53 W54
  have Kw55 := Keep.of_wr W54
  have E56 := E43.keep Kw55
  have K57 := K44.trans Kw55 (allS (Or.inl (by simp)) all0)
  have F59 := F46.other W54 (Or.inr (slot_ne (Or.inr (wd17 hw)) (Or.inr (wd25 hw)) (by decide) (t := .long) (t' := .boolean) (by decide) (by decide)))
  have F60 := F47.other W54 (Or.inr (slot_ne (Or.inr (wd19 hw)) (Or.inr (wd25 hw)) (by decide) (t := .double) (t' := .boolean) (by decide) (by decide)))
  have F61 := F48.other W54 (Or.inr (slot_ne (Or.inr (wd21 hw)) (Or.inr (wd25 hw)) (by decide) (t := .double) (t' := .boolean) (by decide) (by decide)))
  have F62 := F49.other W54 (Or.inr (slot_ne (Or.inr (wd23 hw)) (Or.inr (wd25 hw)) (by decide) (t := .double) (t' := .boolean) (by decide) (by decide)))
  have F63 := F50.same W54
  have F64 := F51.other W54 (Or.inr (slot_ne (Or.inr (wd27 hw)) (Or.inr (wd25 hw)) (by decide) (t := (.object "java/math/BigInteger")) (t' := .boolean) (by decide) (by decide)))
  have F65 := F52.other W54 (Or.inr (slot_ne (Or.inr (wd29 hw)) (Or.inr (wd25 hw)) (by decide) (t := .int) (t' := .boolean) (by decide) (by decide)))
  refine WP.aloadN (pc' := 33) d_prog_85_method_1_32 rfl rfl rfl ?_
  refine WP.aload (pc' := 35) d_prog_85_method_1_33 rfl rfl rfl ?_
  refine WP.putF (pc' := 38) d_prog_85_method_1_35 rfl (host := "") (Or.inl (wd26 hw)) Via.refl F64 E56 (Or.inr ⟨(wd27 hw), rfl, rfl⟩) (wd9 hw) (ty := (.object "java/math/BigInteger")) (by decide) rfl rfl g0 ?_
  intro h66 W67
  have Kw68 := Keep.of_wr W67
  have E69 := E56.keep Kw68
  have K70 := K57.trans Kw68 (allS (Or.inl (by simp)) all0)
  have F72 := F59.other W67 (Or.inr (slot_ne (Or.inr (wd17 hw)) (Or.inr (wd27 hw)) (by decide) (t := .long) (t' := (.object "java/math/BigInteger")) (by decide) (by decide)))
  have F73 := F60.other W67 (Or.inr (slot_ne (Or.inr (wd19 hw)) (Or.inr (wd27 hw)) (by decide) (t := .double) (t' := (.object "java/math/BigInteger")) (by decide) (by decide)))
  have F74 := F61.other W67 (Or.inr (slot_ne (Or.inr (wd21 hw)) (Or.inr (wd27 hw)) (by decide) (t := .double) (t' := (.object "java/math/BigInteger")) (by decide) (by decide)))
  have F75 := F62.other W67 (Or.inr (slot_ne (Or.inr (wd23 hw)) (Or.inr (wd27 hw)) (by decide) (t := .double) (t' := (.object "java/math/BigInteger")) (by decide) (by decide)))
  have F76 := F63.other W67 (Or.inr (slot_ne (Or.inr (wd25 hw)) (Or.inr (wd27 hw)) (by decide) (t := .boolean) (t' := (.object "java/math/BigInteger")) (by decide) (by decide)))
  have F77 := F64.same W67
  have F78 := F65.other W67 (Or.inr (slot_ne (Or.inr (wd29 hw)) (Or.inr (wd27 hw)) (by decide) (t := .int) (t' := (.object "java/math/BigInteger")) (by decide) (by decide)))
  refine WP.aloadN (pc' := 39) d_prog_85_method_1_38 rfl rfl rfl ?_
  refine WP.iload (pc' := 41) d_prog_85_method_1_39 rfl rfl ?_
  refine WP.putF (pc' := 44) d_prog_85_method_1_41 rfl (host := "") (Or.inl (wd28 hw)) Via.refl F78 E69 (Or.inr ⟨(wd29 hw), rfl, rfl⟩) (wd9 hw) (ty := .int) (by decide) rfl rfl g0 ?_
  intro h79 W80
  have Kw81 := Keep.of_wr W80
  have E82 := E69.keep Kw81
  have K83 := K70.trans Kw81 (allS (Or.inl (by simp)) all0)
  have F85 := F72.other W80 (Or.inr (slot_ne (Or.inr (wd17 hw)) (Or.inr (wd29 hw)) (by decide) (t := .long) (t' := .int) (by decide) (by decide)))
  have F86 := F73.other W80 (Or.inr (slot_ne (Or.inr (wd19 hw)) (Or.inr (wd29 hw)) (by decide) (t := .double) (t' := .int) (by decide) (by decide)))
  have F87 := F74.other W80 (Or.inr (slot_ne (Or.inr (wd21 hw)) (Or.inr (wd29 hw)) (by decide) (t := .double) (t' := .int) (by decide) (by decide)))
  have F88 := F75.other W80 (Or.inr (slot_ne (Or.inr (wd23 hw)) (Or.inr (wd29 hw)) (by decide) (t := .double) (t' := .int) (by decide) (by decide)))
  have F89 := F76.other W80 (Or.inr (slot_ne (Or.inr (wd25 hw)) (Or.inr (wd29 hw)) (by decide) (t := .boolean) (t' := .int) (by decide) (by decide)))
  have F90 := F77.other W80 (Or.inr (slot_ne (Or.inr (wd27 hw)) (Or.inr (wd29 hw)) (by decide) (t := (.object "java/math/BigInteger")) (t' := .int) (by decide) (by decide)))
  have F91 := F78.same W80
  exact WP.vret d_prog_85_method_1_44 rfl (by decide) (by decide) ⟨rfl, K83, E82⟩
theorem d_prog_85_method_4_0 : decode prog_85_method_4_code 0 = .ok (.new 8, 3) := by decide +kernel
theorem wd8 {Z : State} {a0 : Array Value} (hw : ∀ d ∈ tables_1, d.before a0 Z = true) : (Jvm.Cond.classLink "com/example/takt/takt/store/StoredAggregate" (8 : Nat) "com/example/takt/takt/store/StoredAggregate").before a0 Z = true := hw _ (List.mem_of_getElem? (i := 8) rfl)
theorem wd6 {Z : State} {a0 : Array Value} (hw : ∀ d ∈ tables_1, d.before a0 Z = true) : (Jvm.Cond.initialized "com/example/takt/takt/store/StoredAggregate").before a0 Z = true := hw _ (List.mem_of_getElem? (i := 6) rfl)
theorem d_prog_85_method_4_3 : decode prog_85_method_4_code 3 = .ok (.dup, 1) := by decide +kernel
theorem d_prog_85_method_4_4 : decode prog_85_method_4_code 4 = .ok (.lload_n 0, 1) := by decide +kernel
theorem d_prog_85_method_4_5 : decode prog_85_method_4_code 5 = .ok (.dload_n 2, 1) := by decide +kernel
theorem d_prog_85_method_4_6 : decode prog_85_method_4_code 6 = .ok (.dload 4, 2) := by decide +kernel
theorem d_prog_85_method_4_8 : decode prog_85_method_4_code 8 = .ok (.dload 6, 2) := by decide +kernel
theorem d_prog_85_method_4_10 : decode prog_85_method_4_code 10 = .ok (.iconst 0, 1) := by decide +kernel
theorem d_prog_85_method_4_11 : decode prog_85_method_4_code 11 = .ok (.aconst_null, 1) := by decide +kernel
theorem d_prog_85_method_4_12 : decode prog_85_method_4_code 12 = .ok (.iconst 0, 1) := by decide +kernel
theorem d_prog_85_method_4_13 : decode prog_85_method_4_code 13 = .ok (.invokespecial 35, 3) := by decide +kernel
theorem wd10 {Z : State} {a0 : Array Value} (hw : ∀ d ∈ tables_1, d.before a0 Z = true) : (Jvm.Cond.methodLink "com/example/takt/takt/store/StoredAggregate" (35 : Nat) ({ cls := "com/example/takt/takt/store/StoredAggregate", name := "<init>", desc := "(JDDDZLjava/math/BigInteger;I)V" } : Jvm.MethodName)).before a0 Z = true := hw _ (List.mem_of_getElem? (i := 10) rfl)
theorem wd12 {Z : State} {a0 : Array Value} (hw : ∀ d ∈ tables_1, d.before a0 Z = true) : (Jvm.Cond.code ({ cls := "com/example/takt/takt/store/StoredAggregate", name := "<init>", desc := "(JDDDZLjava/math/BigInteger;I)V" } : Jvm.MethodName) prog_85_method_1_code (12 : Nat) (Option.none : Option Jvm.ClassFile.FieldType)).before a0 Z = true := hw _ (List.mem_of_getElem? (i := 12) rfl)
theorem pd_0 : parseMethodDescriptor "(JDDDZLjava/math/BigInteger;I)V" = some ⟨[.long, .double, .double, .double, .boolean, (.object "java/math/BigInteger"), .int], none⟩ := by decide +kernel
theorem wd11 {Z : State} {a0 : Array Value} (hw : ∀ d ∈ tables_1, d.before a0 Z = true) : (Jvm.Cond.instanceMethod ({ cls := "com/example/takt/takt/store/StoredAggregate", name := "<init>", desc := "(JDDDZLjava/math/BigInteger;I)V" } : Jvm.MethodName)).before a0 Z = true := hw _ (List.mem_of_getElem? (i := 11) rfl)
theorem d_prog_85_method_4_16 : decode prog_85_method_4_code 16 = .ok (.areturn, 1) := by decide +kernel
set_option maxRecDepth 65536 in
set_option maxHeartbeats 40000000 in
theorem m_rnd {Z : State} {a0 : Array Value} (hw : ∀ d ∈ tables_1, d.before a0 Z = true) (q : Int64) (x : UInt64) (y : UInt64) (z : UInt64) (h0 : Heap) (n0 : Nat) (Z0 : n0 ≤ h0.size) : ∀ l, Does l Z (⟨"com/example/takt/takt/store/StoredAggregate", "rounded", "(JDDD)Lcom/example/takt/takt/store/StoredAggregate;"⟩ : MethodName) prog_85_method_4_code 8 (some (.object "com/example/takt/takt/store/StoredAggregate")) ({ frames := 2, cells := 1, slots := 7, locals := 36 } : Room) n0 #[(.long q), (.double x), (.double y), (.double z)] h0 (fun v h => ∃ y : Addr, v = some (.ref y) ∧ Keep h0 h [] ∧ n0 ≤ y ∧ h0.size ≤ y ∧ Exa Z h y "com/example/takt/takt/store/StoredAggregate") := by
  intro l
  refine Does.of_wp (plainFor_of_name pn_0) (Ls := #[.val (.long q), .second, .val (.double x), .second, .val (.double y), .second, .val (.double z), .second]) (fun m => by first | (simp [entryFrame, mkF, argsToLocals, Value.category]; done) | rfl) ?_
  intro C
  have K0 := Keep.refl h0 []
  refine WP.newO (cl' := 1) (sl' := 7) (pc' := 3) d_prog_85_method_4_0 rfl (wd8 hw) (wd9 hw) (wd6 hw) rfl rfl (by decide) (by decide) ?_
  intro h1 b1 g1 E1 A1 D1
  have ge2 : n0 ≤ b1 := by rw [g1]; exact Z0
  have sz3 : h0.size ≤ b1 := by rw [g1]; exact K0.1
  have K4 := K0.ext E1
  have Z5 : n0 ≤ h1.size := Nat.le_trans Z0 E1.1
  have F6 : Fld Z h1 b1 "com/example/takt/takt/store/StoredAggregate" "count" "J" (.long (0 : Int64)) := D1 (Or.inr (wd17 hw)) (ty := .long) (by decide)
  have F7 : Fld Z h1 b1 "com/example/takt/takt/store/StoredAggregate" "min" "D" (.double (0 : UInt64)) := D1 (Or.inr (wd19 hw)) (ty := .double) (by decide)
  have F8 : Fld Z h1 b1 "com/example/takt/takt/store/StoredAggregate" "max" "D" (.double (0 : UInt64)) := D1 (Or.inr (wd21 hw)) (ty := .double) (by decide)
  have F9 : Fld Z h1 b1 "com/example/takt/takt/store/StoredAggregate" "sum" "D" (.double (0 : UInt64)) := D1 (Or.inr (wd23 hw)) (ty := .double) (by decide)
  have F10 : Fld Z h1 b1 "com/example/takt/takt/store/StoredAggregate" "exact" "Z" (.int (0 : Int32)) := D1 (Or.inr (wd25 hw)) (ty := .boolean) (by decide)
  have F11 : Fld Z h1 b1 "com/example/takt/takt/store/StoredAggregate" "unscaled" "Ljava/math/BigInteger;" .null := D1 (Or.inr (wd27 hw)) (ty := (.object "java/math/BigInteger")) (by decide)
  have F12 : Fld Z h1 b1 "com/example/takt/takt/store/StoredAggregate" "exponent" "I" (.int (0 : Int32)) := D1 (Or.inr (wd29 hw)) (ty := .int) (by decide)
  refine WP.dup (pc' := 4) d_prog_85_method_4_3 rfl rfl ?_
  refine WP.lloadN (pc' := 5) d_prog_85_method_4_4 rfl rfl ?_
  refine WP.dloadN (pc' := 6) d_prog_85_method_4_5 rfl rfl ?_
  refine WP.dload (pc' := 8) d_prog_85_method_4_6 rfl rfl ?_
  refine WP.dload (pc' := 10) d_prog_85_method_4_8 rfl rfl ?_
  refine WP.iconst (pc' := 11) d_prog_85_method_4_10 rfl (z := 0) rfl ?_
  refine WP.aconstNull (pc' := 12) d_prog_85_method_4_11 rfl ?_
  refine WP.iconst (pc' := 13) d_prog_85_method_4_12 rfl (z := 0) rfl ?_
  refine WP.callI (a := b1) (argsL := [(.long q), (.double x), (.double y), (.double z), (.int (0 : Int32)), .null, (.int (0 : Int32))]) (rest := [(.ref b1)]) (wd := 1) (cl' := 1) (sl' := 7) (pc' := 16) d_prog_85_method_4_13 rfl rfl (wd10 hw) (wd11 hw) (wd6 hw) (wd12 hw) (by decide) (m_si hw b1 q x y z (0 : Int32) (0 : Int32) h1 n0 A1 ge2 0 0 0 0 0 .null 0 F6 F7 F8 F9 F10 F11 F12) pd_0 rfl rfl rfl (Nat.le_of_eq rfl) (by decide) (by decide) rfl rfl (by decide) (by decide) ?_
  rintro v h13 ⟨rfl, K13, E13⟩
  have E14 := A1.keep K13
  have K15 := K4.trans K13 (allS (Or.inr sz3) all0)
  have Z16 : n0 ≤ h13.size := Nat.le_trans Z5 K13.1
  refine WP.castS (st' := [(.ref b1)]) rfl ?_
  refine WP.aret d_prog_85_method_4_16 rfl rfl rfl (by decide) (by decide) ⟨_, rfl, K15, ge2, sz3, E13⟩
theorem d_prog_44_method_2_0 : decode prog_44_method_2_code 0 = .ok (.aload_n 0, 1) := by decide +kernel
theorem d_prog_44_method_2_1 : decode prog_44_method_2_code 1 = .ok (.invokespecial 7, 3) := by decide +kernel
theorem wd39 {Z : State} {a0 : Array Value} (hw : ∀ d ∈ tables_1, d.before a0 Z = true) : (Jvm.Cond.methodLink "com/example/takt/takt/store/AggregateChunk" (7 : Nat) ({ cls := "java/lang/Object", name := "<init>", desc := "()V" } : Jvm.MethodName)).before a0 Z = true := hw _ (List.mem_of_getElem? (i := 39) rfl)
theorem d_prog_44_method_2_4 : decode prog_44_method_2_code 4 = .ok (.aload_n 0, 1) := by decide +kernel
theorem d_prog_44_method_2_5 : decode prog_44_method_2_code 5 = .ok (.bipush 24, 2) := by decide +kernel
theorem d_prog_44_method_2_7 : decode prog_44_method_2_code 7 = .ok (.anewarray 12, 3) := by decide +kernel
theorem wd40 {Z : State} {a0 : Array Value} (hw : ∀ d ∈ tables_1, d.before a0 Z = true) : (Jvm.Cond.classLink "com/example/takt/takt/store/AggregateChunk" (12 : Nat) "com/example/takt/takt/store/StoredAggregate").before a0 Z = true := hw _ (List.mem_of_getElem? (i := 40) rfl)
theorem wd41 {Z : State} {a0 : Array Value} (hw : ∀ d ∈ tables_1, d.before a0 Z = true) : (Jvm.Cond.arrayOver (Jvm.ClassFile.FieldType.object "com/example/takt/takt/store/StoredAggregate")).before a0 Z = true := hw _ (List.mem_of_getElem? (i := 41) rfl)
theorem d_prog_44_method_2_10 : decode prog_44_method_2_code 10 = .ok (.putfield 14, 3) := by decide +kernel
theorem wd42 {Z : State} {a0 : Array Value} (hw : ∀ d ∈ tables_1, d.before a0 Z = true) : (Jvm.Cond.fieldLink "com/example/takt/takt/store/AggregateChunk" (14 : Nat) "com/example/takt/takt/store/AggregateChunk" "slices" "[Lcom/example/takt/takt/store/StoredAggregate;").before a0 Z = true := hw _ (List.mem_of_getElem? (i := 42) rfl)
theorem wd43 {Z : State} {a0 : Array Value} (hw : ∀ d ∈ tables_1, d.before a0 Z = true) : (Jvm.Cond.laysFinal "com/example/takt/takt/store/AggregateChunk" "com/example/takt/takt/store/AggregateChunk" "slices" "[Lcom/example/takt/takt/store/StoredAggregate;").before a0 Z = true := hw _ (List.mem_of_getElem? (i := 43) rfl)
theorem wd31 {Z : State} {a0 : Array Value} (hw : ∀ d ∈ tables_1, d.before a0 Z = true) : (Jvm.Cond.instantiable "com/example/takt/takt/store/AggregateChunk" (5 : Nat)).before a0 Z = true := hw _ (List.mem_of_getElem? (i := 31) rfl)
theorem wd45 {Z : State} {a0 : Array Value} (hw : ∀ d ∈ tables_1, d.before a0 Z = true) : (Jvm.Cond.laysFinal "com/example/takt/takt/store/AggregateChunk" "com/example/takt/takt/store/AggregateChunk" "startMillis" "J").before a0 Z = true := hw _ (List.mem_of_getElem? (i := 45) rfl)
theorem wd47 {Z : State} {a0 : Array Value} (hw : ∀ d ∈ tables_1, d.before a0 Z = true) : (Jvm.Cond.laysFinal "com/example/takt/takt/store/AggregateChunk" "com/example/takt/takt/store/AggregateChunk" "widthMillis" "J").before a0 Z = true := hw _ (List.mem_of_getElem? (i := 47) rfl)
theorem wd49 {Z : State} {a0 : Array Value} (hw : ∀ d ∈ tables_1, d.before a0 Z = true) : (Jvm.Cond.laysFinal "com/example/takt/takt/store/AggregateChunk" "com/example/takt/takt/store/AggregateChunk" "exactSums" "Z").before a0 Z = true := hw _ (List.mem_of_getElem? (i := 49) rfl)
theorem d_prog_44_method_2_13 : decode prog_44_method_2_code 13 = .ok (.aload_n 0, 1) := by decide +kernel
theorem d_prog_44_method_2_14 : decode prog_44_method_2_code 14 = .ok (.lload_n 1, 1) := by decide +kernel
theorem d_prog_44_method_2_15 : decode prog_44_method_2_code 15 = .ok (.putfield 18, 3) := by decide +kernel
theorem wd44 {Z : State} {a0 : Array Value} (hw : ∀ d ∈ tables_1, d.before a0 Z = true) : (Jvm.Cond.fieldLink "com/example/takt/takt/store/AggregateChunk" (18 : Nat) "com/example/takt/takt/store/AggregateChunk" "startMillis" "J").before a0 Z = true := hw _ (List.mem_of_getElem? (i := 44) rfl)
theorem d_prog_44_method_2_18 : decode prog_44_method_2_code 18 = .ok (.aload_n 0, 1) := by decide +kernel
theorem d_prog_44_method_2_19 : decode prog_44_method_2_code 19 = .ok (.lload_n 3, 1) := by decide +kernel
theorem d_prog_44_method_2_20 : decode prog_44_method_2_code 20 = .ok (.putfield 22, 3) := by decide +kernel
theorem wd46 {Z : State} {a0 : Array Value} (hw : ∀ d ∈ tables_1, d.before a0 Z = true) : (Jvm.Cond.fieldLink "com/example/takt/takt/store/AggregateChunk" (22 : Nat) "com/example/takt/takt/store/AggregateChunk" "widthMillis" "J").before a0 Z = true := hw _ (List.mem_of_getElem? (i := 46) rfl)
theorem d_prog_44_method_2_23 : decode prog_44_method_2_code 23 = .ok (.aload_n 0, 1) := by decide +kernel
theorem d_prog_44_method_2_24 : decode prog_44_method_2_code 24 = .ok (.iload 5, 2) := by decide +kernel
theorem d_prog_44_method_2_26 : decode prog_44_method_2_code 26 = .ok (.putfield 25, 3) := by decide +kernel
theorem wd48 {Z : State} {a0 : Array Value} (hw : ∀ d ∈ tables_1, d.before a0 Z = true) : (Jvm.Cond.fieldLink "com/example/takt/takt/store/AggregateChunk" (25 : Nat) "com/example/takt/takt/store/AggregateChunk" "exactSums" "Z").before a0 Z = true := hw _ (List.mem_of_getElem? (i := 48) rfl)
theorem d_prog_44_method_2_29 : decode prog_44_method_2_code 29 = .ok (.return_, 1) := by decide +kernel
theorem pn_1 : plainName "com/example/takt/takt/store/AggregateChunk" = true := by first | (simp [plainName, overriddenIn]; done) | decide +kernel
set_option maxRecDepth 65536 in
set_option maxHeartbeats 40000000 in
theorem m_ci2 {Z : State} {a0 : Array Value} (hw : ∀ d ∈ tables_1, d.before a0 Z = true) (a : Addr) (q : Int64) (r : Int64) (p : Int32) (h0 : Heap) (n0 : Nat) (E0 : Exa Z h0 a "com/example/takt/takt/store/AggregateChunk") (g0 : n0 ≤ a) (F_slices : Fld Z h0 a "com/example/takt/takt/store/AggregateChunk" "slices" "[Lcom/example/takt/takt/store/StoredAggregate;" .null) (F_startMillis : Fld Z h0 a "com/example/takt/takt/store/AggregateChunk" "startMillis" "J" (.long 0)) (F_widthMillis : Fld Z h0 a "com/example/takt/takt/store/AggregateChunk" "widthMillis" "J" (.long 0)) (F_exactSums : Fld Z h0 a "com/example/takt/takt/store/AggregateChunk" "exactSums" "Z" (.int 0)) (Z0 : n0 ≤ h0.size) : ∀ l, Does l Z (⟨"com/example/takt/takt/store/AggregateChunk", "<init>", "(JJZ)V"⟩ : MethodName) prog_44_method_2_code 6 none ({ frames := 1, cells := 1, slots := 24, locals := 12 } : Room) n0 #[(.ref a), (.long q), (.long r), (.int p)] h0 (fun v h => ∃ b : Addr, v = none ∧ Keep h0 h [a] ∧ Exa Z h a "com/example/takt/takt/store/AggregateChunk" ∧ Fld Z h a "com/example/takt/takt/store/AggregateChunk" "slices" "[Lcom/example/takt/takt/store/StoredAggregate;" (.ref b) ∧ Fld Z h a "com/example/takt/takt/store/AggregateChunk" "startMillis" "J" (.long q) ∧ Fld Z h a "com/example/takt/takt/store/AggregateChunk" "widthMillis" "J" (.long r) ∧ n0 ≤ b ∧ h0.size ≤ b ∧ Arf Z h b (.object "com/example/takt/takt/store/StoredAggregate") 24 (fun _ => .null) ∧ Ocl Z h b "com/example/takt/takt/store/StoredAggregate") := by
  intro l
  refine Does.of_wp (plainFor_of_name pn_1) (Ls := #[.val (.ref a), .val (.long q), .second, .val (.long r), .second, .val (.int p)]) (fun m => by first | (simp [entryFrame, mkF, argsToLocals, Value.category]; done) | rfl) ?_
  intro C
  have K0 := Keep.refl h0 [a]
  refine WP.aloadN (pc' := 1) d_prog_44_method_2_0 rfl rfl rfl ?_
  refine WP.initO (wd := 0) (pc' := 4) d_prog_44_method_2_1 rfl (wd39 hw) (wd14 hw) (wd15 hw) rfl (by decide) (Nat.le_of_eq rfl) (by decide) ?_
  refine WP.aloadN (pc' := 5) d_prog_44_method_2_4 rfl rfl rfl ?_
  refine WP.bipush (pc' := 7) d_prog_44_method_2_5 rfl (z := 24) rfl ?_
  refine WP.newR (n := 24) (cap := 24) (cl' := 1) (sl' := 24) (pc' := 10) d_prog_44_method_2_7 rfl (wd40 hw) (wd41 hw) (by decide) (by decide) (by decide) rfl rfl (by decide) (by decide) ?_
  intro h1 b1 g1 E1 A1 O1
  have ge2 : n0 ≤ b1 := by rw [g1]; exact Z0
  have sz3 : h0.size ≤ b1 := by rw [g1]; exact K0.1
  have ne4 : a ≠ b1 := by rw [g1]; exact Nat.ne_of_lt E0.lt
  have E5 := E0.ext E1
  have F6 := F_slices.ext E1
  have F7 := F_startMillis.ext E1
  have F8 := F_widthMillis.ext E1
  have F9 := F_exactSums.ext E1
  have K10 := K0.ext E1
  have Z11 : n0 ≤ h1.size := Nat.le_trans Z0 E1.1
  refine WP.putF (pc' := 13) d_prog_44_method_2_10 rfl (host := "") (Or.inl (wd42 hw)) Via.refl F6 E5 (Or.inr ⟨(wd43 hw), rfl, rfl⟩) (wd31 hw) (ty := (.array (.object "com/example/takt/takt/store/StoredAggregate"))) (by decide) rfl rfl g0 ?_
  intro h12 W13
  have Kw14 := Keep.of_wr W13
  have E15 := E5.keep Kw14
  have V16 := A1.keep Kw14 (ninS (Ne.symm ne4) nin0)
  have O17 := O1.keep Kw14
  have K18 := K10.trans Kw14 (allS (Or.inl (by simp)) all0)
  have Z19 : n0 ≤ h12.size := Nat.le_trans Z11 Kw14.1
  have F20 := F6.same W13
  have F21 := F7.other W13 (Or.inr (slot_ne (Or.inr (wd45 hw)) (Or.inr (wd43 hw)) (by decide) (t := .long) (t' := (.array (.object "com/example/takt/takt/store/StoredAggregate"))) (by decide) (by decide)))
  have F22 := F8.other W13 (Or.inr (slot_ne (Or.inr (wd47 hw)) (Or.inr (wd43 hw)) (by decide) (t := .long) (t' := (.array (.object "com/example/takt/takt/store/StoredAggregate"))) (by decide) (by decide)))
  have F23 := F9.other W13 (Or.inr (slot_ne (Or.inr (wd49 hw)) (Or.inr (wd43 hw)) (by decide) (t := .boolean) (t' := (.array (.object "com/example/takt/takt/store/StoredAggregate"))) (by decide) (by decide)))
  refine WP.aloadN (pc' := 14) d_prog_44_method_2_13 rfl rfl rfl ?_
  refine WP.lloadN (pc' := 15) d_prog_44_method_2_14 rfl rfl ?_
  refine WP.putF (pc' := 18) d_prog_44_method_2_15 rfl (host := "") (Or.inl (wd44 hw)) Via.refl F21 E15 (Or.inr ⟨(wd45 hw), rfl, rfl⟩) (wd31 hw) (ty := .long) (by decide) rfl rfl g0 ?_
  intro h24 W25
  have Kw26 := Keep.of_wr W25
  have E27 := E15.keep Kw26
  have V28 := V16.keep Kw26 (ninS (Ne.symm ne4) nin0)
  have O29 := O17.keep Kw26
  have K30 := K18.trans Kw26 (allS (Or.inl (by simp)) all0)
  have Z31 : n0 ≤ h24.size := Nat.le_trans Z19 Kw26.1
  have F32 := F20.other W25 (Or.inr (slot_ne (Or.inr (wd43 hw)) (Or.inr (wd45 hw)) (by decide) (t := (.array (.object "com/example/takt/takt/store/StoredAggregate"))) (t' := .long) (by decide) (by decide)))
  have F33 := F21.same W25
  have F34 := F22.other W25 (Or.inr (slot_ne (Or.inr (wd47 hw)) (Or.inr (wd45 hw)) (by decide) (t := .long) (t' := .long) (by decide) (by decide)))
  have F35 := F23.other W25 (Or.inr (slot_ne (Or.inr (wd49 hw)) (Or.inr (wd45 hw)) (by decide) (t := .boolean) (t' := .long) (by decide) (by decide)))
  refine WP.aloadN (pc' := 19) d_prog_44_method_2_18 rfl rfl rfl ?_
  refine WP.lloadN (pc' := 20) d_prog_44_method_2_19 rfl rfl ?_
  refine WP.putF (pc' := 23) d_prog_44_method_2_20 rfl (host := "") (Or.inl (wd46 hw)) Via.refl F34 E27 (Or.inr ⟨(wd47 hw), rfl, rfl⟩) (wd31 hw) (ty := .long) (by decide) rfl rfl g0 ?_
  intro h36 W37
  have Kw38 := Keep.of_wr W37
  have E39 := E27.keep Kw38
  have V40 := V28.keep Kw38 (ninS (Ne.symm ne4) nin0)
  have O41 := O29.keep Kw38
  have K42 := K30.trans Kw38 (allS (Or.inl (by simp)) all0)
  have Z43 : n0 ≤ h36.size := Nat.le_trans Z31 Kw38.1
  have F44 := F32.other W37 (Or.inr (slot_ne (Or.inr (wd43 hw)) (Or.inr (wd47 hw)) (by decide) (t := (.array (.object "com/example/takt/takt/store/StoredAggregate"))) (t' := .long) (by decide) (by decide)))
  have F45 := F33.other W37 (Or.inr (slot_ne (Or.inr (wd45 hw)) (Or.inr (wd47 hw)) (by decide) (t := .long) (t' := .long) (by decide) (by decide)))
  have F46 := F34.same W37
  have F47 := F35.other W37 (Or.inr (slot_ne (Or.inr (wd49 hw)) (Or.inr (wd47 hw)) (by decide) (t := .boolean) (t' := .long) (by decide) (by decide)))
  refine WP.aloadN (pc' := 24) d_prog_44_method_2_23 rfl rfl rfl ?_
  refine WP.iload (pc' := 26) d_prog_44_method_2_24 rfl rfl ?_
  refine WP.putFN (pc' := 29) d_prog_44_method_2_26 rfl (wd48 hw) Via.refl F47 E39 (Or.inr ⟨(wd49 hw), rfl, rfl⟩) (wd31 hw) (ty := .boolean) (v' := (.int (nar .boolean p))) (by decide) rfl (fits_nar_bool _) g0 ?_
  intro h48 W49
  have Kw50 := Keep.of_wr W49
  have E51 := E39.keep Kw50
  have V52 := V40.keep Kw50 (ninS (Ne.symm ne4) nin0)
  have O53 := O41.keep Kw50
  have K54 := K42.trans Kw50 (allS (Or.inl (by simp)) all0)
  have Z55 : n0 ≤ h48.size := Nat.le_trans Z43 Kw50.1
  have F56 := F44.other W49 (Or.inr (slot_ne (Or.inr (wd43 hw)) (Or.inr (wd49 hw)) (by decide) (t := (.array (.object "com/example/takt/takt/store/StoredAggregate"))) (t' := .boolean) (by decide) (by decide)))
  have F57 := F45.other W49 (Or.inr (slot_ne (Or.inr (wd45 hw)) (Or.inr (wd49 hw)) (by decide) (t := .long) (t' := .boolean) (by decide) (by decide)))
  have F58 := F46.other W49 (Or.inr (slot_ne (Or.inr (wd47 hw)) (Or.inr (wd49 hw)) (by decide) (t := .long) (t' := .boolean) (by decide) (by decide)))
  have F59 := F47.same W49
  exact WP.vret d_prog_44_method_2_29 rfl (by decide) (by decide) ⟨_, rfl, K54, E51, F56, F57, F58, ge2, sz3, V52, O53⟩
theorem d_prog_44_method_1_0 : decode prog_44_method_1_code 0 = .ok (.aload_n 0, 1) := by decide +kernel
theorem d_prog_44_method_1_1 : decode prog_44_method_1_code 1 = .ok (.lload_n 1, 1) := by decide +kernel
theorem d_prog_44_method_1_2 : decode prog_44_method_1_code 2 = .ok (.lload_n 3, 1) := by decide +kernel
theorem d_prog_44_method_1_3 : decode prog_44_method_1_code 3 = .ok (.iconst 1, 1) := by decide +kernel
theorem d_prog_44_method_1_4 : decode prog_44_method_1_code 4 = .ok (.invokespecial 1, 3) := by decide +kernel
theorem wd36 {Z : State} {a0 : Array Value} (hw : ∀ d ∈ tables_1, d.before a0 Z = true) : (Jvm.Cond.methodLink "com/example/takt/takt/store/AggregateChunk" (1 : Nat) ({ cls := "com/example/takt/takt/store/AggregateChunk", name := "<init>", desc := "(JJZ)V" } : Jvm.MethodName)).before a0 Z = true := hw _ (List.mem_of_getElem? (i := 36) rfl)
theorem wd38 {Z : State} {a0 : Array Value} (hw : ∀ d ∈ tables_1, d.before a0 Z = true) : (Jvm.Cond.code ({ cls := "com/example/takt/takt/store/AggregateChunk", name := "<init>", desc := "(JJZ)V" } : Jvm.MethodName) prog_44_method_2_code (6 : Nat) (Option.none : Option Jvm.ClassFile.FieldType)).before a0 Z = true := hw _ (List.mem_of_getElem? (i := 38) rfl)
theorem wd32 {Z : State} {a0 : Array Value} (hw : ∀ d ∈ tables_1, d.before a0 Z = true) : (Jvm.Cond.initialized "com/example/takt/takt/store/AggregateChunk").before a0 Z = true := hw _ (List.mem_of_getElem? (i := 32) rfl)
theorem pd_1 : parseMethodDescriptor "(JJZ)V" = some ⟨[.long, .long, .boolean], none⟩ := by decide +kernel
theorem wd37 {Z : State} {a0 : Array Value} (hw : ∀ d ∈ tables_1, d.before a0 Z = true) : (Jvm.Cond.instanceMethod ({ cls := "com/example/takt/takt/store/AggregateChunk", name := "<init>", desc := "(JJZ)V" } : Jvm.MethodName)).before a0 Z = true := hw _ (List.mem_of_getElem? (i := 37) rfl)
theorem d_prog_44_method_1_7 : decode prog_44_method_1_code 7 = .ok (.return_, 1) := by decide +kernel
set_option maxRecDepth 65536 in
set_option maxHeartbeats 40000000 in
theorem m_ci {Z : State} {a0 : Array Value} (hw : ∀ d ∈ tables_1, d.before a0 Z = true) (a : Addr) (q : Int64) (r : Int64) (h0 : Heap) (n0 : Nat) (E0 : Exa Z h0 a "com/example/takt/takt/store/AggregateChunk") (g0 : n0 ≤ a) (F_slices : Fld Z h0 a "com/example/takt/takt/store/AggregateChunk" "slices" "[Lcom/example/takt/takt/store/StoredAggregate;" .null) (F_startMillis : Fld Z h0 a "com/example/takt/takt/store/AggregateChunk" "startMillis" "J" (.long 0)) (F_widthMillis : Fld Z h0 a "com/example/takt/takt/store/AggregateChunk" "widthMillis" "J" (.long 0)) (F_exactSums : Fld Z h0 a "com/example/takt/takt/store/AggregateChunk" "exactSums" "Z" (.int 0)) (Z0 : n0 ≤ h0.size) : ∀ l, Does l Z (⟨"com/example/takt/takt/store/AggregateChunk", "<init>", "(JJ)V"⟩ : MethodName) prog_44_method_1_code 5 none ({ frames := 2, cells := 1, slots := 24, locals := 29 } : Room) n0 #[(.ref a), (.long q), (.long r)] h0 (fun v h => ∃ b : Addr, v = none ∧ Keep h0 h [a] ∧ Exa Z h a "com/example/takt/takt/store/AggregateChunk" ∧ Fld Z h a "com/example/takt/takt/store/AggregateChunk" "slices" "[Lcom/example/takt/takt/store/StoredAggregate;" (.ref b) ∧ Fld Z h a "com/example/takt/takt/store/AggregateChunk" "startMillis" "J" (.long q) ∧ Fld Z h a "com/example/takt/takt/store/AggregateChunk" "widthMillis" "J" (.long r) ∧ n0 ≤ b ∧ h0.size ≤ b ∧ Arf Z h b (.object "com/example/takt/takt/store/StoredAggregate") 24 (fun _ => .null) ∧ Ocl Z h b "com/example/takt/takt/store/StoredAggregate") := by
  intro l
  refine Does.of_wp (plainFor_of_name pn_1) (Ls := #[.val (.ref a), .val (.long q), .second, .val (.long r), .second]) (fun m => by first | (simp [entryFrame, mkF, argsToLocals, Value.category]; done) | rfl) ?_
  intro C
  have K0 := Keep.refl h0 [a]
  refine WP.aloadN (pc' := 1) d_prog_44_method_1_0 rfl rfl rfl ?_
  refine WP.lloadN (pc' := 2) d_prog_44_method_1_1 rfl rfl ?_
  refine WP.lloadN (pc' := 3) d_prog_44_method_1_2 rfl rfl ?_
  refine WP.iconst (pc' := 4) d_prog_44_method_1_3 rfl (z := 1) rfl ?_
  refine WP.callI (a := a) (argsL := [(.long q), (.long r), (.int (1 : Int32))]) (rest := []) (wd := 0) (cl' := 1) (sl' := 24) (pc' := 7) d_prog_44_method_1_4 rfl rfl (wd36 hw) (wd37 hw) (wd32 hw) (wd38 hw) (by decide) (m_ci2 hw a q r (1 : Int32) h0 n0 E0 g0 F_slices F_startMillis F_widthMillis F_exactSums Z0) pd_1 rfl rfl rfl (Nat.le_of_eq rfl) (by decide) (by decide) rfl rfl (by decide) (by decide) ?_
  rintro v h1 ⟨b1, rfl, K1, E1, Fs1, Ft1, Fw1, ge1, sz1, A1, O1⟩
  have ne2 : a ≠ b1 := Nat.ne_of_lt (Nat.lt_of_lt_of_le E0.lt sz1)
  have sy1 : h0.size ≤ b1 := Nat.le_trans K0.1 sz1
  have E3 := E0.keep K1
  have K4 := K0.trans K1 (allS (Or.inl (by simp)) all0)
  have Z5 : n0 ≤ h1.size := Nat.le_trans Z0 K1.1
  refine WP.castS (st' := []) rfl ?_
  exact WP.vret d_prog_44_method_1_7 rfl (by decide) (by decide) ⟨_, rfl, K4, E1, Fs1, Ft1, Fw1, ge1, sy1, A1, O1⟩
theorem d_prog_44_method_6_0 : decode prog_44_method_6_code 0 = .ok (.iconst 1, 1) := by decide +kernel
theorem d_prog_44_method_6_1 : decode prog_44_method_6_code 1 = .ok (.istore_n 1, 1) := by decide +kernel
theorem d_prog_44_method_6_2 : decode prog_44_method_6_code 2 = .ok (.aload_n 0, 1) := by decide +kernel
theorem d_prog_44_method_6_3 : decode prog_44_method_6_code 3 = .ok (.getfield 14, 3) := by decide +kernel
theorem d_prog_44_method_6_6 : decode prog_44_method_6_code 6 = .ok (.astore_n 2, 1) := by decide +kernel
theorem d_prog_44_method_6_7 : decode prog_44_method_6_code 7 = .ok (.aload_n 2, 1) := by decide +kernel
theorem d_prog_44_method_6_8 : decode prog_44_method_6_code 8 = .ok (.arraylength, 1) := by decide +kernel
theorem d_prog_44_method_6_9 : decode prog_44_method_6_code 9 = .ok (.istore_n 3, 1) := by decide +kernel
theorem d_prog_44_method_6_10 : decode prog_44_method_6_code 10 = .ok (.iconst 0, 1) := by decide +kernel
theorem d_prog_44_method_6_11 : decode prog_44_method_6_code 11 = .ok (.istore 4, 2) := by decide +kernel
theorem d_prog_44_method_6_13 : decode prog_44_method_6_code 13 = .ok (.iload 4, 2) := by decide +kernel
theorem d_prog_44_method_6_15 : decode prog_44_method_6_code 15 = .ok (.iload_n 3, 1) := by decide +kernel
theorem d_prog_44_method_6_16 : decode prog_44_method_6_code 16 = .ok (.if_icmp .ge 28, 3) := by decide +kernel
theorem d_prog_44_method_6_44 : decode prog_44_method_6_code 44 = .ok (.iload_n 1, 1) := by decide +kernel
theorem d_prog_44_method_6_45 : decode prog_44_method_6_code 45 = .ok (.ireturn, 1) := by decide +kernel
theorem d_prog_44_method_6_19 : decode prog_44_method_6_code 19 = .ok (.aload_n 2, 1) := by decide +kernel
theorem d_prog_44_method_6_20 : decode prog_44_method_6_code 20 = .ok (.iload 4, 2) := by decide +kernel
theorem d_prog_44_method_6_22 : decode prog_44_method_6_code 22 = .ok (.aaload, 1) := by decide +kernel
theorem d_prog_44_method_6_23 : decode prog_44_method_6_code 23 = .ok (.astore 5, 2) := by decide +kernel
theorem d_prog_44_method_6_25 : decode prog_44_method_6_code 25 = .ok (.iload_n 1, 1) := by decide +kernel
theorem d_prog_44_method_6_26 : decode prog_44_method_6_code 26 = .ok (.aload 5, 2) := by decide +kernel
theorem d_prog_44_method_6_28 : decode prog_44_method_6_code 28 = .ok (.ifnonnull 7, 3) := by decide +kernel
theorem d_prog_44_method_6_31 : decode prog_44_method_6_code 31 = .ok (.iconst 1, 1) := by decide +kernel
theorem d_prog_44_method_6_32 : decode prog_44_method_6_code 32 = .ok (.goto 4, 3) := by decide +kernel
theorem d_prog_44_method_6_36 : decode prog_44_method_6_code 36 = .ok (.iand, 1) := by decide +kernel
theorem d_prog_44_method_6_37 : decode prog_44_method_6_code 37 = .ok (.istore_n 1, 1) := by decide +kernel
theorem d_prog_44_method_6_38 : decode prog_44_method_6_code 38 = .ok (.iinc 4 1, 3) := by decide +kernel
theorem d_prog_44_method_6_41 : decode prog_44_method_6_code 41 = .ok (.goto (-28), 3) := by decide +kernel
theorem d_prog_44_method_6_35 : decode prog_44_method_6_code 35 = .ok (.iconst 0, 1) := by decide +kernel
set_option maxRecDepth 65536 in
set_option maxHeartbeats 40000000 in
theorem m_emp {Z : State} {a0 : Array Value} (hw : ∀ d ∈ tables_1, d.before a0 Z = true) (a : Addr) (h0 : Heap) (n0 : Nat) (b : Addr) (f : Nat → Value) (F0 : Fld Z h0 a "com/example/takt/takt/store/AggregateChunk" "slices" "[Lcom/example/takt/takt/store/StoredAggregate;" (.ref b)) (A0 : Arf Z h0 b (.object "com/example/takt/takt/store/StoredAggregate") 24 f) : ∀ l, Does l Z (⟨"com/example/takt/takt/store/AggregateChunk", "isEmpty", "()Z"⟩ : MethodName) prog_44_method_6_code 6 (some .boolean) ({ frames := 0, cells := 0, slots := 0, locals := 0 } : Room) n0 #[(.ref a)] h0 (fun v h => ((v = some (.int 1) ∧ ∀ j, j < 24 → f j = .null) ∨ (v = some (.int 0) ∧ ∃ j, j < 24 ∧ ¬ f j = .null)) ∧ h = h0) := by
  intro l
  refine Does.of_wp (plainFor_of_name pn_1) (Ls := #[.val (.ref a), .unset, .unset, .unset, .unset, .unset]) (fun m => by first | (simp [entryFrame, mkF, argsToLocals, Value.category]; done) | rfl) ?_
  intro C
  refine WP.iconst (pc' := 1) d_prog_44_method_6_0 rfl (z := 1) rfl ?_
  refine WP.istoreN (pc' := 2) d_prog_44_method_6_1 rfl (Ls' := #[.val (.ref a), .val (.int (1 : Int32)), .unset, .unset, .unset, .unset]) rfl ?_
  refine WP.aloadN (pc' := 3) d_prog_44_method_6_2 rfl rfl rfl ?_
  refine WP.getF (pc' := 6) d_prog_44_method_6_3 rfl (host := "") (Or.inl (wd42 hw)) Via.refl F0 ?_
  refine WP.astoreN (pc' := 7) d_prog_44_method_6_6 rfl rfl (Ls' := #[.val (.ref a), .val (.int (1 : Int32)), .val (.ref b), .unset, .unset, .unset]) rfl ?_
  refine WP.aloadN (pc' := 8) d_prog_44_method_6_7 rfl rfl rfl ?_
  refine WP.arraylength (z := 24) (pc' := 9) d_prog_44_method_6_8 rfl A0 rfl ?_
  refine WP.istoreN (pc' := 10) d_prog_44_method_6_9 rfl (Ls' := #[.val (.ref a), .val (.int (1 : Int32)), .val (.ref b), .val (.int (24 : Int32)), .unset, .unset]) rfl ?_
  refine WP.iconst (pc' := 11) d_prog_44_method_6_10 rfl (z := 0) rfl ?_
  refine WP.istore (pc' := 13) d_prog_44_method_6_11 rfl (Ls' := #[.val (.ref a), .val (.int (1 : Int32)), .val (.ref b), .val (.int (24 : Int32)), .val (.int (0 : Int32)), .unset]) rfl ?_
  have loop : ∀ (k i : Nat) (e p : Int32) (s5 : Slot), (s5 = .unset ∨ ∃ u, s5 = .val u ∧ u.category = 1) → p.toInt = (i : Int) → i ≤ 24 → 24 - i < k → ((e = 1 ∧ ∀ j, j < i → f j = .null) ∨ (e = 0 ∧ ∃ j, j < i ∧ ¬ f j = .null)) → WP C Z prog_44_method_6_code 6 "com/example/takt/takt/store/AggregateChunk" (some .boolean) "isEmpty" ({ frames := 0, cells := 0, slots := 0, locals := 0 } : Room) n0 (fun v h => ((v = some (.int 1) ∧ ∀ j, j < 24 → f j = .null) ∨ (v = some (.int 0) ∧ ∃ j, j < 24 ∧ ¬ f j = .null)) ∧ h = h0) 0 0 h0 13 #[.val (.ref a), .val (.int e), .val (.ref b), .val (.int (24 : Int32)), .val (.int p), s5] [] := by
    intro k
    induction k with
    | zero => intro i e p s5 hs5 hp hl hk; omega
    | succ k IH =>
      intro i e p s5 hs5 hp hl hk he
      have e24 : (24 : Int32).toInt = 24 := rfl
      refine WP.iload (pc' := 15) d_prog_44_method_6_13 rfl rfl ?_
      refine WP.iloadN (pc' := 16) d_prog_44_method_6_15 rfl rfl ?_
      refine WP.icmp_ge (pc1 := 44) (pc2 := 19) d_prog_44_method_6_16 (by decide) (by decide) rfl ?_ ?_
      · intro hc16
        have hi24 : i = 24 := by rw [Int32.lt_iff_toInt_lt] at hc16; omega
        subst hi24
        rcases he with ⟨rfl, he⟩ | ⟨rfl, he⟩
        · refine WP.iloadN (pc' := 45) d_prog_44_method_6_44 rfl rfl ?_
          refine WP.nret (t := .boolean) d_prog_44_method_6_45 rfl (by simp) rfl (by decide) (by decide) ⟨Or.inl ⟨rfl, he⟩, rfl⟩
        · refine WP.iloadN (pc' := 45) d_prog_44_method_6_44 rfl rfl ?_
          refine WP.nret (t := .boolean) d_prog_44_method_6_45 rfl (by simp) rfl (by decide) (by decide) ⟨Or.inr ⟨rfl, he⟩, rfl⟩
      · intro hc16
        have lt1 : i < 24 := by rw [Int32.lt_iff_toInt_lt] at hc16; omega
        refine WP.aloadN (pc' := 20) d_prog_44_method_6_19 rfl rfl rfl ?_
        refine WP.iload (pc' := 22) d_prog_44_method_6_20 rfl rfl ?_
        rcases ref_cases (fit_R (A0.fit lt1) rfl) with ef | ⟨y, ef⟩
        · refine WP.aaload i (pc' := 23) d_prog_44_method_6_22 rfl A0 rfl hp lt1 ef ?_
          refine WP.astore (pc' := 25) d_prog_44_method_6_23 rfl rfl (Ls' := #[.val (.ref a), .val (.int e), .val (.ref b), .val (.int (24 : Int32)), .val (.int p), .val .null]) (XS.store1 rfl hs5 rfl) ?_
          refine WP.iloadN (pc' := 26) d_prog_44_method_6_25 rfl rfl ?_
          refine WP.aload (pc' := 28) d_prog_44_method_6_26 rfl rfl rfl ?_
          refine WP.ifnonnullN (b := 0) (pc' := 31) d_prog_44_method_6_28 rfl ?_
          refine WP.iconst (pc' := 32) d_prog_44_method_6_31 rfl (z := 1) rfl ?_
          refine WP.goto (pc' := 36) d_prog_44_method_6_32 (by decide) (by decide) ?_
          refine WP.iand (pc' := 37) d_prog_44_method_6_36 rfl ?_
          refine WP.istoreN (pc' := 38) d_prog_44_method_6_37 rfl (Ls' := #[.val (.ref a), .val (.int (e &&& (1 : Int32))), .val (.ref b), .val (.int (24 : Int32)), .val (.int p), .val .null]) rfl ?_
          refine WP.iinc (pc' := 41) d_prog_44_method_6_38 rfl rfl (z := (p + (1 : Int32))) rfl (Ls' := #[.val (.ref a), .val (.int (e &&& (1 : Int32))), .val (.ref b), .val (.int (24 : Int32)), .val (.int (p + (1 : Int32))), .val .null]) rfl ?_
          refine WP.goto (pc' := 13) d_prog_44_method_6_41 (by decide) (by decide) ?_
          refine IH (i + 1) _ _ _ (Or.inr ⟨_, rfl, rfl⟩) (next hp (by omega)) (by omega) (by omega) ?_
          rcases he with ⟨rfl, he⟩ | ⟨rfl, j, hj, he⟩
          · exact Or.inl ⟨rfl, fun j hj => if q : j = i then q ▸ ef else he j (by omega)⟩
          · exact Or.inr ⟨rfl, j, by omega, he⟩
        · refine WP.aaload i (pc' := 23) d_prog_44_method_6_22 rfl A0 rfl hp lt1 ef ?_
          refine WP.astore (pc' := 25) d_prog_44_method_6_23 rfl rfl (Ls' := #[.val (.ref a), .val (.int e), .val (.ref b), .val (.int (24 : Int32)), .val (.int p), .val (.ref y)]) (XS.store1 rfl hs5 rfl) ?_
          refine WP.iloadN (pc' := 26) d_prog_44_method_6_25 rfl rfl ?_
          refine WP.aload (pc' := 28) d_prog_44_method_6_26 rfl rfl rfl ?_
          refine WP.ifnonnullY (pc' := 35) d_prog_44_method_6_28 (by decide) (by decide) ?_
          refine WP.iconst (pc' := 36) d_prog_44_method_6_35 rfl (z := 0) rfl ?_
          refine WP.iand (pc' := 37) d_prog_44_method_6_36 rfl ?_
          refine WP.istoreN (pc' := 38) d_prog_44_method_6_37 rfl (Ls' := #[.val (.ref a), .val (.int (e &&& (0 : Int32))), .val (.ref b), .val (.int (24 : Int32)), .val (.int p), .val (.ref y)]) rfl ?_
          refine WP.iinc (pc' := 41) d_prog_44_method_6_38 rfl rfl (z := (p + (1 : Int32))) rfl (Ls' := #[.val (.ref a), .val (.int (e &&& (0 : Int32))), .val (.ref b), .val (.int (24 : Int32)), .val (.int (p + (1 : Int32))), .val (.ref y)]) rfl ?_
          refine WP.goto (pc' := 13) d_prog_44_method_6_41 (by decide) (by decide) ?_
          refine IH (i + 1) _ _ _ (Or.inr ⟨_, rfl, rfl⟩) (next hp (by omega)) (by omega) (by omega) ?_
          exact Or.inr ⟨by rcases he with ⟨rfl, -⟩ | ⟨rfl, -⟩ <;> rfl, i, by omega, fun q => by rw [ef] at q; cases q⟩
  exact loop 25 0 1 0 _ (Or.inl rfl) rfl (by omega) (by omega) (Or.inl ⟨rfl, fun j hj => absurd hj (by omega)⟩)
theorem d_prog_44_method_5_0 : decode prog_44_method_5_code 0 = .ok (.aload_n 0, 1) := by decide +kernel
theorem d_prog_44_method_5_1 : decode prog_44_method_5_code 1 = .ok (.getfield 14, 3) := by decide +kernel
theorem d_prog_44_method_5_4 : decode prog_44_method_5_code 4 = .ok (.lload_n 1, 1) := by decide +kernel
theorem d_prog_44_method_5_5 : decode prog_44_method_5_code 5 = .ok (.aload_n 0, 1) := by decide +kernel
theorem d_prog_44_method_5_6 : decode prog_44_method_5_code 6 = .ok (.getfield 18, 3) := by decide +kernel
theorem d_prog_44_method_5_9 : decode prog_44_method_5_code 9 = .ok (.lsub, 1) := by decide +kernel
theorem d_prog_44_method_5_10 : decode prog_44_method_5_code 10 = .ok (.aload_n 0, 1) := by decide +kernel
theorem d_prog_44_method_5_11 : decode prog_44_method_5_code 11 = .ok (.getfield 22, 3) := by decide +kernel
theorem d_prog_44_method_5_14 : decode prog_44_method_5_code 14 = .ok (.ldiv, 1) := by decide +kernel
theorem d_prog_44_method_5_15 : decode prog_44_method_5_code 15 = .ok (.l2i, 1) := by decide +kernel
theorem d_prog_44_method_5_16 : decode prog_44_method_5_code 16 = .ok (.aload_n 3, 1) := by decide +kernel
theorem d_prog_44_method_5_17 : decode prog_44_method_5_code 17 = .ok (.aastore, 1) := by decide +kernel
theorem d_prog_44_method_5_18 : decode prog_44_method_5_code 18 = .ok (.return_, 1) := by decide +kernel
set_option maxRecDepth 65536 in
set_option maxHeartbeats 40000000 in
theorem m_put {Z : State} {a0 : Array Value} (hw : ∀ d ∈ tables_1, d.before a0 Z = true) (a : Addr) (q : Int64) (y : Addr) (h0 : Heap) (n0 : Nat) (b : Addr) (f : Nat → Value) (s r : Int64) (F_slices : Fld Z h0 a "com/example/takt/takt/store/AggregateChunk" "slices" "[Lcom/example/takt/takt/store/StoredAggregate;" (.ref b)) (F_startMillis : Fld Z h0 a "com/example/takt/takt/store/AggregateChunk" "startMillis" "J" (.long s)) (F_widthMillis : Fld Z h0 a "com/example/takt/takt/store/AggregateChunk" "widthMillis" "J" (.long r)) (A0 : Arf Z h0 b (.object "com/example/takt/takt/store/StoredAggregate") 24 f) (O0 : Ocl Z h0 b "com/example/takt/takt/store/StoredAggregate") (I0 : Ins Z h0 y "com/example/takt/takt/store/StoredAggregate" true) (hab : a ≠ b) (gb : n0 ≤ b) (i : Nat) (hi : i < 24) (hw0 : r ≠ 0) (hix : ((q - s) / r).toInt32.toInt = (i : Int)) : ∀ l, Does l Z (⟨"com/example/takt/takt/store/AggregateChunk", "put", "(JLcom/example/takt/takt/store/StoredAggregate;)V"⟩ : MethodName) prog_44_method_5_code 4 none ({ frames := 0, cells := 0, slots := 0, locals := 0 } : Room) n0 #[(.ref a), (.long q), (.ref y)] h0 (fun v h => v = none ∧ Keep h0 h [b] ∧ Arf Z h b (.object "com/example/takt/takt/store/StoredAggregate") 24 (updV f i (.ref y))) := by
  intro l
  refine Does.of_wp (plainFor_of_name pn_1) (Ls := #[.val (.ref a), .val (.long q), .second, .val (.ref y)]) (fun m => by first | (simp [entryFrame, mkF, argsToLocals, Value.category]; done) | rfl) ?_
  intro C
  have K0 := Keep.refl h0 [b]
  refine WP.aloadN (pc' := 1) d_prog_44_method_5_0 rfl rfl rfl ?_
  refine WP.getF (pc' := 4) d_prog_44_method_5_1 rfl (host := "") (Or.inl (wd42 hw)) Via.refl F_slices ?_
  refine WP.lloadN (pc' := 5) d_prog_44_method_5_4 rfl rfl ?_
  refine WP.aloadN (pc' := 6) d_prog_44_method_5_5 rfl rfl rfl ?_
  refine WP.getF (pc' := 9) d_prog_44_method_5_6 rfl (host := "") (Or.inl (wd44 hw)) Via.refl F_startMillis ?_
  refine WP.lsub (pc' := 10) d_prog_44_method_5_9 rfl ?_
  refine WP.aloadN (pc' := 11) d_prog_44_method_5_10 rfl rfl rfl ?_
  refine WP.getF (pc' := 14) d_prog_44_method_5_11 rfl (host := "") (Or.inl (wd46 hw)) Via.refl F_widthMillis ?_
  refine WP.ldiv (pc' := 15) d_prog_44_method_5_14 rfl (hw0) ?_
  refine WP.l2i (pc' := 16) d_prog_44_method_5_15 rfl ?_
  refine WP.aloadN (pc' := 17) d_prog_44_method_5_16 rfl rfl rfl ?_
  refine WP.aastore (i) (pc' := 18) d_prog_44_method_5_17 rfl A0 rfl (O0.sto A0 I0) rfl hix hi gb ?_
  intro h1 K2 A3
  have F4 := F_slices.keep K2 (ninS hab nin0)
  have F5 := F_startMillis.keep K2 (ninS hab nin0)
  have F6 := F_widthMillis.keep K2 (ninS hab nin0)
  have O7 := O0.keep K2
  have K8 := K0.trans K2 (allS (Or.inl (by simp)) all0)
  exact WP.vret d_prog_44_method_5_18 rfl (by decide) (by decide) ⟨rfl, K8, A3⟩
theorem wd0 {Z : State} {a0 : Array Value} (hw : ∀ d ∈ tables_1, d.before a0 Z = true) : (Jvm.Cond.constantLong "com/example/takt/takt/store/AggregateChunkIsEmptyPinLaw" (7 : Nat) (288230376151711743 : Int64)).before a0 Z = true := hw _ (List.mem_of_getElem? (i := 0) rfl)
theorem wd1 {Z : State} {a0 : Array Value} (hw : ∀ d ∈ tables_1, d.before a0 Z = true) : (Jvm.Cond.constant "com/example/takt/takt/store/AggregateChunkIsEmptyPinLaw" (9 : Nat) (2147483647 : Int32)).before a0 Z = true := hw _ (List.mem_of_getElem? (i := 1) rfl)
theorem wd2 {Z : State} {a0 : Array Value} (hw : ∀ d ∈ tables_1, d.before a0 Z = true) : (Jvm.Cond.constantDouble "com/example/takt/takt/store/AggregateChunkIsEmptyPinLaw" (16 : Nat) (4611686018427387904 : UInt64)).before a0 Z = true := hw _ (List.mem_of_getElem? (i := 2) rfl)
theorem wd3 {Z : State} {a0 : Array Value} (hw : ∀ d ∈ tables_1, d.before a0 Z = true) : (Jvm.Cond.constantDouble "com/example/takt/takt/store/AggregateChunkIsEmptyPinLaw" (18 : Nat) (4613937818241073152 : UInt64)).before a0 Z = true := hw _ (List.mem_of_getElem? (i := 3) rfl)
theorem wd4 {Z : State} {a0 : Array Value} (hw : ∀ d ∈ tables_1, d.before a0 Z = true) : (Jvm.Cond.methodLink "com/example/takt/takt/store/AggregateChunkIsEmptyPinLaw" (20 : Nat) ({ cls := "com/example/takt/takt/store/StoredAggregate", name := "rounded", desc := "(JDDD)Lcom/example/takt/takt/store/StoredAggregate;" } : Jvm.MethodName)).before a0 Z = true := hw _ (List.mem_of_getElem? (i := 4) rfl)
theorem wd7 {Z : State} {a0 : Array Value} (hw : ∀ d ∈ tables_1, d.before a0 Z = true) : (Jvm.Cond.code ({ cls := "com/example/takt/takt/store/StoredAggregate", name := "rounded", desc := "(JDDD)Lcom/example/takt/takt/store/StoredAggregate;" } : Jvm.MethodName) prog_85_method_4_code (8 : Nat) (Option.some (Jvm.ClassFile.FieldType.object "com/example/takt/takt/store/StoredAggregate"))).before a0 Z = true := hw _ (List.mem_of_getElem? (i := 7) rfl)
theorem pd_2 : parseMethodDescriptor "(JDDD)Lcom/example/takt/takt/store/StoredAggregate;" = some ⟨[.long, .double, .double, .double], some (.object "com/example/takt/takt/store/StoredAggregate")⟩ := by decide +kernel
theorem wd5 {Z : State} {a0 : Array Value} (hw : ∀ d ∈ tables_1, d.before a0 Z = true) : (Jvm.Cond.static ({ cls := "com/example/takt/takt/store/StoredAggregate", name := "rounded", desc := "(JDDD)Lcom/example/takt/takt/store/StoredAggregate;" } : Jvm.MethodName)).before a0 Z = true := hw _ (List.mem_of_getElem? (i := 5) rfl)
theorem wd30 {Z : State} {a0 : Array Value} (hw : ∀ d ∈ tables_1, d.before a0 Z = true) : (Jvm.Cond.classLink "com/example/takt/takt/store/AggregateChunkIsEmptyPinLaw" (24 : Nat) "com/example/takt/takt/store/AggregateChunk").before a0 Z = true := hw _ (List.mem_of_getElem? (i := 30) rfl)
theorem wd33 {Z : State} {a0 : Array Value} (hw : ∀ d ∈ tables_1, d.before a0 Z = true) : (Jvm.Cond.methodLink "com/example/takt/takt/store/AggregateChunkIsEmptyPinLaw" (26 : Nat) ({ cls := "com/example/takt/takt/store/AggregateChunk", name := "<init>", desc := "(JJ)V" } : Jvm.MethodName)).before a0 Z = true := hw _ (List.mem_of_getElem? (i := 33) rfl)
theorem wd35 {Z : State} {a0 : Array Value} (hw : ∀ d ∈ tables_1, d.before a0 Z = true) : (Jvm.Cond.code ({ cls := "com/example/takt/takt/store/AggregateChunk", name := "<init>", desc := "(JJ)V" } : Jvm.MethodName) prog_44_method_1_code (5 : Nat) (Option.none : Option Jvm.ClassFile.FieldType)).before a0 Z = true := hw _ (List.mem_of_getElem? (i := 35) rfl)
theorem pd_3 : parseMethodDescriptor "(JJ)V" = some ⟨[.long, .long], none⟩ := by decide +kernel
theorem wd34 {Z : State} {a0 : Array Value} (hw : ∀ d ∈ tables_1, d.before a0 Z = true) : (Jvm.Cond.instanceMethod ({ cls := "com/example/takt/takt/store/AggregateChunk", name := "<init>", desc := "(JJ)V" } : Jvm.MethodName)).before a0 Z = true := hw _ (List.mem_of_getElem? (i := 34) rfl)
theorem wd50 {Z : State} {a0 : Array Value} (hw : ∀ d ∈ tables_1, d.before a0 Z = true) : (Jvm.Cond.methodLink "com/example/takt/takt/store/AggregateChunkIsEmptyPinLaw" (29 : Nat) ({ cls := "com/example/takt/takt/store/AggregateChunk", name := "isEmpty", desc := "()Z" } : Jvm.MethodName)).before a0 Z = true := hw _ (List.mem_of_getElem? (i := 50) rfl)
theorem wd54 {Z : State} {a0 : Array Value} (hw : ∀ d ∈ tables_1, d.before a0 Z = true) : (Jvm.Cond.code ({ cls := "com/example/takt/takt/store/AggregateChunk", name := "isEmpty", desc := "()Z" } : Jvm.MethodName) prog_44_method_6_code (6 : Nat) (Option.some Jvm.ClassFile.FieldType.boolean)).before a0 Z = true := hw _ (List.mem_of_getElem? (i := 54) rfl)
theorem pd_4 : parseMethodDescriptor "()Z" = some ⟨[], some .boolean⟩ := by decide +kernel
theorem wd53 {Z : State} {a0 : Array Value} (hw : ∀ d ∈ tables_1, d.before a0 Z = true) : (Jvm.Cond.selects "com/example/takt/takt/store/AggregateChunk" ({ cls := "com/example/takt/takt/store/AggregateChunk", name := "isEmpty", desc := "()Z" } : Jvm.MethodName) ({ cls := "com/example/takt/takt/store/AggregateChunk", name := "isEmpty", desc := "()Z" } : Jvm.MethodName)).before a0 Z = true := hw _ (List.mem_of_getElem? (i := 53) rfl)
theorem wd51 {Z : State} {a0 : Array Value} (hw : ∀ d ∈ tables_1, d.before a0 Z = true) : (Jvm.Cond.declares ({ cls := "com/example/takt/takt/store/AggregateChunk", name := "isEmpty", desc := "()Z" } : Jvm.MethodName)).before a0 Z = true := hw _ (List.mem_of_getElem? (i := 51) rfl)
theorem wd52 {Z : State} {a0 : Array Value} (hw : ∀ d ∈ tables_1, d.before a0 Z = true) : (Jvm.Cond.instanceMethod ({ cls := "com/example/takt/takt/store/AggregateChunk", name := "isEmpty", desc := "()Z" } : Jvm.MethodName)).before a0 Z = true := hw _ (List.mem_of_getElem? (i := 52) rfl)
theorem wd55 {Z : State} {a0 : Array Value} (hw : ∀ d ∈ tables_1, d.before a0 Z = true) : (Jvm.Cond.methodLink "com/example/takt/takt/store/AggregateChunkIsEmptyPinLaw" (33 : Nat) ({ cls := "com/example/takt/takt/store/AggregateChunk", name := "put", desc := "(JLcom/example/takt/takt/store/StoredAggregate;)V" } : Jvm.MethodName)).before a0 Z = true := hw _ (List.mem_of_getElem? (i := 55) rfl)
theorem wd59 {Z : State} {a0 : Array Value} (hw : ∀ d ∈ tables_1, d.before a0 Z = true) : (Jvm.Cond.code ({ cls := "com/example/takt/takt/store/AggregateChunk", name := "put", desc := "(JLcom/example/takt/takt/store/StoredAggregate;)V" } : Jvm.MethodName) prog_44_method_5_code (4 : Nat) (Option.none : Option Jvm.ClassFile.FieldType)).before a0 Z = true := hw _ (List.mem_of_getElem? (i := 59) rfl)
theorem pd_5 : parseMethodDescriptor "(JLcom/example/takt/takt/store/StoredAggregate;)V" = some ⟨[.long, (.object "com/example/takt/takt/store/StoredAggregate")], none⟩ := by decide +kernel
theorem wd58 {Z : State} {a0 : Array Value} (hw : ∀ d ∈ tables_1, d.before a0 Z = true) : (Jvm.Cond.selects "com/example/takt/takt/store/AggregateChunk" ({ cls := "com/example/takt/takt/store/AggregateChunk", name := "put", desc := "(JLcom/example/takt/takt/store/StoredAggregate;)V" } : Jvm.MethodName) ({ cls := "com/example/takt/takt/store/AggregateChunk", name := "put", desc := "(JLcom/example/takt/takt/store/StoredAggregate;)V" } : Jvm.MethodName)).before a0 Z = true := hw _ (List.mem_of_getElem? (i := 58) rfl)
theorem wd56 {Z : State} {a0 : Array Value} (hw : ∀ d ∈ tables_1, d.before a0 Z = true) : (Jvm.Cond.declares ({ cls := "com/example/takt/takt/store/AggregateChunk", name := "put", desc := "(JLcom/example/takt/takt/store/StoredAggregate;)V" } : Jvm.MethodName)).before a0 Z = true := hw _ (List.mem_of_getElem? (i := 56) rfl)
theorem wd57 {Z : State} {a0 : Array Value} (hw : ∀ d ∈ tables_1, d.before a0 Z = true) : (Jvm.Cond.instanceMethod ({ cls := "com/example/takt/takt/store/AggregateChunk", name := "put", desc := "(JLcom/example/takt/takt/store/StoredAggregate;)V" } : Jvm.MethodName)).before a0 Z = true := hw _ (List.mem_of_getElem? (i := 57) rfl)
theorem wd61 {Z : State} {a0 : Array Value} (hw : ∀ d ∈ tables_1, d.before a0 Z = true) : (Jvm.Cond.fieldLink "com/example/takt/takt/store/AggregateChunkIsEmptyPinLaw" (10 : Nat) "com/example/takt/takt/store/StoredAggregate" "NONE" "Lcom/example/takt/takt/store/StoredAggregate;").before a0 Z = true := hw _ (List.mem_of_getElem? (i := 61) rfl)
theorem pn_2 : plainName "com/example/takt/takt/store/AggregateChunkIsEmptyPinLaw" = true := by first | (simp [plainName, overriddenIn]; done) | decide +kernel
set_option maxRecDepth 65536 in
set_option maxHeartbeats 40000000 in
theorem rm0 {Z : State} {a0 : Array Value} (hw : ∀ d ∈ tables_1, d.before a0 Z = true) (x0 : Int64) (x1 : Int64) (x2 : Int32) (x3 : Int32) (x4 : Int32) (x5 : Int32) (h0 : Heap) (n0 : Nat) (Z0 : n0 ≤ h0.size) (O0 : Old Z n0 h0) (a_NONE : Addr) (S_NONE : Sta Z Z.heap "com/example/takt/takt/store/StoredAggregate" "NONE" "Lcom/example/takt/takt/store/StoredAggregate;" (.ref a_NONE)) (E_NONE : Exa Z h0 a_NONE "com/example/takt/takt/store/StoredAggregate") : ∀ l, Does l Z x code maxLocals ret room_1 n0 #[(.long x0), (.long x1), (.int x2), (.int x3), (.int x4), (.int x5)] h0 (fun v _ => v = some (.int 1)) := by
  intro l
  refine Does.of_wp (plainFor_of_name pn_2) (Ls := #[.val (.long x0), .second, .val (.long x1), .second, .val (.int x2), .val (.int x3), .val (.int x4), .val (.int x5), .unset, .unset, .unset, .unset, .unset, .unset, .unset, .unset, .unset, .unset]) (fun m => by first | (simp [entryFrame, mkF, argsToLocals, Value.category, maxLocals]; done) | rfl) ?_
  intro C
  refine WP.lloadN (pc' := 1) at_0 rfl rfl ?_
  refine WP.ldc2J (pc' := 4) at_1 rfl (wd0 hw) ?_
  refine WP.land (pc' := 5) at_4 rfl ?_
  refine WP.lconst (pc' := 6) at_5 rfl (z := 1) rfl ?_
  refine WP.ladd (pc' := 7) at_6 rfl ?_
  generalize ht1 : ((x1 &&& (288230376151711743 : Int64)) + (1 : Int64)) = t1
  refine WP.lstore (pc' := 9) at_7 rfl (Ls' := #[.val (.long x0), .second, .val (.long x1), .second, .val (.int x2), .val (.int x3), .val (.int x4), .val (.int x5), .val (.long t1), .second, .unset, .unset, .unset, .unset, .unset, .unset, .unset, .unset]) rfl ?_
  refine WP.iload (pc' := 11) at_9 rfl rfl ?_
  refine WP.iconst (pc' := 12) at_11 rfl (z := 3) rfl ?_
  refine WP.iand (pc' := 13) at_12 rfl ?_
  generalize ht2 : (x5 &&& (3 : Int32)) = t2
  refine WP.istore (pc' := 15) at_13 rfl (Ls' := #[.val (.long x0), .second, .val (.long x1), .second, .val (.int x2), .val (.int x3), .val (.int x4), .val (.int x5), .val (.long t1), .second, .val (.int t2), .unset, .unset, .unset, .unset, .unset, .unset, .unset]) rfl ?_
  refine WP.iload (pc' := 17) at_15 rfl rfl ?_
  refine WP.ldcI (pc' := 19) at_17 rfl (wd1 hw) ?_
  refine WP.iand (pc' := 20) at_19 rfl ?_
  refine WP.bipush (pc' := 22) at_20 rfl (z := 24) rfl ?_
  refine WP.irem (pc' := 23) at_22 rfl (by decide) ?_
  generalize ht3 : ((x2 &&& (2147483647 : Int32)) % (24 : Int32)) = t3
  refine WP.istore (pc' := 25) at_23 rfl (Ls' := #[.val (.long x0), .second, .val (.long x1), .second, .val (.int x2), .val (.int x3), .val (.int x4), .val (.int x5), .val (.long t1), .second, .val (.int t2), .val (.int t3), .unset, .unset, .unset, .unset, .unset, .unset]) rfl ?_
  refine WP.iload (pc' := 27) at_25 rfl rfl ?_
  refine WP.ldcI (pc' := 29) at_27 rfl (wd1 hw) ?_
  refine WP.iand (pc' := 30) at_29 rfl ?_
  refine WP.bipush (pc' := 32) at_30 rfl (z := 24) rfl ?_
  refine WP.irem (pc' := 33) at_32 rfl (by decide) ?_
  generalize ht4 : ((x3 &&& (2147483647 : Int32)) % (24 : Int32)) = t4
  refine WP.istore (pc' := 35) at_33 rfl (Ls' := #[.val (.long x0), .second, .val (.long x1), .second, .val (.int x2), .val (.int x3), .val (.int x4), .val (.int x5), .val (.long t1), .second, .val (.int t2), .val (.int t3), .val (.int t4), .unset, .unset, .unset, .unset, .unset]) rfl ?_
  refine WP.iload (pc' := 37) at_35 rfl rfl ?_
  refine WP.ldcI (pc' := 39) at_37 rfl (wd1 hw) ?_
  refine WP.iand (pc' := 40) at_39 rfl ?_
  refine WP.bipush (pc' := 42) at_40 rfl (z := 24) rfl ?_
  refine WP.irem (pc' := 43) at_42 rfl (by decide) ?_
  generalize ht5 : ((x4 &&& (2147483647 : Int32)) % (24 : Int32)) = t5
  refine WP.istore (pc' := 45) at_43 rfl (Ls' := #[.val (.long x0), .second, .val (.long x1), .second, .val (.int x2), .val (.int x3), .val (.int x4), .val (.int x5), .val (.long t1), .second, .val (.int t2), .val (.int t3), .val (.int t4), .val (.int t5), .unset, .unset, .unset, .unset]) rfl ?_
  have bt3 : 0 ≤ t3.toInt ∧ t3.toInt < 24 := by rw [← ht3]; exact rem24 _
  have bt4 : 0 ≤ t4.toInt ∧ t4.toInt < 24 := by rw [← ht4]; exact rem24 _
  have bt5 : 0 ≤ t5.toInt ∧ t5.toInt < 24 := by rw [← ht5]; exact rem24 _
  have bw : 0 < t1.toInt ∧ t1.toInt ≤ 288230376151711744 := by rw [← ht1]; exact wpos _
  have bn : 0 ≤ t2.toInt ∧ t2.toInt < 4 := by rw [← ht2]; exact and3 _
  refine WP.iload (pc' := 47) at_45 rfl rfl ?_
  refine WP.iconst (pc' := 48) at_47 rfl (z := 4) rfl ?_
  refine WP.iand (pc' := 49) at_48 rfl ?_
  refine WP.ifc_eq (pc1 := 60) (pc2 := 52) at_49 (by decide) (by decide) rfl ?_ ?_
  · intro hc49
    refine WP.lconst (pc' := 61) at_60 rfl (z := 1) rfl ?_
    refine WP.iload (pc' := 63) at_61 rfl rfl ?_
    refine WP.iconst (pc' := 64) at_63 rfl (z := 3) rfl ?_
    refine WP.iushr (pc' := 65) at_64 rfl ?_
    refine WP.bipush (pc' := 67) at_65 rfl (z := 7) rfl ?_
    refine WP.iand (pc' := 68) at_67 rfl ?_
    refine WP.i2l (pc' := 69) at_68 rfl ?_
    refine WP.ladd (pc' := 70) at_69 rfl ?_
    refine WP.dconst1 (pc' := 71) at_70 rfl (v := FP.dconst1) rfl ?_
    refine WP.ldc2D (pc' := 74) at_71 rfl (wd2 hw) ?_
    refine WP.ldc2D (pc' := 77) at_74 rfl (wd3 hw) ?_
    refine WP.callS (argsL := [(.long ((1 : Int64) + ((((x5.toUInt32 >>> ((3 : Int32) &&& 31).toUInt32).toInt32) &&& (7 : Int32)).toInt64))), (.double FP.dconst1), (.double (4611686018427387904 : UInt64)), (.double (4613937818241073152 : UInt64))]) (rest := []) (wd := 0) (cl' := 1) (sl' := 7) (pc' := 80) at_77 rfl (wd4 hw) (wd5 hw) (wd6 hw) (wd7 hw) (by decide) (m_rnd hw ((1 : Int64) + ((((x5.toUInt32 >>> ((3 : Int32) &&& 31).toUInt32).toInt32) &&& (7 : Int32)).toInt64)) FP.dconst1 (4611686018427387904 : UInt64) (4613937818241073152 : UInt64) h0 n0 Z0) pd_2 rfl rfl rfl (Nat.le_of_eq rfl) (by decide) (by decide) rfl rfl (by decide) (by decide) ?_
    rintro v h6 ⟨y6, rfl, K6, ge6, sz6, E6⟩
    have ne7 : a_NONE ≠ y6 := Nat.ne_of_lt (Nat.lt_of_lt_of_le E_NONE.lt sz6)
    have E8 := E_NONE.keep K6
    have O9 := O0.keep K6 all0
    have Z10 : n0 ≤ h6.size := Nat.le_trans Z0 K6.1
    refine WP.castS (st' := [(.ref y6)]) rfl ?_
    refine WP.astore (pc' := 82) at_80 rfl rfl (Ls' := #[.val (.long x0), .second, .val (.long x1), .second, .val (.int x2), .val (.int x3), .val (.int x4), .val (.int x5), .val (.long t1), .second, .val (.int t2), .val (.int t3), .val (.int t4), .val (.int t5), .val (.ref y6), .unset, .unset, .unset]) rfl ?_
    refine WP.newO (cl' := 2) (sl' := 12) (pc' := 85) at_82 rfl (wd30 hw) (wd31 hw) (wd32 hw) rfl rfl (by decide) (by decide) ?_
    intro h11 b11 g11 E11 A11 D11
    have ge12 : n0 ≤ b11 := by rw [g11]; exact Z10
    have ne13 : a_NONE ≠ b11 := by rw [g11]; exact Nat.ne_of_lt E8.lt
    have ne14 : y6 ≠ b11 := by rw [g11]; exact Nat.ne_of_lt E6.lt
    have E15 := E8.ext E11
    have E16 := E6.ext E11
    have O17 := O9.ext E11
    have Z18 : n0 ≤ h11.size := Nat.le_trans Z10 E11.1
    have F19 : Fld Z h11 b11 "com/example/takt/takt/store/AggregateChunk" "slices" "[Lcom/example/takt/takt/store/StoredAggregate;" .null := D11 (Or.inr (wd43 hw)) (ty := (.array (.object "com/example/takt/takt/store/StoredAggregate"))) (by decide)
    have F20 : Fld Z h11 b11 "com/example/takt/takt/store/AggregateChunk" "startMillis" "J" (.long (0 : Int64)) := D11 (Or.inr (wd45 hw)) (ty := .long) (by decide)
    have F21 : Fld Z h11 b11 "com/example/takt/takt/store/AggregateChunk" "widthMillis" "J" (.long (0 : Int64)) := D11 (Or.inr (wd47 hw)) (ty := .long) (by decide)
    have F22 : Fld Z h11 b11 "com/example/takt/takt/store/AggregateChunk" "exactSums" "Z" (.int (0 : Int32)) := D11 (Or.inr (wd49 hw)) (ty := .boolean) (by decide)
    refine WP.dup (pc' := 86) at_85 rfl rfl ?_
    refine WP.lloadN (pc' := 87) at_86 rfl rfl ?_
    refine WP.lload (pc' := 89) at_87 rfl rfl ?_
    refine WP.callI (a := b11) (argsL := [(.long x0), (.long t1)]) (rest := [(.ref b11)]) (wd := 1) (cl' := 3) (sl' := 36) (pc' := 92) at_89 rfl rfl (wd33 hw) (wd34 hw) (wd32 hw) (wd35 hw) (by decide) (m_ci hw b11 x0 t1 h11 n0 A11 ge12 F19 F20 F21 F22 Z18) pd_3 rfl rfl rfl (Nat.le_of_eq rfl) (by decide) (by decide) rfl rfl (by decide) (by decide) ?_
    rintro v h23 ⟨b23, rfl, K23, E23, Fs23, Ft23, Fw23, ge23, sz23, A23, O23⟩
    have ne24 : a_NONE ≠ b23 := Nat.ne_of_lt (Nat.lt_of_lt_of_le E15.lt sz23)
    have ne25 : y6 ≠ b23 := Nat.ne_of_lt (Nat.lt_of_lt_of_le E16.lt sz23)
    have ne26 : b11 ≠ b23 := Nat.ne_of_lt (Nat.lt_of_lt_of_le A11.lt sz23)
    have E27 := E15.keep K23
    have E28 := E16.keep K23
    have E29 := A11.keep K23
    have O30 := O17.keep K23 (allS ge12 all0)
    have Z31 : n0 ≤ h23.size := Nat.le_trans Z18 K23.1
    refine WP.castS (st' := [(.ref b11)]) rfl ?_
    refine WP.astore (pc' := 94) at_92 rfl rfl (Ls' := #[.val (.long x0), .second, .val (.long x1), .second, .val (.int x2), .val (.int x3), .val (.int x4), .val (.int x5), .val (.long t1), .second, .val (.int t2), .val (.int t3), .val (.int t4), .val (.int t5), .val (.ref y6), .val (.ref b11), .unset, .unset]) rfl ?_
    refine WP.aload (pc' := 96) at_94 rfl rfl rfl ?_
    refine WP.callV (a := b11) (K := "com/example/takt/takt/store/AggregateChunk") (argsL := []) (rest := []) (wd := 0) (cl' := 3) (sl' := 36) (pc' := 99) at_96 rfl (wd50 hw) (wd51 hw) (nfS (wd53 hw) rfl) (wd53 hw) (wd52 hw) (wd32 hw) (wd54 hw) (by decide) E23 (m_emp hw b11 h23 n0 b23 (fun _ => .null) Fs23 A23) pd_4 rfl rfl rfl (Nat.le_of_eq rfl) (by decide) (by decide) rfl rfl (by decide) (by decide) ?_
    rintro v hh32 ⟨⟨rfl, q32⟩ | ⟨rfl, q32⟩, he32⟩ <;> rw [he32]
    · skip
      refine WP.castS (st' := [(.int (1 : Int32))]) rfl ?_
      refine WP.istore (pc' := 101) at_99 rfl (Ls' := #[.val (.long x0), .second, .val (.long x1), .second, .val (.int x2), .val (.int x3), .val (.int x4), .val (.int x5), .val (.long t1), .second, .val (.int t2), .val (.int t3), .val (.int t4), .val (.int t5), .val (.ref y6), .val (.ref b11), .val (.int (1 : Int32)), .unset]) rfl ?_
      refine WP.iload (pc' := 103) at_101 rfl rfl ?_
      refine WP.iconst (pc' := 104) at_103 rfl (z := 1) rfl ?_
      refine WP.icmp_lt (pc1 := 122) (pc2 := 107) at_104 (by decide) (by decide) rfl ?_ ?_
      · intro hc104
        refine WP.iload (pc' := 124) at_122 rfl rfl ?_
        refine WP.iconst (pc' := 125) at_124 rfl (z := 2) rfl ?_
        have hc125 : t2 < (2 : Int32) := by rw [Int32.lt_iff_toInt_lt] at hc104 ⊢; exact Int.lt_trans hc104 (by decide)
        refine WP.icmp_lt (pc1 := 143) (pc2 := 128) at_125 (by decide) (by decide) rfl (fun _ => ?_) (fun k => absurd hc125 k)
        refine WP.iload (pc' := 145) at_143 rfl rfl ?_
        refine WP.iconst (pc' := 146) at_145 rfl (z := 3) rfl ?_
        have hc146 : t2 < (3 : Int32) := by rw [Int32.lt_iff_toInt_lt] at hc104 ⊢; exact Int.lt_trans hc104 (by decide)
        refine WP.icmp_lt (pc1 := 164) (pc2 := 149) at_146 (by decide) (by decide) rfl (fun _ => ?_) (fun k => absurd hc146 k)
        refine WP.aload (pc' := 166) at_164 rfl rfl rfl ?_
        refine WP.callV (a := b11) (K := "com/example/takt/takt/store/AggregateChunk") (argsL := []) (rest := []) (wd := 0) (cl' := 3) (sl' := 36) (pc' := 169) at_166 rfl (wd50 hw) (wd51 hw) (nfS (wd53 hw) rfl) (wd53 hw) (wd52 hw) (wd32 hw) (wd54 hw) (by decide) E23 (m_emp hw b11 h23 n0 b23 (fun _ => .null) Fs23 A23) pd_4 rfl rfl rfl (Nat.le_of_eq rfl) (by decide) (by decide) rfl rfl (by decide) (by decide) ?_
        rintro v hh33 ⟨⟨rfl, q33⟩ | ⟨rfl, q33⟩, he33⟩ <;> rw [he33]
        · skip
          refine WP.castS (st' := [(.int (1 : Int32))]) rfl ?_
          refine WP.istore (pc' := 171) at_169 rfl (Ls' := #[.val (.long x0), .second, .val (.long x1), .second, .val (.int x2), .val (.int x3), .val (.int x4), .val (.int x5), .val (.long t1), .second, .val (.int t2), .val (.int t3), .val (.int t4), .val (.int t5), .val (.ref y6), .val (.ref b11), .val (.int (1 : Int32)), .val (.int (1 : Int32))]) rfl ?_
          refine WP.iload (pc' := 173) at_171 rfl rfl ?_
          have hc173 : ¬ (1 : Int32) = (0 : Int32) := by decide
          refine WP.ifc_eq (pc1 := 195) (pc2 := 176) at_173 (by decide) (by decide) rfl (fun k => absurd k hc173) (fun _ => ?_)
          refine WP.iload (pc' := 178) at_176 rfl rfl ?_
          refine WP.iload (pc' := 180) at_178 rfl rfl ?_
          have hc180 : t2 = (0 : Int32) := Int32.toInt_inj.mp (by rw [Int32.lt_iff_toInt_lt] at hc104; have : (1 : Int32).toInt = 1 := rfl; have : (0 : Int32).toInt = 0 := rfl; omega)
          refine WP.ifc_ne (pc1 := 187) (pc2 := 183) at_180 (by decide) (by decide) rfl (fun k => absurd hc180 k) (fun _ => ?_)
          refine WP.iconst (pc' := 184) at_183 rfl (z := 1) rfl ?_
          refine WP.goto (pc' := 188) at_184 (by decide) (by decide) ?_
          have hc188 : (1 : Int32) = (1 : Int32) := by decide
          refine WP.icmp_ne (pc1 := 195) (pc2 := 191) at_188 (by decide) (by decide) rfl (fun k => absurd hc188 k) (fun _ => ?_)
          refine WP.iconst (pc' := 192) at_191 rfl (z := 1) rfl ?_
          refine WP.goto (pc' := 196) at_192 (by decide) (by decide) ?_
          refine WP.nret (t := .boolean) at_196 rfl (by simp) rfl (by decide) (by decide) rfl
        · exact absurd rfl q33.choose_spec.2
      · intro hc104
        refine WP.aload (pc' := 109) at_107 rfl rfl rfl ?_
        refine WP.lloadN (pc' := 110) at_109 rfl rfl ?_
        refine WP.iload (pc' := 112) at_110 rfl rfl ?_
        refine WP.i2l (pc' := 113) at_112 rfl ?_
        refine WP.lload (pc' := 115) at_113 rfl rfl ?_
        refine WP.lmul (pc' := 116) at_115 rfl ?_
        refine WP.ladd (pc' := 117) at_116 rfl ?_
        refine WP.aload (pc' := 119) at_117 rfl rfl rfl ?_
        obtain ⟨i_t3, hi_t3⟩ : ∃ m : Nat, t3.toInt = (m : Int) := ⟨t3.toInt.toNat, by have := bt3; omega⟩
        have li_t3 : i_t3 < 24 := by have := bt3; omega
        refine WP.callV (a := b11) (K := "com/example/takt/takt/store/AggregateChunk") (argsL := [(.long (x0 + ((t3.toInt64) * t1))), (.ref y6)]) (rest := []) (wd := 0) (cl' := 3) (sl' := 36) (pc' := 122) at_119 rfl (wd55 hw) (wd56 hw) (nfS (wd58 hw) rfl) (wd58 hw) (wd57 hw) (wd32 hw) (wd59 hw) (by decide) E23 (m_put hw b11 (x0 + ((t3.toInt64) * t1)) y6 h23 n0 b23 (fun _ => .null) x0 t1 Fs23 Ft23 Fw23 A23 O23 (Ins.self E28) ne26 ge23 i_t3 li_t3 (by intro z; rw [z] at bw; exact absurd bw.1 (by decide)) (idx24 bw.1 bw.2 hi_t3 li_t3)) pd_5 rfl rfl rfl (Nat.le_of_eq rfl) (by decide) (by decide) rfl rfl (by decide) (by decide) ?_
        rintro v h34 ⟨rfl, K34, A34⟩
        have E35 := E27.keep K34
        have E36 := E28.keep K34
        have E37 := E23.keep K34
        have F38 := Fs23.keep K34 (ninS ne26 nin0)
        have F39 := Ft23.keep K34 (ninS ne26 nin0)
        have F40 := Fw23.keep K34 (ninS ne26 nin0)
        have O41 := O23.keep K34
        have O42 := O30.keep K34 (allS ge23 all0)
        have Z43 : n0 ≤ h34.size := Nat.le_trans Z31 K34.1
        refine WP.castS (st' := []) rfl ?_
        refine WP.iload (pc' := 124) at_122 rfl rfl ?_
        refine WP.iconst (pc' := 125) at_124 rfl (z := 2) rfl ?_
        refine WP.icmp_lt (pc1 := 143) (pc2 := 128) at_125 (by decide) (by decide) rfl ?_ ?_
        · intro hc125
          refine WP.iload (pc' := 145) at_143 rfl rfl ?_
          refine WP.iconst (pc' := 146) at_145 rfl (z := 3) rfl ?_
          have hc146 : t2 < (3 : Int32) := by rw [Int32.lt_iff_toInt_lt] at hc125 ⊢; exact Int.lt_trans hc125 (by decide)
          refine WP.icmp_lt (pc1 := 164) (pc2 := 149) at_146 (by decide) (by decide) rfl (fun _ => ?_) (fun k => absurd hc146 k)
          refine WP.aload (pc' := 166) at_164 rfl rfl rfl ?_
          refine WP.callV (a := b11) (K := "com/example/takt/takt/store/AggregateChunk") (argsL := []) (rest := []) (wd := 0) (cl' := 3) (sl' := 36) (pc' := 169) at_166 rfl (wd50 hw) (wd51 hw) (nfS (wd53 hw) rfl) (wd53 hw) (wd52 hw) (wd32 hw) (wd54 hw) (by decide) E37 (m_emp hw b11 h34 n0 b23 (updV (fun _ => .null) i_t3 (.ref y6)) F38 A34) pd_4 rfl rfl rfl (Nat.le_of_eq rfl) (by decide) (by decide) rfl rfl (by decide) (by decide) ?_
          rintro v hh44 ⟨⟨rfl, q44⟩ | ⟨rfl, q44⟩, he44⟩ <;> rw [he44]
          · exact absurd (q44 i_t3 (by omega)) (by simp [updV])
          · skip
            refine WP.castS (st' := [(.int (0 : Int32))]) rfl ?_
            refine WP.istore (pc' := 171) at_169 rfl (Ls' := #[.val (.long x0), .second, .val (.long x1), .second, .val (.int x2), .val (.int x3), .val (.int x4), .val (.int x5), .val (.long t1), .second, .val (.int t2), .val (.int t3), .val (.int t4), .val (.int t5), .val (.ref y6), .val (.ref b11), .val (.int (1 : Int32)), .val (.int (0 : Int32))]) rfl ?_
            refine WP.iload (pc' := 173) at_171 rfl rfl ?_
            have hc173 : ¬ (1 : Int32) = (0 : Int32) := by decide
            refine WP.ifc_eq (pc1 := 195) (pc2 := 176) at_173 (by decide) (by decide) rfl (fun k => absurd k hc173) (fun _ => ?_)
            refine WP.iload (pc' := 178) at_176 rfl rfl ?_
            refine WP.iload (pc' := 180) at_178 rfl rfl ?_
            have hc180 : ¬ t2 = (0 : Int32) := fun q => hc104 (by rw [q]; decide)
            refine WP.ifc_ne (pc1 := 187) (pc2 := 183) at_180 (by decide) (by decide) rfl (fun _ => ?_) (fun k => absurd k hc180)
            refine WP.iconst (pc' := 188) at_187 rfl (z := 0) rfl ?_
            have hc188 : (0 : Int32) = (0 : Int32) := by decide
            refine WP.icmp_ne (pc1 := 195) (pc2 := 191) at_188 (by decide) (by decide) rfl (fun k => absurd hc188 k) (fun _ => ?_)
            refine WP.iconst (pc' := 192) at_191 rfl (z := 1) rfl ?_
            refine WP.goto (pc' := 196) at_192 (by decide) (by decide) ?_
            refine WP.nret (t := .boolean) at_196 rfl (by simp) rfl (by decide) (by decide) rfl
        · intro hc125
          refine WP.aload (pc' := 130) at_128 rfl rfl rfl ?_
          refine WP.lloadN (pc' := 131) at_130 rfl rfl ?_
          refine WP.iload (pc' := 133) at_131 rfl rfl ?_
          refine WP.i2l (pc' := 134) at_133 rfl ?_
          refine WP.lload (pc' := 136) at_134 rfl rfl ?_
          refine WP.lmul (pc' := 137) at_136 rfl ?_
          refine WP.ladd (pc' := 138) at_137 rfl ?_
          refine WP.aload (pc' := 140) at_138 rfl rfl rfl ?_
          obtain ⟨i_t4, hi_t4⟩ : ∃ m : Nat, t4.toInt = (m : Int) := ⟨t4.toInt.toNat, by have := bt4; omega⟩
          have li_t4 : i_t4 < 24 := by have := bt4; omega
          refine WP.callV (a := b11) (K := "com/example/takt/takt/store/AggregateChunk") (argsL := [(.long (x0 + ((t4.toInt64) * t1))), (.ref y6)]) (rest := []) (wd := 0) (cl' := 3) (sl' := 36) (pc' := 143) at_140 rfl (wd55 hw) (wd56 hw) (nfS (wd58 hw) rfl) (wd58 hw) (wd57 hw) (wd32 hw) (wd59 hw) (by decide) E37 (m_put hw b11 (x0 + ((t4.toInt64) * t1)) y6 h34 n0 b23 (updV (fun _ => .null) i_t3 (.ref y6)) x0 t1 F38 F39 F40 A34 O41 (Ins.self E36) ne26 ge23 i_t4 li_t4 (by intro z; rw [z] at bw; exact absurd bw.1 (by decide)) (idx24 bw.1 bw.2 hi_t4 li_t4)) pd_5 rfl rfl rfl (Nat.le_of_eq rfl) (by decide) (by decide) rfl rfl (by decide) (by decide) ?_
          rintro v h45 ⟨rfl, K45, A45⟩
          have E46 := E35.keep K45
          have E47 := E36.keep K45
          have E48 := E37.keep K45
          have F49 := F38.keep K45 (ninS ne26 nin0)
          have F50 := F39.keep K45 (ninS ne26 nin0)
          have F51 := F40.keep K45 (ninS ne26 nin0)
          have O52 := O41.keep K45
          have O53 := O42.keep K45 (allS ge23 all0)
          have Z54 : n0 ≤ h45.size := Nat.le_trans Z43 K45.1
          refine WP.castS (st' := []) rfl ?_
          refine WP.iload (pc' := 145) at_143 rfl rfl ?_
          refine WP.iconst (pc' := 146) at_145 rfl (z := 3) rfl ?_
          refine WP.icmp_lt (pc1 := 164) (pc2 := 149) at_146 (by decide) (by decide) rfl ?_ ?_
          · intro hc146
            refine WP.aload (pc' := 166) at_164 rfl rfl rfl ?_
            refine WP.callV (a := b11) (K := "com/example/takt/takt/store/AggregateChunk") (argsL := []) (rest := []) (wd := 0) (cl' := 3) (sl' := 36) (pc' := 169) at_166 rfl (wd50 hw) (wd51 hw) (nfS (wd53 hw) rfl) (wd53 hw) (wd52 hw) (wd32 hw) (wd54 hw) (by decide) E48 (m_emp hw b11 h45 n0 b23 (updV (updV (fun _ => .null) i_t3 (.ref y6)) i_t4 (.ref y6)) F49 A45) pd_4 rfl rfl rfl (Nat.le_of_eq rfl) (by decide) (by decide) rfl rfl (by decide) (by decide) ?_
            rintro v hh55 ⟨⟨rfl, q55⟩ | ⟨rfl, q55⟩, he55⟩ <;> rw [he55]
            · exact absurd (q55 i_t4 (by omega)) (by simp [updV])
            · skip
              refine WP.castS (st' := [(.int (0 : Int32))]) rfl ?_
              refine WP.istore (pc' := 171) at_169 rfl (Ls' := #[.val (.long x0), .second, .val (.long x1), .second, .val (.int x2), .val (.int x3), .val (.int x4), .val (.int x5), .val (.long t1), .second, .val (.int t2), .val (.int t3), .val (.int t4), .val (.int t5), .val (.ref y6), .val (.ref b11), .val (.int (1 : Int32)), .val (.int (0 : Int32))]) rfl ?_
              refine WP.iload (pc' := 173) at_171 rfl rfl ?_
              have hc173 : ¬ (1 : Int32) = (0 : Int32) := by decide
              refine WP.ifc_eq (pc1 := 195) (pc2 := 176) at_173 (by decide) (by decide) rfl (fun k => absurd k hc173) (fun _ => ?_)
              refine WP.iload (pc' := 178) at_176 rfl rfl ?_
              refine WP.iload (pc' := 180) at_178 rfl rfl ?_
              have hc180 : ¬ t2 = (0 : Int32) := fun q => hc104 (by rw [q]; decide)
              refine WP.ifc_ne (pc1 := 187) (pc2 := 183) at_180 (by decide) (by decide) rfl (fun _ => ?_) (fun k => absurd k hc180)
              refine WP.iconst (pc' := 188) at_187 rfl (z := 0) rfl ?_
              have hc188 : (0 : Int32) = (0 : Int32) := by decide
              refine WP.icmp_ne (pc1 := 195) (pc2 := 191) at_188 (by decide) (by decide) rfl (fun k => absurd hc188 k) (fun _ => ?_)
              refine WP.iconst (pc' := 192) at_191 rfl (z := 1) rfl ?_
              refine WP.goto (pc' := 196) at_192 (by decide) (by decide) ?_
              refine WP.nret (t := .boolean) at_196 rfl (by simp) rfl (by decide) (by decide) rfl
          · intro hc146
            refine WP.aload (pc' := 151) at_149 rfl rfl rfl ?_
            refine WP.lloadN (pc' := 152) at_151 rfl rfl ?_
            refine WP.iload (pc' := 154) at_152 rfl rfl ?_
            refine WP.i2l (pc' := 155) at_154 rfl ?_
            refine WP.lload (pc' := 157) at_155 rfl rfl ?_
            refine WP.lmul (pc' := 158) at_157 rfl ?_
            refine WP.ladd (pc' := 159) at_158 rfl ?_
            refine WP.aload (pc' := 161) at_159 rfl rfl rfl ?_
            obtain ⟨i_t5, hi_t5⟩ : ∃ m : Nat, t5.toInt = (m : Int) := ⟨t5.toInt.toNat, by have := bt5; omega⟩
            have li_t5 : i_t5 < 24 := by have := bt5; omega
            refine WP.callV (a := b11) (K := "com/example/takt/takt/store/AggregateChunk") (argsL := [(.long (x0 + ((t5.toInt64) * t1))), (.ref y6)]) (rest := []) (wd := 0) (cl' := 3) (sl' := 36) (pc' := 164) at_161 rfl (wd55 hw) (wd56 hw) (nfS (wd58 hw) rfl) (wd58 hw) (wd57 hw) (wd32 hw) (wd59 hw) (by decide) E48 (m_put hw b11 (x0 + ((t5.toInt64) * t1)) y6 h45 n0 b23 (updV (updV (fun _ => .null) i_t3 (.ref y6)) i_t4 (.ref y6)) x0 t1 F49 F50 F51 A45 O52 (Ins.self E47) ne26 ge23 i_t5 li_t5 (by intro z; rw [z] at bw; exact absurd bw.1 (by decide)) (idx24 bw.1 bw.2 hi_t5 li_t5)) pd_5 rfl rfl rfl (Nat.le_of_eq rfl) (by decide) (by decide) rfl rfl (by decide) (by decide) ?_
            rintro v h56 ⟨rfl, K56, A56⟩
            have E57 := E46.keep K56
            have E58 := E47.keep K56
            have E59 := E48.keep K56
            have F60 := F49.keep K56 (ninS ne26 nin0)
            have F61 := F50.keep K56 (ninS ne26 nin0)
            have F62 := F51.keep K56 (ninS ne26 nin0)
            have O63 := O52.keep K56
            have O64 := O53.keep K56 (allS ge23 all0)
            have Z65 : n0 ≤ h56.size := Nat.le_trans Z54 K56.1
            refine WP.castS (st' := []) rfl ?_
            refine WP.aload (pc' := 166) at_164 rfl rfl rfl ?_
            refine WP.callV (a := b11) (K := "com/example/takt/takt/store/AggregateChunk") (argsL := []) (rest := []) (wd := 0) (cl' := 3) (sl' := 36) (pc' := 169) at_166 rfl (wd50 hw) (wd51 hw) (nfS (wd53 hw) rfl) (wd53 hw) (wd52 hw) (wd32 hw) (wd54 hw) (by decide) E59 (m_emp hw b11 h56 n0 b23 (updV (updV (updV (fun _ => .null) i_t3 (.ref y6)) i_t4 (.ref y6)) i_t5 (.ref y6)) F60 A56) pd_4 rfl rfl rfl (Nat.le_of_eq rfl) (by decide) (by decide) rfl rfl (by decide) (by decide) ?_
            rintro v hh66 ⟨⟨rfl, q66⟩ | ⟨rfl, q66⟩, he66⟩ <;> rw [he66]
            · exact absurd (q66 i_t5 (by omega)) (by simp [updV])
            · skip
              refine WP.castS (st' := [(.int (0 : Int32))]) rfl ?_
              refine WP.istore (pc' := 171) at_169 rfl (Ls' := #[.val (.long x0), .second, .val (.long x1), .second, .val (.int x2), .val (.int x3), .val (.int x4), .val (.int x5), .val (.long t1), .second, .val (.int t2), .val (.int t3), .val (.int t4), .val (.int t5), .val (.ref y6), .val (.ref b11), .val (.int (1 : Int32)), .val (.int (0 : Int32))]) rfl ?_
              refine WP.iload (pc' := 173) at_171 rfl rfl ?_
              have hc173 : ¬ (1 : Int32) = (0 : Int32) := by decide
              refine WP.ifc_eq (pc1 := 195) (pc2 := 176) at_173 (by decide) (by decide) rfl (fun k => absurd k hc173) (fun _ => ?_)
              refine WP.iload (pc' := 178) at_176 rfl rfl ?_
              refine WP.iload (pc' := 180) at_178 rfl rfl ?_
              have hc180 : ¬ t2 = (0 : Int32) := fun q => hc104 (by rw [q]; decide)
              refine WP.ifc_ne (pc1 := 187) (pc2 := 183) at_180 (by decide) (by decide) rfl (fun _ => ?_) (fun k => absurd k hc180)
              refine WP.iconst (pc' := 188) at_187 rfl (z := 0) rfl ?_
              have hc188 : (0 : Int32) = (0 : Int32) := by decide
              refine WP.icmp_ne (pc1 := 195) (pc2 := 191) at_188 (by decide) (by decide) rfl (fun k => absurd hc188 k) (fun _ => ?_)
              refine WP.iconst (pc' := 192) at_191 rfl (z := 1) rfl ?_
              refine WP.goto (pc' := 196) at_192 (by decide) (by decide) ?_
              refine WP.nret (t := .boolean) at_196 rfl (by simp) rfl (by decide) (by decide) rfl
    · exact absurd rfl q32.choose_spec.2
  · intro hc49
    refine WP.getS (pc' := 55) at_52 rfl (host := "") (Or.inl (wd61 hw)) Via.refl (S_NONE.ext O0.2) ?_
    refine WP.astore (pc' := 57) at_55 rfl rfl (Ls' := #[.val (.long x0), .second, .val (.long x1), .second, .val (.int x2), .val (.int x3), .val (.int x4), .val (.int x5), .val (.long t1), .second, .val (.int t2), .val (.int t3), .val (.int t4), .val (.int t5), .val (.ref a_NONE), .unset, .unset, .unset]) rfl ?_
    refine WP.goto (pc' := 82) at_57 (by decide) (by decide) ?_
    refine WP.newO (cl' := 1) (sl' := 5) (pc' := 85) at_82 rfl (wd30 hw) (wd31 hw) (wd32 hw) rfl rfl (by decide) (by decide) ?_
    intro h67 b67 g67 E67 A67 D67
    have ge68 : n0 ≤ b67 := by rw [g67]; exact Z0
    have ne69 : a_NONE ≠ b67 := by rw [g67]; exact Nat.ne_of_lt E_NONE.lt
    have E70 := E_NONE.ext E67
    have O71 := O0.ext E67
    have Z72 : n0 ≤ h67.size := Nat.le_trans Z0 E67.1
    have F73 : Fld Z h67 b67 "com/example/takt/takt/store/AggregateChunk" "slices" "[Lcom/example/takt/takt/store/StoredAggregate;" .null := D67 (Or.inr (wd43 hw)) (ty := (.array (.object "com/example/takt/takt/store/StoredAggregate"))) (by decide)
    have F74 : Fld Z h67 b67 "com/example/takt/takt/store/AggregateChunk" "startMillis" "J" (.long (0 : Int64)) := D67 (Or.inr (wd45 hw)) (ty := .long) (by decide)
    have F75 : Fld Z h67 b67 "com/example/takt/takt/store/AggregateChunk" "widthMillis" "J" (.long (0 : Int64)) := D67 (Or.inr (wd47 hw)) (ty := .long) (by decide)
    have F76 : Fld Z h67 b67 "com/example/takt/takt/store/AggregateChunk" "exactSums" "Z" (.int (0 : Int32)) := D67 (Or.inr (wd49 hw)) (ty := .boolean) (by decide)
    refine WP.dup (pc' := 86) at_85 rfl rfl ?_
    refine WP.lloadN (pc' := 87) at_86 rfl rfl ?_
    refine WP.lload (pc' := 89) at_87 rfl rfl ?_
    refine WP.callI (a := b67) (argsL := [(.long x0), (.long t1)]) (rest := [(.ref b67)]) (wd := 1) (cl' := 2) (sl' := 29) (pc' := 92) at_89 rfl rfl (wd33 hw) (wd34 hw) (wd32 hw) (wd35 hw) (by decide) (m_ci hw b67 x0 t1 h67 n0 A67 ge68 F73 F74 F75 F76 Z72) pd_3 rfl rfl rfl (Nat.le_of_eq rfl) (by decide) (by decide) rfl rfl (by decide) (by decide) ?_
    rintro v h77 ⟨b77, rfl, K77, E77, Fs77, Ft77, Fw77, ge77, sz77, A77, O77⟩
    have ne78 : a_NONE ≠ b77 := Nat.ne_of_lt (Nat.lt_of_lt_of_le E70.lt sz77)
    have ne79 : b67 ≠ b77 := Nat.ne_of_lt (Nat.lt_of_lt_of_le A67.lt sz77)
    have E80 := E70.keep K77
    have E81 := A67.keep K77
    have O82 := O71.keep K77 (allS ge68 all0)
    have Z83 : n0 ≤ h77.size := Nat.le_trans Z72 K77.1
    refine WP.castS (st' := [(.ref b67)]) rfl ?_
    refine WP.astore (pc' := 94) at_92 rfl rfl (Ls' := #[.val (.long x0), .second, .val (.long x1), .second, .val (.int x2), .val (.int x3), .val (.int x4), .val (.int x5), .val (.long t1), .second, .val (.int t2), .val (.int t3), .val (.int t4), .val (.int t5), .val (.ref a_NONE), .val (.ref b67), .unset, .unset]) rfl ?_
    refine WP.aload (pc' := 96) at_94 rfl rfl rfl ?_
    refine WP.callV (a := b67) (K := "com/example/takt/takt/store/AggregateChunk") (argsL := []) (rest := []) (wd := 0) (cl' := 2) (sl' := 29) (pc' := 99) at_96 rfl (wd50 hw) (wd51 hw) (nfS (wd53 hw) rfl) (wd53 hw) (wd52 hw) (wd32 hw) (wd54 hw) (by decide) E77 (m_emp hw b67 h77 n0 b77 (fun _ => .null) Fs77 A77) pd_4 rfl rfl rfl (Nat.le_of_eq rfl) (by decide) (by decide) rfl rfl (by decide) (by decide) ?_
    rintro v hh84 ⟨⟨rfl, q84⟩ | ⟨rfl, q84⟩, he84⟩ <;> rw [he84]
    · skip
      refine WP.castS (st' := [(.int (1 : Int32))]) rfl ?_
      refine WP.istore (pc' := 101) at_99 rfl (Ls' := #[.val (.long x0), .second, .val (.long x1), .second, .val (.int x2), .val (.int x3), .val (.int x4), .val (.int x5), .val (.long t1), .second, .val (.int t2), .val (.int t3), .val (.int t4), .val (.int t5), .val (.ref a_NONE), .val (.ref b67), .val (.int (1 : Int32)), .unset]) rfl ?_
      refine WP.iload (pc' := 103) at_101 rfl rfl ?_
      refine WP.iconst (pc' := 104) at_103 rfl (z := 1) rfl ?_
      refine WP.icmp_lt (pc1 := 122) (pc2 := 107) at_104 (by decide) (by decide) rfl ?_ ?_
      · intro hc104
        refine WP.iload (pc' := 124) at_122 rfl rfl ?_
        refine WP.iconst (pc' := 125) at_124 rfl (z := 2) rfl ?_
        have hc125 : t2 < (2 : Int32) := by rw [Int32.lt_iff_toInt_lt] at hc104 ⊢; exact Int.lt_trans hc104 (by decide)
        refine WP.icmp_lt (pc1 := 143) (pc2 := 128) at_125 (by decide) (by decide) rfl (fun _ => ?_) (fun k => absurd hc125 k)
        refine WP.iload (pc' := 145) at_143 rfl rfl ?_
        refine WP.iconst (pc' := 146) at_145 rfl (z := 3) rfl ?_
        have hc146 : t2 < (3 : Int32) := by rw [Int32.lt_iff_toInt_lt] at hc104 ⊢; exact Int.lt_trans hc104 (by decide)
        refine WP.icmp_lt (pc1 := 164) (pc2 := 149) at_146 (by decide) (by decide) rfl (fun _ => ?_) (fun k => absurd hc146 k)
        refine WP.aload (pc' := 166) at_164 rfl rfl rfl ?_
        refine WP.callV (a := b67) (K := "com/example/takt/takt/store/AggregateChunk") (argsL := []) (rest := []) (wd := 0) (cl' := 2) (sl' := 29) (pc' := 169) at_166 rfl (wd50 hw) (wd51 hw) (nfS (wd53 hw) rfl) (wd53 hw) (wd52 hw) (wd32 hw) (wd54 hw) (by decide) E77 (m_emp hw b67 h77 n0 b77 (fun _ => .null) Fs77 A77) pd_4 rfl rfl rfl (Nat.le_of_eq rfl) (by decide) (by decide) rfl rfl (by decide) (by decide) ?_
        rintro v hh85 ⟨⟨rfl, q85⟩ | ⟨rfl, q85⟩, he85⟩ <;> rw [he85]
        · skip
          refine WP.castS (st' := [(.int (1 : Int32))]) rfl ?_
          refine WP.istore (pc' := 171) at_169 rfl (Ls' := #[.val (.long x0), .second, .val (.long x1), .second, .val (.int x2), .val (.int x3), .val (.int x4), .val (.int x5), .val (.long t1), .second, .val (.int t2), .val (.int t3), .val (.int t4), .val (.int t5), .val (.ref a_NONE), .val (.ref b67), .val (.int (1 : Int32)), .val (.int (1 : Int32))]) rfl ?_
          refine WP.iload (pc' := 173) at_171 rfl rfl ?_
          have hc173 : ¬ (1 : Int32) = (0 : Int32) := by decide
          refine WP.ifc_eq (pc1 := 195) (pc2 := 176) at_173 (by decide) (by decide) rfl (fun k => absurd k hc173) (fun _ => ?_)
          refine WP.iload (pc' := 178) at_176 rfl rfl ?_
          refine WP.iload (pc' := 180) at_178 rfl rfl ?_
          have hc180 : t2 = (0 : Int32) := Int32.toInt_inj.mp (by rw [Int32.lt_iff_toInt_lt] at hc104; have : (1 : Int32).toInt = 1 := rfl; have : (0 : Int32).toInt = 0 := rfl; omega)
          refine WP.ifc_ne (pc1 := 187) (pc2 := 183) at_180 (by decide) (by decide) rfl (fun k => absurd hc180 k) (fun _ => ?_)
          refine WP.iconst (pc' := 184) at_183 rfl (z := 1) rfl ?_
          refine WP.goto (pc' := 188) at_184 (by decide) (by decide) ?_
          have hc188 : (1 : Int32) = (1 : Int32) := by decide
          refine WP.icmp_ne (pc1 := 195) (pc2 := 191) at_188 (by decide) (by decide) rfl (fun k => absurd hc188 k) (fun _ => ?_)
          refine WP.iconst (pc' := 192) at_191 rfl (z := 1) rfl ?_
          refine WP.goto (pc' := 196) at_192 (by decide) (by decide) ?_
          refine WP.nret (t := .boolean) at_196 rfl (by simp) rfl (by decide) (by decide) rfl
        · exact absurd rfl q85.choose_spec.2
      · intro hc104
        refine WP.aload (pc' := 109) at_107 rfl rfl rfl ?_
        refine WP.lloadN (pc' := 110) at_109 rfl rfl ?_
        refine WP.iload (pc' := 112) at_110 rfl rfl ?_
        refine WP.i2l (pc' := 113) at_112 rfl ?_
        refine WP.lload (pc' := 115) at_113 rfl rfl ?_
        refine WP.lmul (pc' := 116) at_115 rfl ?_
        refine WP.ladd (pc' := 117) at_116 rfl ?_
        refine WP.aload (pc' := 119) at_117 rfl rfl rfl ?_
        obtain ⟨i_t3, hi_t3⟩ : ∃ m : Nat, t3.toInt = (m : Int) := ⟨t3.toInt.toNat, by have := bt3; omega⟩
        have li_t3 : i_t3 < 24 := by have := bt3; omega
        refine WP.callV (a := b67) (K := "com/example/takt/takt/store/AggregateChunk") (argsL := [(.long (x0 + ((t3.toInt64) * t1))), (.ref a_NONE)]) (rest := []) (wd := 0) (cl' := 2) (sl' := 29) (pc' := 122) at_119 rfl (wd55 hw) (wd56 hw) (nfS (wd58 hw) rfl) (wd58 hw) (wd57 hw) (wd32 hw) (wd59 hw) (by decide) E77 (m_put hw b67 (x0 + ((t3.toInt64) * t1)) a_NONE h77 n0 b77 (fun _ => .null) x0 t1 Fs77 Ft77 Fw77 A77 O77 (Ins.self E80) ne79 ge77 i_t3 li_t3 (by intro z; rw [z] at bw; exact absurd bw.1 (by decide)) (idx24 bw.1 bw.2 hi_t3 li_t3)) pd_5 rfl rfl rfl (Nat.le_of_eq rfl) (by decide) (by decide) rfl rfl (by decide) (by decide) ?_
        rintro v h86 ⟨rfl, K86, A86⟩
        have E87 := E80.keep K86
        have E88 := E77.keep K86
        have F89 := Fs77.keep K86 (ninS ne79 nin0)
        have F90 := Ft77.keep K86 (ninS ne79 nin0)
        have F91 := Fw77.keep K86 (ninS ne79 nin0)
        have O92 := O77.keep K86
        have O93 := O82.keep K86 (allS ge77 all0)
        have Z94 : n0 ≤ h86.size := Nat.le_trans Z83 K86.1
        refine WP.castS (st' := []) rfl ?_
        refine WP.iload (pc' := 124) at_122 rfl rfl ?_
        refine WP.iconst (pc' := 125) at_124 rfl (z := 2) rfl ?_
        refine WP.icmp_lt (pc1 := 143) (pc2 := 128) at_125 (by decide) (by decide) rfl ?_ ?_
        · intro hc125
          refine WP.iload (pc' := 145) at_143 rfl rfl ?_
          refine WP.iconst (pc' := 146) at_145 rfl (z := 3) rfl ?_
          have hc146 : t2 < (3 : Int32) := by rw [Int32.lt_iff_toInt_lt] at hc125 ⊢; exact Int.lt_trans hc125 (by decide)
          refine WP.icmp_lt (pc1 := 164) (pc2 := 149) at_146 (by decide) (by decide) rfl (fun _ => ?_) (fun k => absurd hc146 k)
          refine WP.aload (pc' := 166) at_164 rfl rfl rfl ?_
          refine WP.callV (a := b67) (K := "com/example/takt/takt/store/AggregateChunk") (argsL := []) (rest := []) (wd := 0) (cl' := 2) (sl' := 29) (pc' := 169) at_166 rfl (wd50 hw) (wd51 hw) (nfS (wd53 hw) rfl) (wd53 hw) (wd52 hw) (wd32 hw) (wd54 hw) (by decide) E88 (m_emp hw b67 h86 n0 b77 (updV (fun _ => .null) i_t3 (.ref a_NONE)) F89 A86) pd_4 rfl rfl rfl (Nat.le_of_eq rfl) (by decide) (by decide) rfl rfl (by decide) (by decide) ?_
          rintro v hh95 ⟨⟨rfl, q95⟩ | ⟨rfl, q95⟩, he95⟩ <;> rw [he95]
          · exact absurd (q95 i_t3 (by omega)) (by simp [updV])
          · skip
            refine WP.castS (st' := [(.int (0 : Int32))]) rfl ?_
            refine WP.istore (pc' := 171) at_169 rfl (Ls' := #[.val (.long x0), .second, .val (.long x1), .second, .val (.int x2), .val (.int x3), .val (.int x4), .val (.int x5), .val (.long t1), .second, .val (.int t2), .val (.int t3), .val (.int t4), .val (.int t5), .val (.ref a_NONE), .val (.ref b67), .val (.int (1 : Int32)), .val (.int (0 : Int32))]) rfl ?_
            refine WP.iload (pc' := 173) at_171 rfl rfl ?_
            have hc173 : ¬ (1 : Int32) = (0 : Int32) := by decide
            refine WP.ifc_eq (pc1 := 195) (pc2 := 176) at_173 (by decide) (by decide) rfl (fun k => absurd k hc173) (fun _ => ?_)
            refine WP.iload (pc' := 178) at_176 rfl rfl ?_
            refine WP.iload (pc' := 180) at_178 rfl rfl ?_
            have hc180 : ¬ t2 = (0 : Int32) := fun q => hc104 (by rw [q]; decide)
            refine WP.ifc_ne (pc1 := 187) (pc2 := 183) at_180 (by decide) (by decide) rfl (fun _ => ?_) (fun k => absurd k hc180)
            refine WP.iconst (pc' := 188) at_187 rfl (z := 0) rfl ?_
            have hc188 : (0 : Int32) = (0 : Int32) := by decide
            refine WP.icmp_ne (pc1 := 195) (pc2 := 191) at_188 (by decide) (by decide) rfl (fun k => absurd hc188 k) (fun _ => ?_)
            refine WP.iconst (pc' := 192) at_191 rfl (z := 1) rfl ?_
            refine WP.goto (pc' := 196) at_192 (by decide) (by decide) ?_
            refine WP.nret (t := .boolean) at_196 rfl (by simp) rfl (by decide) (by decide) rfl
        · intro hc125
          refine WP.aload (pc' := 130) at_128 rfl rfl rfl ?_
          refine WP.lloadN (pc' := 131) at_130 rfl rfl ?_
          refine WP.iload (pc' := 133) at_131 rfl rfl ?_
          refine WP.i2l (pc' := 134) at_133 rfl ?_
          refine WP.lload (pc' := 136) at_134 rfl rfl ?_
          refine WP.lmul (pc' := 137) at_136 rfl ?_
          refine WP.ladd (pc' := 138) at_137 rfl ?_
          refine WP.aload (pc' := 140) at_138 rfl rfl rfl ?_
          obtain ⟨i_t4, hi_t4⟩ : ∃ m : Nat, t4.toInt = (m : Int) := ⟨t4.toInt.toNat, by have := bt4; omega⟩
          have li_t4 : i_t4 < 24 := by have := bt4; omega
          refine WP.callV (a := b67) (K := "com/example/takt/takt/store/AggregateChunk") (argsL := [(.long (x0 + ((t4.toInt64) * t1))), (.ref a_NONE)]) (rest := []) (wd := 0) (cl' := 2) (sl' := 29) (pc' := 143) at_140 rfl (wd55 hw) (wd56 hw) (nfS (wd58 hw) rfl) (wd58 hw) (wd57 hw) (wd32 hw) (wd59 hw) (by decide) E88 (m_put hw b67 (x0 + ((t4.toInt64) * t1)) a_NONE h86 n0 b77 (updV (fun _ => .null) i_t3 (.ref a_NONE)) x0 t1 F89 F90 F91 A86 O92 (Ins.self E87) ne79 ge77 i_t4 li_t4 (by intro z; rw [z] at bw; exact absurd bw.1 (by decide)) (idx24 bw.1 bw.2 hi_t4 li_t4)) pd_5 rfl rfl rfl (Nat.le_of_eq rfl) (by decide) (by decide) rfl rfl (by decide) (by decide) ?_
          rintro v h96 ⟨rfl, K96, A96⟩
          have E97 := E87.keep K96
          have E98 := E88.keep K96
          have F99 := F89.keep K96 (ninS ne79 nin0)
          have F100 := F90.keep K96 (ninS ne79 nin0)
          have F101 := F91.keep K96 (ninS ne79 nin0)
          have O102 := O92.keep K96
          have O103 := O93.keep K96 (allS ge77 all0)
          have Z104 : n0 ≤ h96.size := Nat.le_trans Z94 K96.1
          refine WP.castS (st' := []) rfl ?_
          refine WP.iload (pc' := 145) at_143 rfl rfl ?_
          refine WP.iconst (pc' := 146) at_145 rfl (z := 3) rfl ?_
          refine WP.icmp_lt (pc1 := 164) (pc2 := 149) at_146 (by decide) (by decide) rfl ?_ ?_
          · intro hc146
            refine WP.aload (pc' := 166) at_164 rfl rfl rfl ?_
            refine WP.callV (a := b67) (K := "com/example/takt/takt/store/AggregateChunk") (argsL := []) (rest := []) (wd := 0) (cl' := 2) (sl' := 29) (pc' := 169) at_166 rfl (wd50 hw) (wd51 hw) (nfS (wd53 hw) rfl) (wd53 hw) (wd52 hw) (wd32 hw) (wd54 hw) (by decide) E98 (m_emp hw b67 h96 n0 b77 (updV (updV (fun _ => .null) i_t3 (.ref a_NONE)) i_t4 (.ref a_NONE)) F99 A96) pd_4 rfl rfl rfl (Nat.le_of_eq rfl) (by decide) (by decide) rfl rfl (by decide) (by decide) ?_
            rintro v hh105 ⟨⟨rfl, q105⟩ | ⟨rfl, q105⟩, he105⟩ <;> rw [he105]
            · exact absurd (q105 i_t4 (by omega)) (by simp [updV])
            · skip
              refine WP.castS (st' := [(.int (0 : Int32))]) rfl ?_
              refine WP.istore (pc' := 171) at_169 rfl (Ls' := #[.val (.long x0), .second, .val (.long x1), .second, .val (.int x2), .val (.int x3), .val (.int x4), .val (.int x5), .val (.long t1), .second, .val (.int t2), .val (.int t3), .val (.int t4), .val (.int t5), .val (.ref a_NONE), .val (.ref b67), .val (.int (1 : Int32)), .val (.int (0 : Int32))]) rfl ?_
              refine WP.iload (pc' := 173) at_171 rfl rfl ?_
              have hc173 : ¬ (1 : Int32) = (0 : Int32) := by decide
              refine WP.ifc_eq (pc1 := 195) (pc2 := 176) at_173 (by decide) (by decide) rfl (fun k => absurd k hc173) (fun _ => ?_)
              refine WP.iload (pc' := 178) at_176 rfl rfl ?_
              refine WP.iload (pc' := 180) at_178 rfl rfl ?_
              have hc180 : ¬ t2 = (0 : Int32) := fun q => hc104 (by rw [q]; decide)
              refine WP.ifc_ne (pc1 := 187) (pc2 := 183) at_180 (by decide) (by decide) rfl (fun _ => ?_) (fun k => absurd k hc180)
              refine WP.iconst (pc' := 188) at_187 rfl (z := 0) rfl ?_
              have hc188 : (0 : Int32) = (0 : Int32) := by decide
              refine WP.icmp_ne (pc1 := 195) (pc2 := 191) at_188 (by decide) (by decide) rfl (fun k => absurd hc188 k) (fun _ => ?_)
              refine WP.iconst (pc' := 192) at_191 rfl (z := 1) rfl ?_
              refine WP.goto (pc' := 196) at_192 (by decide) (by decide) ?_
              refine WP.nret (t := .boolean) at_196 rfl (by simp) rfl (by decide) (by decide) rfl
          · intro hc146
            refine WP.aload (pc' := 151) at_149 rfl rfl rfl ?_
            refine WP.lloadN (pc' := 152) at_151 rfl rfl ?_
            refine WP.iload (pc' := 154) at_152 rfl rfl ?_
            refine WP.i2l (pc' := 155) at_154 rfl ?_
            refine WP.lload (pc' := 157) at_155 rfl rfl ?_
            refine WP.lmul (pc' := 158) at_157 rfl ?_
            refine WP.ladd (pc' := 159) at_158 rfl ?_
            refine WP.aload (pc' := 161) at_159 rfl rfl rfl ?_
            obtain ⟨i_t5, hi_t5⟩ : ∃ m : Nat, t5.toInt = (m : Int) := ⟨t5.toInt.toNat, by have := bt5; omega⟩
            have li_t5 : i_t5 < 24 := by have := bt5; omega
            refine WP.callV (a := b67) (K := "com/example/takt/takt/store/AggregateChunk") (argsL := [(.long (x0 + ((t5.toInt64) * t1))), (.ref a_NONE)]) (rest := []) (wd := 0) (cl' := 2) (sl' := 29) (pc' := 164) at_161 rfl (wd55 hw) (wd56 hw) (nfS (wd58 hw) rfl) (wd58 hw) (wd57 hw) (wd32 hw) (wd59 hw) (by decide) E98 (m_put hw b67 (x0 + ((t5.toInt64) * t1)) a_NONE h96 n0 b77 (updV (updV (fun _ => .null) i_t3 (.ref a_NONE)) i_t4 (.ref a_NONE)) x0 t1 F99 F100 F101 A96 O102 (Ins.self E97) ne79 ge77 i_t5 li_t5 (by intro z; rw [z] at bw; exact absurd bw.1 (by decide)) (idx24 bw.1 bw.2 hi_t5 li_t5)) pd_5 rfl rfl rfl (Nat.le_of_eq rfl) (by decide) (by decide) rfl rfl (by decide) (by decide) ?_
            rintro v h106 ⟨rfl, K106, A106⟩
            have E107 := E97.keep K106
            have E108 := E98.keep K106
            have F109 := F99.keep K106 (ninS ne79 nin0)
            have F110 := F100.keep K106 (ninS ne79 nin0)
            have F111 := F101.keep K106 (ninS ne79 nin0)
            have O112 := O102.keep K106
            have O113 := O103.keep K106 (allS ge77 all0)
            have Z114 : n0 ≤ h106.size := Nat.le_trans Z104 K106.1
            refine WP.castS (st' := []) rfl ?_
            refine WP.aload (pc' := 166) at_164 rfl rfl rfl ?_
            refine WP.callV (a := b67) (K := "com/example/takt/takt/store/AggregateChunk") (argsL := []) (rest := []) (wd := 0) (cl' := 2) (sl' := 29) (pc' := 169) at_166 rfl (wd50 hw) (wd51 hw) (nfS (wd53 hw) rfl) (wd53 hw) (wd52 hw) (wd32 hw) (wd54 hw) (by decide) E108 (m_emp hw b67 h106 n0 b77 (updV (updV (updV (fun _ => .null) i_t3 (.ref a_NONE)) i_t4 (.ref a_NONE)) i_t5 (.ref a_NONE)) F109 A106) pd_4 rfl rfl rfl (Nat.le_of_eq rfl) (by decide) (by decide) rfl rfl (by decide) (by decide) ?_
            rintro v hh115 ⟨⟨rfl, q115⟩ | ⟨rfl, q115⟩, he115⟩ <;> rw [he115]
            · exact absurd (q115 i_t5 (by omega)) (by simp [updV])
            · skip
              refine WP.castS (st' := [(.int (0 : Int32))]) rfl ?_
              refine WP.istore (pc' := 171) at_169 rfl (Ls' := #[.val (.long x0), .second, .val (.long x1), .second, .val (.int x2), .val (.int x3), .val (.int x4), .val (.int x5), .val (.long t1), .second, .val (.int t2), .val (.int t3), .val (.int t4), .val (.int t5), .val (.ref a_NONE), .val (.ref b67), .val (.int (1 : Int32)), .val (.int (0 : Int32))]) rfl ?_
              refine WP.iload (pc' := 173) at_171 rfl rfl ?_
              have hc173 : ¬ (1 : Int32) = (0 : Int32) := by decide
              refine WP.ifc_eq (pc1 := 195) (pc2 := 176) at_173 (by decide) (by decide) rfl (fun k => absurd k hc173) (fun _ => ?_)
              refine WP.iload (pc' := 178) at_176 rfl rfl ?_
              refine WP.iload (pc' := 180) at_178 rfl rfl ?_
              have hc180 : ¬ t2 = (0 : Int32) := fun q => hc104 (by rw [q]; decide)
              refine WP.ifc_ne (pc1 := 187) (pc2 := 183) at_180 (by decide) (by decide) rfl (fun _ => ?_) (fun k => absurd k hc180)
              refine WP.iconst (pc' := 188) at_187 rfl (z := 0) rfl ?_
              have hc188 : (0 : Int32) = (0 : Int32) := by decide
              refine WP.icmp_ne (pc1 := 195) (pc2 := 191) at_188 (by decide) (by decide) rfl (fun k => absurd hc188 k) (fun _ => ?_)
              refine WP.iconst (pc' := 192) at_191 rfl (z := 1) rfl ?_
              refine WP.goto (pc' := 196) at_192 (by decide) (by decide) ?_
              refine WP.nret (t := .boolean) at_196 rfl (by simp) rfl (by decide) (by decide) rfl
    · exact absurd rfl q84.choose_spec.2
theorem wd62 {Z : State} {a0 : Array Value} (hw : ∀ d ∈ tables_1, d.before a0 Z = true) : (Jvm.Cond.laysStatic "com/example/takt/takt/store/StoredAggregate" "NONE" "Lcom/example/takt/takt/store/StoredAggregate;").before a0 Z = true := hw _ (List.mem_of_getElem? (i := 62) rfl)
set_option maxRecDepth 65536 in
set_option maxHeartbeats 40000000 in
theorem comes_1 {Post : Tables → Env → Array Value → State → Outcome → State → Prop} (hpost : ∀ tb e args s v u, (limb_1_1.after args s (.returned v) u = true ∧ limb_1_2.after args s (.returned v) u = true ∧ True) → FrameEnd s (.returned v) u (Jvm.fieldLocs frame_1_writes args s ++ Jvm.arrayLocs frame_1_arrays args s ++ Jvm.staticLocs frame_1_statics s) 16 192 → Post tb e args s (.returned v) u) :
    ArmFor flags0 classFile x code maxLocals ret World_1 tables_1 room_1 Calls_1 rest_1 Pre_1 Post := by
  intro l hfl _ _ p e ha hc hk s m args below hf hA hF happ hP
  obtain ⟨hcalls, hrest, hpre⟩ := hP
  obtain ⟨-, -, -, hnamed, -, -, -, hat⟩ := (Spec.applies_iff hf).mp happ
  obtain ⟨hg, hn⟩ := and_e (Cond.before_iff.mp (show (Jvm.Cond.and given_1 narrow_1).before args s = true from hpre))
  obtain ⟨g1, g2⟩ := and_e hg
  obtain ⟨g3, g4⟩ := and_e g2
  obtain ⟨g5, g6⟩ := and_e g4
  obtain ⟨g7, g8⟩ := and_e g6
  obtain ⟨g9, g10⟩ := and_e g8
  obtain ⟨g11, g12⟩ := and_e g10
  obtain ⟨w0, w1, w2, w3, w4, w5, rfl⟩ : ∃ w0 w1 w2 w3 w4 w5 : Value, args = #[w0, w1, w2, w3, w4, w5] := by
    have hs : args.size = 6 := by simpa [Cond.value, given_1] using g1
    obtain ⟨L⟩ := args
    match L, hs with
    | [w0, w1, w2, w3, w4, w5], _ => exact ⟨w0, w1, w2, w3, w4, w5, rfl⟩
  have hw := fun d (hd : d ∈ tables_1) => atoms_spec (ws := Jvm.Cond.code x code maxLocals ret :: tables_1) hat d (List.mem_cons_of_mem _ hd)
  have hfit : Fit s := fun {y c} hc i hi => by
    obtain ⟨ha, rfl⟩ := Array.getElem?_eq_some_iff.mp hc
    have q := List.all_eq_true.mp ((Array.all_eq_true_iff_forall_mem.mp hF) _ (Array.getElem_mem ha)) i (List.mem_range.mpr hi)
    simpa [Array.getElem?_eq_getElem hi] using q
  obtain ⟨i0, ei0⟩ := isL_v g3
  obtain rfl : w0 = (.long i0) := Option.some.inj ei0
  obtain ⟨i1, ei1⟩ := isL_v g5
  obtain rfl : w1 = (.long i1) := Option.some.inj ei1
  obtain ⟨i2, ei2⟩ := is_v g7
  obtain rfl : w2 = (.int i2) := Option.some.inj ei2
  obtain ⟨i3, ei3⟩ := is_v g9
  obtain rfl : w3 = (.int i3) := Option.some.inj ei3
  obtain ⟨i4, ei4⟩ := is_v g11
  obtain rfl : w4 = (.int i4) := Option.some.inj ei4
  obtain ⟨i5, ei5⟩ := is_v g12
  obtain rfl : w5 = (.int i5) := Option.some.inj ei5
  obtain ⟨a_NONE, ev_NONE, S_NONE, E_NONE⟩ := Sta.of_exa hn (Or.inr ⟨(wd6 hw), (wd62 hw)⟩)
  obtain ⟨n, o, h1, h2, h3, _, L, rfl, ⟨rfl, N⟩, hq⟩ := rm0 (Z := s) hw i0 i1 i2 i3 i4 i5 s.heap s.heap.size (Nat.le_refl _) (Old.start s) a_NONE S_NONE E_NONE l tables_1 p e ha hc hk s m _ below hf ((Spec.applies_iff_loose hf).mp happ).1 ⟨rfl, State.Warmed39.refl s, rfl⟩ trivial
  refine ⟨n, _, h1, h2, h3, hpost _ _ _ _ _ _ ⟨Cond.after_iff.mpr rfl, Cond.after_iff.mpr (eq_i res_at (Term.int_eval (1)) rfl), trivial⟩ ⟨hq.1, hq.2.1, (hq.2.2.sift fun y hy => Or.inr (N y hy)).mono (by decide) (by decide)⟩⟩
theorem main_1_1 : Claimed_1_1 := comes_1 fun _ _ _ _ _ _ h hF => ⟨h.1, hF⟩
theorem main_1_2 : Claimed_1_2 := comes_1 fun _ _ _ _ _ _ h hF => ⟨h.2.1, hF⟩
end Jvm.Pilot.@@N@@
namespace Jvm.Pilot.@@N@@
open Jvm Jvm.ClassFile Sem Op Lib Jvm.Free Jvm.Stand Jvm.Pilot.@@N@@.Jvm.D
/-! MADE BY PROGRAM (witnessworld.py) out of the Statement's table words and the real class files: 11 classes; the members and pool entries that the words name. The judged class is class 1, her method 1. -/
namespace start1
open Jvm.ClassFile
def u (s : String) : CpInfo := .utf8 (stringToUtf16 s)
/-- a pool by its gaps: so many unusable entries, then the entry; so many at the end -/
def gap : Nat → List CpInfo → List CpInfo
  | 0, r => r
  | n + 1, r => .unusable :: gap n r
def poolList (es : List (Nat × CpInfo)) (last : Nat) : List CpInfo := es.foldr (fun e r => gap e.1 (e.2 :: r)) (gap last [])
def pool (es : List (Nat × CpInfo)) (last : Nat) : Array CpInfo := ⟨poolList es last⟩
def fileOf (pool : Array CpInfo) (this : Nat) (attrs : Array Attribute := #[]) (ms : Array MethodInfo := #[]) (fl : Nat := 33) (sup : Nat := 0) (ifs : Array Nat := #[]) (fds : Array FieldInfo := #[]) : ClassFile where
  minorVersion := 0
  majorVersion := 65
  constantPool := pool
  accessFlags := fl
  thisClass := this
  superClass := sup
  interfaces := ifs
  fields := fds
  methods := ms
  attributes := attrs
def plain (name : String) (sup : Option ClassId) : Class where
  name := name
  kind := .ordinary
  loader := none
  accessFlags := 33
  super := sup
  interfaces := #[]
  cf := none
  fields := #[]
  methods := #[]
  instanceTypes := #[]
  staticTypes := #[]
  resolved := #[]
  callSites := []
  init := .initialized
  statics := none
  mirror := none

def pool0 : Array CpInfo := pool [(5, u "<init>"), (0, u "()V"), (1, .class_ 10), (1, u "java/lang/Object")] 113

def k0c0 : Code := { maxStack := 0, maxLocals := 1, code := object_method_1_code, exceptionTable := #[], attributes := #[] }
def k0m0 : Method := { name := "<init>", desc := "()V", sig := { parameters := [], returnType := none }, accessFlags := 1, code := some k0c0 }
/-- java/lang/Object -/
def k0 : Class := { plain "java/lang/Object" none with
  accessFlags := 33
  interfaces := #[]
  cf := some (fileOf pool0 8 #[] #[{ accessFlags := 1, nameIndex := 5, descriptorIndex := 6, attributes := #[] }] 33 0 #[] #[])
  fields := #[]
  methods := #[k0m0]
  instanceTypes := #[]
  staticTypes := #[]
  resolved := Array.replicate 124 none
  statics := none }

def pool1 : Array CpInfo := pool [(2, .class_ 4), (1, u "java/lang/Object"), (0, u "<init>"), (0, u "()V"), (0, .long 288230376151711743), (1, .integer 2147483647), (0, .fieldref 11 12), (0, .class_ 13), (0, .nameAndType 14 15), (0, u "com/example/takt/takt/store/StoredAggregate"), (0, u "NONE"), (0, u "Lcom/example/takt/takt/store/StoredAggregate;"), (0, .double 4611686018427387904), (1, .double 4613937818241073152), (1, .methodref 11 21), (0, .nameAndType 22 23), (0, u "rounded"), (0, u "(JDDD)Lcom/example/takt/takt/store/StoredAggregate;"), (0, .class_ 25), (0, u "com/example/takt/takt/store/AggregateChunk"), (0, .methodref 24 27), (0, .nameAndType 5 28), (0, u "(JJ)V"), (0, .methodref 24 30), (0, .nameAndType 31 32), (0, u "isEmpty"), (0, u "()Z"), (0, .methodref 24 34), (0, .nameAndType 35 36), (0, u "put"), (0, u "(JLcom/example/takt/takt/store/StoredAggregate;)V"), (0, .class_ 38), (0, u "com/example/takt/takt/store/AggregateChunkIsEmptyPinLaw"), (2, u "law"), (0, u "(JJIIII)Z")] 3

def k1m0 : Method := { name := "<init>", desc := "()V", sig := { parameters := [], returnType := none }, accessFlags := 2, code := none }
def k1c1 : Code := { maxStack := 8, maxLocals := 18, code := code, exceptionTable := #[], attributes := #[] }
def k1m1 : Method := { name := "law", desc := "(JJIIII)Z", sig := { parameters := [.long, .long, .int, .int, .int, .int], returnType := some .boolean }, accessFlags := 9, code := some k1c1 }
/-- com/example/takt/takt/store/AggregateChunkIsEmptyPinLaw -/
def k1 : Class := { plain "com/example/takt/takt/store/AggregateChunkIsEmptyPinLaw" (some 0) with
  accessFlags := 49
  interfaces := #[]
  cf := some (fileOf pool1 37 #[] #[{ accessFlags := 2, nameIndex := 5, descriptorIndex := 6, attributes := #[] }, { accessFlags := 9, nameIndex := 41, descriptorIndex := 42, attributes := #[] }] 49 2 #[] #[])
  fields := #[]
  methods := #[k1m0, k1m1]
  instanceTypes := #[]
  staticTypes := #[]
  resolved := Array.replicate 46 none
  statics := none }

def pool2 : Array CpInfo := pool [(1, .methodref 2 3), (0, .class_ 4), (0, .nameAndType 5 6), (0, u "java/lang/Object"), (0, u "<init>"), (0, u "()V"), (0, .fieldref 8 9), (0, .class_ 10), (0, .nameAndType 11 12), (0, u "com/example/takt/takt/store/StoredAggregate"), (0, u "count"), (0, u "J"), (0, .fieldref 8 14), (0, .nameAndType 15 16), (0, u "min"), (0, u "D"), (0, .fieldref 8 18), (0, .nameAndType 19 16), (0, u "max"), (0, .fieldref 8 21), (0, .nameAndType 22 16), (0, u "sum"), (0, .fieldref 8 24), (0, .nameAndType 25 26), (0, u "exact"), (0, u "Z"), (0, .fieldref 8 28), (0, .nameAndType 29 30), (0, u "unscaled"), (0, u "Ljava/math/BigInteger;"), (0, .fieldref 8 32), (0, .nameAndType 33 34), (0, u "exponent"), (0, u "I"), (0, .methodref 8 36), (0, .nameAndType 5 37), (0, u "(JDDDZLjava/math/BigInteger;I)V"), (33, u "rounded"), (0, u "(JDDD)Lcom/example/takt/takt/store/StoredAggregate;"), (14, u "NONE"), (0, u "Lcom/example/takt/takt/store/StoredAggregate;")] 13

def k2c0 : Code := { maxStack := 3, maxLocals := 12, code := prog_85_method_1_code, exceptionTable := #[], attributes := #[] }
def k2m0 : Method := { name := "<init>", desc := "(JDDDZLjava/math/BigInteger;I)V", sig := { parameters := [.long, .double, .double, .double, .boolean, (.object "java/math/BigInteger"), .int], returnType := none }, accessFlags := 2, code := some k2c0 }
def k2c1 : Code := { maxStack := 13, maxLocals := 8, code := prog_85_method_4_code, exceptionTable := #[], attributes := #[] }
def k2m1 : Method := { name := "rounded", desc := "(JDDD)Lcom/example/takt/takt/store/StoredAggregate;", sig := { parameters := [.long, .double, .double, .double], returnType := some (.object "com/example/takt/takt/store/StoredAggregate") }, accessFlags := 8, code := some k2c1 }
/-- com/example/takt/takt/store/StoredAggregate -/
def k2 : Class := { plain "com/example/takt/takt/store/StoredAggregate" (some 0) with
  accessFlags := 32
  interfaces := #[]
  cf := some (fileOf pool2 8 #[] #[{ accessFlags := 2, nameIndex := 5, descriptorIndex := 37, attributes := #[] }, { accessFlags := 8, nameIndex := 71, descriptorIndex := 72, attributes := #[] }] 32 2 #[] #[{ accessFlags := 24, nameIndex := 87, descriptorIndex := 88, attributes := #[] }, { accessFlags := 18, nameIndex := 11, descriptorIndex := 12, attributes := #[] }, { accessFlags := 18, nameIndex := 15, descriptorIndex := 16, attributes := #[] }, { accessFlags := 18, nameIndex := 19, descriptorIndex := 16, attributes := #[] }, { accessFlags := 18, nameIndex := 22, descriptorIndex := 16, attributes := #[] }, { accessFlags := 18, nameIndex := 25, descriptorIndex := 26, attributes := #[] }, { accessFlags := 18, nameIndex := 29, descriptorIndex := 30, attributes := #[] }, { accessFlags := 18, nameIndex := 33, descriptorIndex := 34, attributes := #[] }])
  fields := #[{ name := "NONE", type := (.object "com/example/takt/takt/store/StoredAggregate"), accessFlags := 24, slot := 0, constantValue := 0 }, { name := "count", type := .long, accessFlags := 18, slot := 0, constantValue := 0 }, { name := "min", type := .double, accessFlags := 18, slot := 1, constantValue := 0 }, { name := "max", type := .double, accessFlags := 18, slot := 2, constantValue := 0 }, { name := "sum", type := .double, accessFlags := 18, slot := 3, constantValue := 0 }, { name := "exact", type := .boolean, accessFlags := 18, slot := 4, constantValue := 0 }, { name := "unscaled", type := (.object "java/math/BigInteger"), accessFlags := 18, slot := 5, constantValue := 0 }, { name := "exponent", type := .int, accessFlags := 18, slot := 6, constantValue := 0 }]
  methods := #[k2m0, k2m1]
  instanceTypes := #[.long, .double, .double, .double, .boolean, (.object "java/math/BigInteger"), .int]
  staticTypes := #[(.object "com/example/takt/takt/store/StoredAggregate")]
  resolved := Array.replicate 102 none
  statics := some 0 }

def pool3 : Array CpInfo := pool [(1, .methodref 2 3), (0, .class_ 4), (0, .nameAndType 5 6), (0, u "com/example/takt/takt/store/AggregateChunk"), (0, u "<init>"), (0, u "(JJZ)V"), (0, .methodref 8 9), (0, .class_ 10), (0, .nameAndType 5 11), (0, u "java/lang/Object"), (0, u "()V"), (0, .class_ 13), (0, u "com/example/takt/takt/store/StoredAggregate"), (0, .fieldref 2 15), (0, .nameAndType 16 17), (0, u "slices"), (0, u "[Lcom/example/takt/takt/store/StoredAggregate;"), (0, .fieldref 2 19), (0, .nameAndType 20 21), (0, u "startMillis"), (0, u "J"), (0, .fieldref 2 23), (0, .nameAndType 24 21), (0, u "widthMillis"), (0, .fieldref 2 26), (0, .nameAndType 27 28), (0, u "exactSums"), (0, u "Z"), (43, u "segments"), (0, u "I"), (3, u "()Z"), (5, .class_ 85), (1, u "com/example/takt/takt/store/AggregateChunk$SliceSink"), (1, u "(JLcom/example/takt/takt/store/StoredAggregate;)V"), (14, u "put"), (178, u "SLICES"), (2, u "SAME"), (1, u "NOT_KNOWN"), (1, u "WHOLE"), (1, u "DIFFERENCE"), (1, u "(JJ)V"), (6, u "isEmpty")] 19

def k3c0 : Code := { maxStack := 6, maxLocals := 5, code := prog_44_method_1_code, exceptionTable := #[], attributes := #[] }
def k3m0 : Method := { name := "<init>", desc := "(JJ)V", sig := { parameters := [.long, .long], returnType := none }, accessFlags := 0, code := some k3c0 }
def k3c1 : Code := { maxStack := 3, maxLocals := 6, code := prog_44_method_2_code, exceptionTable := #[], attributes := #[] }
def k3m1 : Method := { name := "<init>", desc := "(JJZ)V", sig := { parameters := [.long, .long, .boolean], returnType := none }, accessFlags := 2, code := some k3c1 }
def k3c2 : Code := { maxStack := 5, maxLocals := 4, code := prog_44_method_5_code, exceptionTable := #[], attributes := #[] }
def k3m2 : Method := { name := "put", desc := "(JLcom/example/takt/takt/store/StoredAggregate;)V", sig := { parameters := [.long, (.object "com/example/takt/takt/store/StoredAggregate")], returnType := none }, accessFlags := 0, code := some k3c2 }
def k3c3 : Code := { maxStack := 2, maxLocals := 6, code := prog_44_method_6_code, exceptionTable := #[], attributes := #[] }
def k3m3 : Method := { name := "isEmpty", desc := "()Z", sig := { parameters := [], returnType := some .boolean }, accessFlags := 0, code := some k3c3 }
/-- com/example/takt/takt/store/AggregateChunk -/
def k3 : Class := { plain "com/example/takt/takt/store/AggregateChunk" (some 0) with
  accessFlags := 32
  interfaces := #[]
  cf := some (fileOf pool3 2 #[.nestMembers #[83]] #[{ accessFlags := 0, nameIndex := 5, descriptorIndex := 292, attributes := #[] }, { accessFlags := 2, nameIndex := 5, descriptorIndex := 6, attributes := #[] }, { accessFlags := 0, nameIndex := 102, descriptorIndex := 87, attributes := #[] }, { accessFlags := 0, nameIndex := 299, descriptorIndex := 77, attributes := #[] }] 32 8 #[] #[{ accessFlags := 24, nameIndex := 281, descriptorIndex := 73, attributes := #[] }, { accessFlags := 26, nameIndex := 284, descriptorIndex := 73, attributes := #[] }, { accessFlags := 26, nameIndex := 286, descriptorIndex := 73, attributes := #[] }, { accessFlags := 26, nameIndex := 288, descriptorIndex := 73, attributes := #[] }, { accessFlags := 26, nameIndex := 290, descriptorIndex := 73, attributes := #[] }, { accessFlags := 18, nameIndex := 20, descriptorIndex := 21, attributes := #[] }, { accessFlags := 18, nameIndex := 24, descriptorIndex := 21, attributes := #[] }, { accessFlags := 18, nameIndex := 16, descriptorIndex := 17, attributes := #[] }, { accessFlags := 18, nameIndex := 27, descriptorIndex := 28, attributes := #[] }, { accessFlags := 2, nameIndex := 72, descriptorIndex := 73, attributes := #[] }])
  fields := #[{ name := "SLICES", type := .int, accessFlags := 24, slot := 0, constantValue := 0 }, { name := "SAME", type := .int, accessFlags := 26, slot := 1, constantValue := 0 }, { name := "NOT_KNOWN", type := .int, accessFlags := 26, slot := 2, constantValue := 0 }, { name := "WHOLE", type := .int, accessFlags := 26, slot := 3, constantValue := 0 }, { name := "DIFFERENCE", type := .int, accessFlags := 26, slot := 4, constantValue := 0 }, { name := "startMillis", type := .long, accessFlags := 18, slot := 0, constantValue := 0 }, { name := "widthMillis", type := .long, accessFlags := 18, slot := 1, constantValue := 0 }, { name := "slices", type := (.array (.object "com/example/takt/takt/store/StoredAggregate")), accessFlags := 18, slot := 2, constantValue := 0 }, { name := "exactSums", type := .boolean, accessFlags := 18, slot := 3, constantValue := 0 }, { name := "segments", type := .int, accessFlags := 2, slot := 4, constantValue := 0 }]
  methods := #[k3m0, k3m1, k3m2, k3m3]
  instanceTypes := #[.long, .long, (.array (.object "com/example/takt/takt/store/StoredAggregate")), .boolean, .int]
  staticTypes := #[.int, .int, .int, .int, .int]
  resolved := Array.replicate 319 none
  statics := none }

def pool4 : Array CpInfo := pool [(1, u "java/lang/Cloneable"), (0, .class_ 1), (0, u "java/lang/Object"), (0, .class_ 3)] 3

/-- java/lang/Cloneable -/
def k4 : Class := { plain "java/lang/Cloneable" (some 0) with
  accessFlags := 1537
  interfaces := #[]
  cf := some (fileOf pool4 2 #[] #[] 1537 4 #[] #[])
  fields := #[]
  methods := #[]
  instanceTypes := #[]
  staticTypes := #[]
  resolved := Array.replicate 8 none
  statics := none }

def pool5 : Array CpInfo := pool [(1, u "java/io/Serializable"), (0, .class_ 1), (0, u "java/lang/Object"), (0, .class_ 3)] 3

/-- java/io/Serializable -/
def k5 : Class := { plain "java/io/Serializable" (some 0) with
  accessFlags := 1537
  interfaces := #[]
  cf := some (fileOf pool5 2 #[] #[] 1537 4 #[] #[])
  fields := #[]
  methods := #[]
  instanceTypes := #[]
  staticTypes := #[]
  resolved := Array.replicate 8 none
  statics := none }

/-- the primitive byte -/
def k6 : Class := { plain "byte" none with kind := .primitive 'B', accessFlags := 0x411 }
/-- [B -/
def k7 : Class := { plain "[B" (some 0) with kind := .array 6 .byte, interfaces := #[4, 5], accessFlags := 1041 }

/-- the primitive int -/
def k8 : Class := { plain "int" none with kind := .primitive 'I', accessFlags := 0x411 }
/-- [I -/
def k9 : Class := { plain "[I" (some 0) with kind := .array 8 .int, interfaces := #[4, 5], accessFlags := 1041 }

/-- [Lcom/example/takt/takt/store/StoredAggregate; -/
def k10 : Class := { plain "[Lcom/example/takt/takt/store/StoredAggregate;" (some 0) with kind := .array 2 (.object "com/example/takt/takt/store/StoredAggregate"), interfaces := #[4, 5], accessFlags := 1041 }

def heap : Heap := #[{ cls := 2, slots := #[.ref 1], vm := .statics 2 },
  { cls := 2, slots := #[.long 0, .double 0, .double 0, .double 0, .int 0, .null, .int 0], vm := .none }]
def classes : Array Class := #[k0, k1, k2, k3, k4, k5, k6, k7, k8, k9, k10]
def interned : List (Array UInt16 × Addr) := []
def slotsUsed : Nat := 8
def theMethod : MethodId := ⟨1, 1⟩
def args0 : Array Value := #[.long 5, .long 5, .int 5, .int 5, .int 5, .int 5]
def aboutOver (below : List Frame) : State where
  vm := { classes := classes, interned := interned.toArray }
  heap := heap
  slotsUsed := slotsUsed
  threads := #[{ frames := .invoking theMethod args0 :: below }]
def below0 : List Frame := [.native { method := ⟨0, 0⟩, args := #[] }]
def about1 : State := aboutOver below0
def p0 : Program := .bare "" "" ""
def e0 : Env := launch0.env 0 0 0
theorem w_frames : about1.frames = Frame.invoking theMethod args0 :: below0 := rfl
set_option maxRecDepth 65536 in
theorem w_args : argsFit about1.vm theMethod args0 = true := by decide +kernel
set_option maxRecDepth 65536 in
theorem w_heap : heapFits about1 = true := by decide +kernel
set_option maxRecDepth 65536 in
theorem w_runnable : about1.curStatus? = some .runnable := by decide +kernel
set_option maxRecDepth 65536 in
theorem w_alone : about1.alone = true := by decide +kernel
set_option maxRecDepth 65536 in
theorem w_named : about1.methodNamed? x = some theMethod := by decide +kernel
set_option maxRecDepth 65536 in
theorem w_hears : about1.hears theMethod below0 = true := by decide +kernel
set_option maxRecDepth 65536 in
theorem w_ripe : about1.ripe theMethod args0 below0 = true := by decide +kernel
theorem w_running : about1.status = .running := rfl
set_option maxRecDepth 65536 in
theorem w_room : about1.hasRoom e0.platform room_1 = true :=
  launch0.hasRoom_least _ room_1 (by decide +kernel) (by decide +kernel) (by decide +kernel) (by decide +kernel) (by decide +kernel) (by decide +kernel)
theorem allAtoms_all (ts : List Jvm.Cond) (a : Array Jvm.Value) (st : Jvm.State) : (allAtoms ts).before a st = ts.all (fun c => c.before a st) := by
  induction ts with
  | nil => rfl
  | cons c t ih =>
    show (Jvm.Cond.and c (allAtoms t)).before a st = _
    rw [Jvm.Cond.before_and, ih, List.all_cons]
def words1 : List Jvm.Cond := Jvm.Cond.code x code maxLocals ret :: tables_1
/-- a 'code' word, met by the world's own term for the bytes: nothing is compared byte by byte -/
theorem code_word {y : MethodName} {bytes : ByteArray} {mx : Nat} {rt : Option FieldType} {a : Array Value} {s : State} {m : MethodId} {meth : Method} {c : Code} (h1 : s.methodNamed? y = some m) (h2 : s.vm.method? m = some meth) (h3 : meth.code = some c) (h4 : c.code = bytes)
    (h5 : (c.maxLocals == mx && c.exceptionTable.isEmpty && decide (c.maxStack ≤ mostOperands) && decide (meth.sig.returnType = rt) && !meth.locks && decide (parseMethodDescriptor y.desc = some meth.sig)) = true) : (Jvm.Cond.code y bytes mx rt).before a s = true := by
  simp only [Bool.and_eq_true, beq_iff_eq, Bool.not_eq_true', decide_eq_true_eq] at h5
  obtain ⟨⟨⟨⟨⟨g1, g2⟩, g3⟩, g4⟩, g5⟩, g6⟩ := h5
  simp [Cond.before, Cond.holds, Cond.value, h1, h2, h3, h4, g1, g2, g3, g4, g5, g6]
def isCode : Jvm.Cond → Bool
  | .code _ _ _ _ => true
  | _ => false
theorem all_split {L : List Jvm.Cond} {P : Jvm.Cond → Bool} (h1 : L.all (fun c => isCode c || P c) = true) (h2 : ∀ c ∈ L.filter isCode, P c = true) : L.all P = true := by
  refine List.all_eq_true.mpr fun c hc => ?_
  have h := List.all_eq_true.mp h1 c hc
  rcases Bool.eq_false_or_eq_true (isCode c) with hi | hi
  · exact h2 c (List.mem_filter.mpr ⟨hc, hi⟩)
  · simpa [hi] using h
set_option maxRecDepth 65536 in
theorem w_c0 : (Jvm.Cond.code x code maxLocals ret).before args0 about1 = true := code_word (m := ⟨1, 1⟩) (meth := k1m1) (c := k1c1) (by decide +kernel) rfl rfl rfl (by decide +kernel)
set_option maxRecDepth 65536 in
theorem w_c1 : (Jvm.Cond.code ({ cls := "com/example/takt/takt/store/StoredAggregate", name := "rounded", desc := "(JDDD)Lcom/example/takt/takt/store/StoredAggregate;" } : Jvm.MethodName) prog_85_method_4_code (8 : Nat) (Option.some (Jvm.ClassFile.FieldType.object "com/example/takt/takt/store/StoredAggregate"))).before args0 about1 = true := code_word (m := ⟨2, 1⟩) (meth := k2m1) (c := k2c1) (by decide +kernel) rfl rfl rfl (by decide +kernel)
set_option maxRecDepth 65536 in
theorem w_c2 : (Jvm.Cond.code ({ cls := "com/example/takt/takt/store/StoredAggregate", name := "<init>", desc := "(JDDDZLjava/math/BigInteger;I)V" } : Jvm.MethodName) prog_85_method_1_code (12 : Nat) (Option.none : Option Jvm.ClassFile.FieldType)).before args0 about1 = true := code_word (m := ⟨2, 0⟩) (meth := k2m0) (c := k2c0) (by decide +kernel) rfl rfl rfl (by decide +kernel)
set_option maxRecDepth 65536 in
theorem w_c3 : (Jvm.Cond.code ({ cls := "java/lang/Object", name := "<init>", desc := "()V" } : Jvm.MethodName) object_method_1_code (1 : Nat) (Option.none : Option Jvm.ClassFile.FieldType)).before args0 about1 = true := code_word (m := ⟨0, 0⟩) (meth := k0m0) (c := k0c0) (by decide +kernel) rfl rfl rfl (by decide +kernel)
set_option maxRecDepth 65536 in
theorem w_c4 : (Jvm.Cond.code ({ cls := "com/example/takt/takt/store/AggregateChunk", name := "<init>", desc := "(JJ)V" } : Jvm.MethodName) prog_44_method_1_code (5 : Nat) (Option.none : Option Jvm.ClassFile.FieldType)).before args0 about1 = true := code_word (m := ⟨3, 0⟩) (meth := k3m0) (c := k3c0) (by decide +kernel) rfl rfl rfl (by decide +kernel)
set_option maxRecDepth 65536 in
theorem w_c5 : (Jvm.Cond.code ({ cls := "com/example/takt/takt/store/AggregateChunk", name := "<init>", desc := "(JJZ)V" } : Jvm.MethodName) prog_44_method_2_code (6 : Nat) (Option.none : Option Jvm.ClassFile.FieldType)).before args0 about1 = true := code_word (m := ⟨3, 1⟩) (meth := k3m1) (c := k3c1) (by decide +kernel) rfl rfl rfl (by decide +kernel)
set_option maxRecDepth 65536 in
theorem w_c6 : (Jvm.Cond.code ({ cls := "com/example/takt/takt/store/AggregateChunk", name := "isEmpty", desc := "()Z" } : Jvm.MethodName) prog_44_method_6_code (6 : Nat) (Option.some Jvm.ClassFile.FieldType.boolean)).before args0 about1 = true := code_word (m := ⟨3, 3⟩) (meth := k3m3) (c := k3c3) (by decide +kernel) rfl rfl rfl (by decide +kernel)
set_option maxRecDepth 65536 in
theorem w_c7 : (Jvm.Cond.code ({ cls := "com/example/takt/takt/store/AggregateChunk", name := "put", desc := "(JLcom/example/takt/takt/store/StoredAggregate;)V" } : Jvm.MethodName) prog_44_method_5_code (4 : Nat) (Option.none : Option Jvm.ClassFile.FieldType)).before args0 about1 = true := code_word (m := ⟨3, 2⟩) (meth := k3m2) (c := k3c2) (by decide +kernel) rfl rfl rfl (by decide +kernel)
def codes1 : List Jvm.Cond := [Jvm.Cond.code x code maxLocals ret, Jvm.Cond.code ({ cls := "com/example/takt/takt/store/StoredAggregate", name := "rounded", desc := "(JDDD)Lcom/example/takt/takt/store/StoredAggregate;" } : Jvm.MethodName) prog_85_method_4_code (8 : Nat) (Option.some (Jvm.ClassFile.FieldType.object "com/example/takt/takt/store/StoredAggregate")), Jvm.Cond.code ({ cls := "com/example/takt/takt/store/StoredAggregate", name := "<init>", desc := "(JDDDZLjava/math/BigInteger;I)V" } : Jvm.MethodName) prog_85_method_1_code (12 : Nat) (Option.none : Option Jvm.ClassFile.FieldType), Jvm.Cond.code ({ cls := "java/lang/Object", name := "<init>", desc := "()V" } : Jvm.MethodName) object_method_1_code (1 : Nat) (Option.none : Option Jvm.ClassFile.FieldType), Jvm.Cond.code ({ cls := "com/example/takt/takt/store/AggregateChunk", name := "<init>", desc := "(JJ)V" } : Jvm.MethodName) prog_44_method_1_code (5 : Nat) (Option.none : Option Jvm.ClassFile.FieldType), Jvm.Cond.code ({ cls := "com/example/takt/takt/store/AggregateChunk", name := "<init>", desc := "(JJZ)V" } : Jvm.MethodName) prog_44_method_2_code (6 : Nat) (Option.none : Option Jvm.ClassFile.FieldType), Jvm.Cond.code ({ cls := "com/example/takt/takt/store/AggregateChunk", name := "isEmpty", desc := "()Z" } : Jvm.MethodName) prog_44_method_6_code (6 : Nat) (Option.some Jvm.ClassFile.FieldType.boolean), Jvm.Cond.code ({ cls := "com/example/takt/takt/store/AggregateChunk", name := "put", desc := "(JLcom/example/takt/takt/store/StoredAggregate;)V" } : Jvm.MethodName) prog_44_method_5_code (4 : Nat) (Option.none : Option Jvm.ClassFile.FieldType)]
set_option maxRecDepth 65536 in
theorem codes_eq : words1.filter isCode = codes1 := rfl
theorem w_codes : ∀ c ∈ words1.filter isCode, c.before args0 about1 = true := by
  rw [codes_eq]
  intro c hc
  simp only [codes1, List.mem_cons, List.not_mem_nil, or_false] at hc
  rcases hc with rfl | rfl | rfl | rfl | rfl | rfl | rfl | rfl
  · exact w_c0
  · exact w_c1
  · exact w_c2
  · exact w_c3
  · exact w_c4
  · exact w_c5
  · exact w_c6
  · exact w_c7
set_option maxRecDepth 65536 in
theorem w_t1 : (words1.take 24).all (fun c => isCode c || c.before args0 about1) = true := by decide +kernel
set_option maxRecDepth 65536 in
theorem w_t2 : ((words1.drop 24).take 24).all (fun c => isCode c || c.before args0 about1) = true := by decide +kernel
set_option maxRecDepth 65536 in
theorem w_t3 : ((words1.drop 24).drop 24).all (fun c => isCode c || c.before args0 about1) = true := by decide +kernel
theorem w_tables : (allAtoms (Jvm.Cond.code x code maxLocals ret :: tables_1)).before args0 about1 = true := by
  rw [allAtoms_all]
  show words1.all (fun c => c.before args0 about1) = true
  refine all_split ?_ w_codes
  rw [← List.take_append_drop 24 words1, List.all_append, w_t1, ← List.take_append_drop 24 (words1.drop 24), List.all_append, w_t2, w_t3]
  rfl
set_option maxRecDepth 65536 in
theorem w_case : (Jvm.Cond.and given_1 narrow_1).before args0 about1 = true := by decide +kernel
theorem w_applies : (headSpec (Jvm.Cond.code x code maxLocals ret :: tables_1) room_1).applies x e0.platform about1 = true :=
  (Spec.applies_iff w_frames).mpr ⟨w_running, w_runnable, w_alone, w_named, w_hears, w_ripe, w_room, w_tables⟩
theorem atStart : AtStart classFile x code maxLocals ret World_1 tables_1 room_1 Calls_1 rest_1 Pre_1 launch0 p0 e0 about1 theMethod args0 below0 :=
  ⟨lists_1, trivial, launch0.admits_env _ _ _, launch0.least_env, fairChoices_fair.cas, fairChoices_fair.clock, w_frames, w_args, w_heap, w_applies, trivial, trivial, w_case⟩
end start1
theorem witness_1 : WitnessClaimed_1 := ⟨start1.p0, start1.e0, start1.about1, start1.theMethod, start1.args0, start1.below0, start1.atStart⟩
end Jvm.Pilot.@@N@@
