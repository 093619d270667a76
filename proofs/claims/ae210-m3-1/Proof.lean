import JvmDerived
import JvmDerived.Pilot.@@N@@Statement
import JvmDerived.Pilot.@@N@@Code
set_option linter.unusedVariables false
set_option linter.unusedSimpArgs false
namespace Jvm.WK
open Jvm Sem ClassFile Op Lib Jvm.Free Jvm.Stand Jvm.LawKit Jvm.RoadKit
/-- the fixed surroundings of a walk: program, launch, environment, first state, method, arguments, frames below, method record, code record -/
abbrev Cx := Program × Launch × Env × State × MethodId × Array Value × List Frame × Method × Code
/-- FROM HERE THE BODY RUNS TO ITS RETURN, AND WHAT IT LEAVES MEETS Q: h the heap here, pc, Ls, st the top frame; cl, sl: what was made so far; only cells from n0 on are written. -/
def WP (C : Cx) (Z : State) (code : ByteArray) (ml : Nat) (own : String) (rt : Option FieldType) (nm : String) (R : Room) (n0 : Nat) (Q : Option Value → Heap → Prop) (cl sl : Nat) (h : Heap) (pc : Nat) (Ls : Array Slot) (st : List Value) : Prop :=
  C.1.tables.exec = Jvm.exec → C.2.2.2.2.2.2.2.2.code = code → C.2.2.2.2.2.2.2.2.maxLocals = ml → C.2.2.2.1.vm.findClass own = some C.2.2.2.2.1.cls → Z.Warmed39 C.2.2.2.1.vm → C.2.2.2.2.2.2.2.1.sig.returnType = rt → C.2.2.2.2.2.2.2.1.locks = false → C.2.2.2.2.2.2.2.1.name = nm →
  ∀ (T : State) (locs : List Loc), Stand C.1 C.2.1 C.2.2.1 R C.2.2.2.1 C.2.2.2.2.1 C.2.2.2.2.2.1 C.2.2.2.2.2.2.1 C.2.2.2.2.2.2.2.1 C.2.2.2.2.2.2.2.2 T locs cl sl → T.heap = h → Fr n0 locs →
    ∃ (s₂ : State) (v : Option Value) (L : List Loc), Steps C.1.tables C.2.2.1 C.2.2.2.2.2.2.1 (T.setTop (mkF C.2.2.2.2.1 pc Ls st)) s₂ ∧ s₂.status = .running ∧ Ended s₂ C.2.2.2.2.2.2.1 (.returned v) ∧ Q v s₂.heap ∧ Fr n0 L ∧ FrameEnd C.2.2.2.1 (.returned v) s₂ L R.cells R.slots
/-- WHAT A METHOD DOES FROM THE HEAP h0 WITH THE ARGUMENTS a -/
def Does (l : Launch) (Z : State) (y : MethodName) (code : ByteArray) (ml : Nat) (rt : Option FieldType) (R : Room) (n0 : Nat) (as' : Array Value) (h0 : Heap) (Q : Option Value → Heap → Prop) : Prop :=
  ∀ ws : List Jvm.Cond, MetFree l y (head1 (Jvm.Cond.code y code ml rt :: ws) R) (fun a U => a = as' ∧ Z.Warmed39 U.vm ∧ U.heap = h0) (fun _ _ _ _ _ => True)
    (fun _ U o U' => ∃ v L, o = .returned v ∧ (Q v U'.heap ∧ Fr n0 L) ∧ FrameEnd U o U' L R.cells R.slots)
theorem Does.of_wp {l : Launch} {Z : State} {y : MethodName} {code : ByteArray} {ml : Nat} {rt : Option FieldType} {R : Room} {n0 : Nat} {as' : Array Value} {h0 : Heap} {Q : Option Value → Heap → Prop} (hpl : plainFor y = true) {Ls : Array Slot} (hef : ∀ m, entryFrame m as' ml = mkF m 0 Ls [])
    (hW : ∀ C : Cx, WP C Z code ml y.cls rt y.name R n0 Q 0 0 h0 0 Ls []) : Does l Z y code ml rt R n0 as' h0 Q := by
  intro ws
  refine MetFree.of_bodySF hpl hisR ?_
  intro p e s m args below meth c s₁ Bd hml0 hP hK
  obtain ⟨rfl, hZ, hh⟩ := hP
  have X0 : Stand p l e R s m args below meth c s₁ [] 0 0 := Stand.of_body Bd
  have e0 : s₁.heap = h0 := by rw [← hh, Bd.state]; rfl
  obtain ⟨s₂, v, L, h1, h2, h3, h4, h5, h6⟩ := hW (p, l, e, s, m, args, below, meth, c) Bd.exec Bd.bytes hml0 (findClass_of_methodNamed Bd.named) hZ Bd.returns Bd.notSynchronized (name_of_methodNamed Bd.named Bd.method).1 s₁ [] X0 e0 (Fr.nil n0)
  exact ⟨s₂, _, castTop (hef m) h1, h2, h3, v, L, rfl, ⟨h4, h5⟩, h6⟩
section Rules
variable {C : Cx} {Z : State} {code : ByteArray} {ml : Nat} {own : String} {rt : Option FieldType} {nm : String} {R : Room} {n0 : Nat} {Q : Option Value → Heap → Prop} {cl sl : Nat} {h : Heap} {pc pc' : Nat} {Ls Ls' : Array Slot} {st st' : List Value} {a0 : Array Value}
theorem WP.step {cl' sl' : Nat} {h' : Heap} (f : ∀ {p : Program} {l : Launch} {e : Env} {s : State} {m : MethodId} {args : Array Value} {below : List Frame} {meth : Method} {c : Code} {T : State} {locs : List Loc}, Stand p l e R s m args below meth c T locs cl sl → p.tables.exec = Jvm.exec → c.code = code → c.maxLocals = ml → s.vm.findClass own = some m.cls → Z.Warmed39 s.vm → meth.name = nm → T.heap = h → Fr n0 locs →
      ∃ T' locs', Stand p l e R s m args below meth c T' locs' cl' sl' ∧ T'.heap = h' ∧ Fr n0 locs' ∧ ∀ t, Steps p.tables e below (T'.setTop (mkF m pc' Ls' st')) t → Steps p.tables e below (T.setTop (mkF m pc Ls st)) t)
    (hr : WP C Z code ml own rt nm R n0 Q cl' sl' h' pc' Ls' st') : WP C Z code ml own rt nm R n0 Q cl sl h pc Ls st := by
  intro k1 k2 k3 k4 k5 k6 k7 k8 T locs X e N
  obtain ⟨T', locs', X', e', N', k⟩ := f X k1 k2 k3 k4 k5 k8 e N
  obtain ⟨s₂, v, L, h1, h2⟩ := hr k1 k2 k3 k4 k5 k6 k7 k8 T' locs' X' e' N'
  exact ⟨s₂, v, L, k _ h1, h2⟩
theorem WP.pure (f : ∀ {p : Program} {l : Launch} {e : Env} {s : State} {m : MethodId} {args : Array Value} {below : List Frame} {meth : Method} {c : Code} {T : State} {locs : List Loc}, Stand p l e R s m args below meth c T locs cl sl → p.tables.exec = Jvm.exec → c.code = code → s.vm.findClass own = some m.cls → Z.Warmed39 s.vm → T.heap = h →
      ∀ t, Steps p.tables e below (T.setTop (mkF m pc' Ls' st')) t → Steps p.tables e below (T.setTop (mkF m pc Ls st)) t)
    (hr : WP C Z code ml own rt nm R n0 Q cl sl h pc' Ls' st') : WP C Z code ml own rt nm R n0 Q cl sl h pc Ls st :=
  WP.step (fun X hx hc _ ho hZ _ e N => ⟨_, _, X, e, N, f X hx hc ho hZ e⟩) hr
/-- the heap's name may be turned -/
theorem WP.cast {h' : Heap} (e : h = h') (hr : WP C Z code ml own rt nm R n0 Q cl sl h' pc Ls st) : WP C Z code ml own rt nm R n0 Q cl sl h pc Ls st := e ▸ hr
theorem WP.castS (e : st = st') (hr : WP C Z code ml own rt nm R n0 Q cl sl h pc Ls st') : WP C Z code ml own rt nm R n0 Q cl sl h pc Ls st := e ▸ hr
theorem WP.castL (e : Ls = Ls') (hr : WP C Z code ml own rt nm R n0 Q cl sl h pc Ls' st) : WP C Z code ml own rt nm R n0 Q cl sl h pc Ls st := e ▸ hr
theorem WP.more {cl' sl' : Nat} (h1 : cl ≤ cl') (h2 : sl ≤ sl') (hr : WP C Z code ml own rt nm R n0 Q cl' sl' h pc Ls st) : WP C Z code ml own rt nm R n0 Q cl sl h pc Ls st := by
  intro k1 k2 k3 k4 k5 k6 k7 k8 T locs X e N
  exact hr k1 k2 k3 k4 k5 k6 k7 k8 T locs ⟨X.admits, X.cas, X.clock, X.frames, X.room, X.hears, X.method, X.code, X.here, X.tail, X.warmed, X.limits, X.bytes, X.same.mono h1 h2⟩ e N
theorem WP.iloadN {k : Fin 4} {v : Int32} (hd : decode code pc = .ok (.iload_n k, 1)) (hp : pc + 1 = pc') (hl : Ls[k.val]? = some (.val (.int v))) (hr : WP C Z code ml own rt nm R n0 Q cl sl h pc' Ls (.int v :: st)) : WP C Z code ml own rt nm R n0 Q cl sl h pc Ls st := by
  subst hp
  exact hr.pure fun X hx hby hown hZ eT t q => XS.iloadN X.here hx rfl (hb hby hd) hl q
theorem WP.iload {k : Nat} {v : Int32} (hd : decode code pc = .ok (.iload k, 2)) (hp : pc + 2 = pc') (hl : Ls[k]? = some (.val (.int v))) (hr : WP C Z code ml own rt nm R n0 Q cl sl h pc' Ls (.int v :: st)) : WP C Z code ml own rt nm R n0 Q cl sl h pc Ls st := by
  subst hp
  exact hr.pure fun X hx hby hown hZ eT t q => XS.iload X.here hx rfl (hb hby hd) hl q
theorem WP.lloadN {k : Fin 4} {v : Int64} (hd : decode code pc = .ok (.lload_n k, 1)) (hp : pc + 1 = pc') (hl : Ls[k.val]? = some (.val (.long v))) (hr : WP C Z code ml own rt nm R n0 Q cl sl h pc' Ls (.long v :: st)) : WP C Z code ml own rt nm R n0 Q cl sl h pc Ls st := by
  subst hp
  exact hr.pure fun X hx hby hown hZ eT t q => XS.lloadN X.here hx rfl (hb hby hd) hl q
theorem WP.lload {k : Nat} {v : Int64} (hd : decode code pc = .ok (.lload k, 2)) (hp : pc + 2 = pc') (hl : Ls[k]? = some (.val (.long v))) (hr : WP C Z code ml own rt nm R n0 Q cl sl h pc' Ls (.long v :: st)) : WP C Z code ml own rt nm R n0 Q cl sl h pc Ls st := by
  subst hp
  exact hr.pure fun X hx hby hown hZ eT t q => XS.lload X.here hx rfl (hb hby hd) hl q
theorem WP.dloadN {k : Fin 4} {v : UInt64} (hd : decode code pc = .ok (.dload_n k, 1)) (hp : pc + 1 = pc') (hl : Ls[k.val]? = some (.val (.double v))) (hr : WP C Z code ml own rt nm R n0 Q cl sl h pc' Ls (.double v :: st)) : WP C Z code ml own rt nm R n0 Q cl sl h pc Ls st := by
  subst hp
  exact hr.pure fun X hx hby hown hZ eT t q => XS.dloadN X.here hx rfl (hb hby hd) hl q
theorem WP.dload {k : Nat} {v : UInt64} (hd : decode code pc = .ok (.dload k, 2)) (hp : pc + 2 = pc') (hl : Ls[k]? = some (.val (.double v))) (hr : WP C Z code ml own rt nm R n0 Q cl sl h pc' Ls (.double v :: st)) : WP C Z code ml own rt nm R n0 Q cl sl h pc Ls st := by
  subst hp
  exact hr.pure fun X hx hby hown hZ eT t q => XS.dload X.here hx rfl (hb hby hd) hl q
theorem WP.aloadN {k : Fin 4} {v : Value} (hd : decode code pc = .ok (.aload_n k, 1)) (hp : pc + 1 = pc') (hl : Ls[k.val]? = some (.val v)) (hv : v.isRef = true) (hr : WP C Z code ml own rt nm R n0 Q cl sl h pc' Ls (v :: st)) : WP C Z code ml own rt nm R n0 Q cl sl h pc Ls st := by
  subst hp
  exact hr.pure fun X hx hby hown hZ eT t q => XS.aloadN X.here hx rfl (hb hby hd) hl hv q
theorem WP.aload {k : Nat} {v : Value} (hd : decode code pc = .ok (.aload k, 2)) (hp : pc + 2 = pc') (hl : Ls[k]? = some (.val v)) (hv : v.isRef = true) (hr : WP C Z code ml own rt nm R n0 Q cl sl h pc' Ls (v :: st)) : WP C Z code ml own rt nm R n0 Q cl sl h pc Ls st := by
  subst hp
  exact hr.pure fun X hx hby hown hZ eT t q => XS.aload X.here hx rfl (hb hby hd) hl hv q
theorem WP.istoreN {k : Fin 4} {v : Int32} (hd : decode code pc = .ok (.istore_n k, 1)) (hp : pc + 1 = pc') (hl : storeLocals Ls k.val (.int v) = some Ls') (hr : WP C Z code ml own rt nm R n0 Q cl sl h pc' Ls' st) : WP C Z code ml own rt nm R n0 Q cl sl h pc Ls (.int v :: st) := by
  subst hp
  exact hr.pure fun X hx hby hown hZ eT t q => XS.istoreN X.here hx rfl (hb hby hd) rfl hl q
theorem WP.istore {k : Nat} {v : Int32} (hd : decode code pc = .ok (.istore k, 2)) (hp : pc + 2 = pc') (hl : storeLocals Ls k (.int v) = some Ls') (hr : WP C Z code ml own rt nm R n0 Q cl sl h pc' Ls' st) : WP C Z code ml own rt nm R n0 Q cl sl h pc Ls (.int v :: st) := by
  subst hp
  exact hr.pure fun X hx hby hown hZ eT t q => XS.istore X.here hx rfl (hb hby hd) rfl hl q
theorem WP.lstoreN {k : Fin 4} {v : Int64} (hd : decode code pc = .ok (.lstore_n k, 1)) (hp : pc + 1 = pc') (hl : storeLocals Ls k.val (.long v) = some Ls') (hr : WP C Z code ml own rt nm R n0 Q cl sl h pc' Ls' st) : WP C Z code ml own rt nm R n0 Q cl sl h pc Ls (.long v :: st) := by
  subst hp
  exact hr.pure fun X hx hby hown hZ eT t q => XS.lstoreN X.here hx rfl (hb hby hd) rfl hl q
theorem WP.lstore {k : Nat} {v : Int64} (hd : decode code pc = .ok (.lstore k, 2)) (hp : pc + 2 = pc') (hl : storeLocals Ls k (.long v) = some Ls') (hr : WP C Z code ml own rt nm R n0 Q cl sl h pc' Ls' st) : WP C Z code ml own rt nm R n0 Q cl sl h pc Ls (.long v :: st) := by
  subst hp
  exact hr.pure fun X hx hby hown hZ eT t q => XS.lstore X.here hx rfl (hb hby hd) rfl hl q
theorem WP.dstoreN {k : Fin 4} {v : UInt64} (hd : decode code pc = .ok (.dstore_n k, 1)) (hp : pc + 1 = pc') (hl : storeLocals Ls k.val (.double v) = some Ls') (hr : WP C Z code ml own rt nm R n0 Q cl sl h pc' Ls' st) : WP C Z code ml own rt nm R n0 Q cl sl h pc Ls (.double v :: st) := by
  subst hp
  exact hr.pure fun X hx hby hown hZ eT t q => XS.dstoreN X.here hx rfl (hb hby hd) rfl hl q
theorem WP.dstore {k : Nat} {v : UInt64} (hd : decode code pc = .ok (.dstore k, 2)) (hp : pc + 2 = pc') (hl : storeLocals Ls k (.double v) = some Ls') (hr : WP C Z code ml own rt nm R n0 Q cl sl h pc' Ls' st) : WP C Z code ml own rt nm R n0 Q cl sl h pc Ls (.double v :: st) := by
  subst hp
  exact hr.pure fun X hx hby hown hZ eT t q => XS.dstore X.here hx rfl (hb hby hd) rfl hl q
theorem WP.astoreN {k : Fin 4} {v : Value} (hd : decode code pc = .ok (.astore_n k, 1)) (hp : pc + 1 = pc') (hv : v.isRef = true) (hl : storeLocals Ls k.val v = some Ls') (hr : WP C Z code ml own rt nm R n0 Q cl sl h pc' Ls' st) : WP C Z code ml own rt nm R n0 Q cl sl h pc Ls (v :: st) := by
  subst hp
  exact hr.pure fun X hx hby hown hZ eT t q => XS.astoreN X.here hx rfl (hb hby hd) rfl hv hl q
theorem WP.astore {k : Nat} {v : Value} (hd : decode code pc = .ok (.astore k, 2)) (hp : pc + 2 = pc') (hv : v.isRef = true) (hl : storeLocals Ls k v = some Ls') (hr : WP C Z code ml own rt nm R n0 Q cl sl h pc' Ls' st) : WP C Z code ml own rt nm R n0 Q cl sl h pc Ls (v :: st) := by
  subst hp
  exact hr.pure fun X hx hby hown hZ eT t q => XS.astore X.here hx rfl (hb hby hd) rfl hv hl q
theorem WP.iconst {i : Int} {z : Int32} (hd : decode code pc = .ok (.iconst i, 1)) (hp : pc + 1 = pc') (hz : Int32.ofInt i = z) (hr : WP C Z code ml own rt nm R n0 Q cl sl h pc' Ls (.int z :: st)) : WP C Z code ml own rt nm R n0 Q cl sl h pc Ls st := by
  subst hp
  subst hz
  exact hr.pure fun X hx hby hown hZ eT t q => XS.iconst X.here hx rfl (hb hby hd) q
theorem WP.bipush {i : Int} {z : Int32} (hd : decode code pc = .ok (.bipush i, 2)) (hp : pc + 2 = pc') (hz : (Int8.ofInt i).toInt32 = z) (hr : WP C Z code ml own rt nm R n0 Q cl sl h pc' Ls (.int z :: st)) : WP C Z code ml own rt nm R n0 Q cl sl h pc Ls st := by
  subst hp
  subst hz
  exact hr.pure fun X hx hby hown hZ eT t q => XS.bipush X.here hx rfl (hb hby hd) q
theorem WP.sipush {i : Int} {z : Int32} (hd : decode code pc = .ok (.sipush i, 3)) (hp : pc + 3 = pc') (hz : (Int16.ofInt i).toInt32 = z) (hr : WP C Z code ml own rt nm R n0 Q cl sl h pc' Ls (.int z :: st)) : WP C Z code ml own rt nm R n0 Q cl sl h pc Ls st := by
  subst hp
  subst hz
  exact hr.pure fun X hx hby hown hZ eT t q => XS.sipush X.here hx rfl (hb hby hd) q
theorem WP.lconst {k : Fin 2} {z : Int64} (hd : decode code pc = .ok (.lconst k, 1)) (hp : pc + 1 = pc') (hz : Int64.ofNat k = z) (hr : WP C Z code ml own rt nm R n0 Q cl sl h pc' Ls (.long z :: st)) : WP C Z code ml own rt nm R n0 Q cl sl h pc Ls st := by
  subst hp
  subst hz
  exact hr.pure fun X hx hby hown hZ eT t q => XS.lconst X.here hx rfl (hb hby hd) q
theorem WP.aconstNull  (hd : decode code pc = .ok (.aconst_null, 1)) (hp : pc + 1 = pc') (hr : WP C Z code ml own rt nm R n0 Q cl sl h pc' Ls (.null :: st)) : WP C Z code ml own rt nm R n0 Q cl sl h pc Ls st := by
  subst hp
  exact hr.pure fun X hx hby hown hZ eT t q => XS.aconstNull X.here hx rfl (hb hby hd) q
theorem WP.ldcI {i : Nat} {v : Int32} (hd : decode code pc = .ok (.ldc i, 2)) (hp : pc + 2 = pc') (w : (Jvm.Cond.constant own i v).before a0 Z = true) (hr : WP C Z code ml own rt nm R n0 Q cl sl h pc' Ls (.int v :: st)) : WP C Z code ml own rt nm R n0 Q cl sl h pc Ls st := by
  subst hp
  exact hr.pure fun X hx hby hown hZ eT t q => X.ldcInt hx hown (mvT hZ w) (g := mkF _ pc Ls st) rfl (hb hby hd) t q
theorem WP.ldcWI {i : Nat} {v : Int32} (hd : decode code pc = .ok (.ldc_w i, 3)) (hp : pc + 3 = pc') (w : (Jvm.Cond.constant own i v).before a0 Z = true) (hr : WP C Z code ml own rt nm R n0 Q cl sl h pc' Ls (.int v :: st)) : WP C Z code ml own rt nm R n0 Q cl sl h pc Ls st := by
  subst hp
  exact hr.pure fun X hx hby hown hZ eT t q => X.ldcWInt hx hown (mvT hZ w) (g := mkF _ pc Ls st) rfl (hb hby hd) t q
theorem WP.ldc2J {i : Nat} {v : Int64} (hd : decode code pc = .ok (.ldc2_w i, 3)) (hp : pc + 3 = pc') (w : (Jvm.Cond.constantLong own i v).before a0 Z = true) (hr : WP C Z code ml own rt nm R n0 Q cl sl h pc' Ls (.long v :: st)) : WP C Z code ml own rt nm R n0 Q cl sl h pc Ls st := by
  subst hp
  exact hr.pure fun X hx hby hown hZ eT t q => X.ldc2Long hx hown (mvT hZ w) (g := mkF _ pc Ls st) rfl (hb hby hd) t q
theorem WP.iadd {x y : Int32} (hd : decode code pc = .ok (.iadd, 1)) (hp : pc + 1 = pc') (hr : WP C Z code ml own rt nm R n0 Q cl sl h pc' Ls (.int (x + y) :: st)) : WP C Z code ml own rt nm R n0 Q cl sl h pc Ls (.int y :: .int x :: st) := by
  subst hp
  exact hr.pure fun X hx hby hown hZ eT t q => XS.iadd X.here hx rfl (hb hby hd) rfl q
theorem WP.isub {x y : Int32} (hd : decode code pc = .ok (.isub, 1)) (hp : pc + 1 = pc') (hr : WP C Z code ml own rt nm R n0 Q cl sl h pc' Ls (.int (x - y) :: st)) : WP C Z code ml own rt nm R n0 Q cl sl h pc Ls (.int y :: .int x :: st) := by
  subst hp
  exact hr.pure fun X hx hby hown hZ eT t q => XS.isub X.here hx rfl (hb hby hd) rfl q
theorem WP.imul {x y : Int32} (hd : decode code pc = .ok (.imul, 1)) (hp : pc + 1 = pc') (hr : WP C Z code ml own rt nm R n0 Q cl sl h pc' Ls (.int (x * y) :: st)) : WP C Z code ml own rt nm R n0 Q cl sl h pc Ls (.int y :: .int x :: st) := by
  subst hp
  exact hr.pure fun X hx hby hown hZ eT t q => XS.imul X.here hx rfl (hb hby hd) rfl q
theorem WP.iand {x y : Int32} (hd : decode code pc = .ok (.iand, 1)) (hp : pc + 1 = pc') (hr : WP C Z code ml own rt nm R n0 Q cl sl h pc' Ls (.int (x &&& y) :: st)) : WP C Z code ml own rt nm R n0 Q cl sl h pc Ls (.int y :: .int x :: st) := by
  subst hp
  exact hr.pure fun X hx hby hown hZ eT t q => XS.iand X.here hx rfl (hb hby hd) rfl q
theorem WP.ior {x y : Int32} (hd : decode code pc = .ok (.ior, 1)) (hp : pc + 1 = pc') (hr : WP C Z code ml own rt nm R n0 Q cl sl h pc' Ls (.int (x ||| y) :: st)) : WP C Z code ml own rt nm R n0 Q cl sl h pc Ls (.int y :: .int x :: st) := by
  subst hp
  exact hr.pure fun X hx hby hown hZ eT t q => XS.ior X.here hx rfl (hb hby hd) rfl q
theorem WP.ixor {x y : Int32} (hd : decode code pc = .ok (.ixor, 1)) (hp : pc + 1 = pc') (hr : WP C Z code ml own rt nm R n0 Q cl sl h pc' Ls (.int (x ^^^ y) :: st)) : WP C Z code ml own rt nm R n0 Q cl sl h pc Ls (.int y :: .int x :: st) := by
  subst hp
  exact hr.pure fun X hx hby hown hZ eT t q => XS.ixor X.here hx rfl (hb hby hd) rfl q
theorem WP.ishl {x y : Int32} (hd : decode code pc = .ok (.ishl, 1)) (hp : pc + 1 = pc') (hr : WP C Z code ml own rt nm R n0 Q cl sl h pc' Ls (.int (x <<< (y &&& 31)) :: st)) : WP C Z code ml own rt nm R n0 Q cl sl h pc Ls (.int y :: .int x :: st) := by
  subst hp
  exact hr.pure fun X hx hby hown hZ eT t q => XS.ishl X.here hx rfl (hb hby hd) rfl q
theorem WP.ishr {x y : Int32} (hd : decode code pc = .ok (.ishr, 1)) (hp : pc + 1 = pc') (hr : WP C Z code ml own rt nm R n0 Q cl sl h pc' Ls (.int (x >>> (y &&& 31)) :: st)) : WP C Z code ml own rt nm R n0 Q cl sl h pc Ls (.int y :: .int x :: st) := by
  subst hp
  exact hr.pure fun X hx hby hown hZ eT t q => XS.ishr X.here hx rfl (hb hby hd) rfl q
theorem WP.iushr {x y : Int32} (hd : decode code pc = .ok (.iushr, 1)) (hp : pc + 1 = pc') (hr : WP C Z code ml own rt nm R n0 Q cl sl h pc' Ls (.int ((x.toUInt32 >>> (y &&& 31).toUInt32).toInt32) :: st)) : WP C Z code ml own rt nm R n0 Q cl sl h pc Ls (.int y :: .int x :: st) := by
  subst hp
  exact hr.pure fun X hx hby hown hZ eT t q => XS.iushr X.here hx rfl (hb hby hd) rfl q
theorem WP.ladd {x y : Int64} (hd : decode code pc = .ok (.ladd, 1)) (hp : pc + 1 = pc') (hr : WP C Z code ml own rt nm R n0 Q cl sl h pc' Ls (.long (x + y) :: st)) : WP C Z code ml own rt nm R n0 Q cl sl h pc Ls (.long y :: .long x :: st) := by
  subst hp
  exact hr.pure fun X hx hby hown hZ eT t q => XS.ladd X.here hx rfl (hb hby hd) rfl q
theorem WP.lsub {x y : Int64} (hd : decode code pc = .ok (.lsub, 1)) (hp : pc + 1 = pc') (hr : WP C Z code ml own rt nm R n0 Q cl sl h pc' Ls (.long (x - y) :: st)) : WP C Z code ml own rt nm R n0 Q cl sl h pc Ls (.long y :: .long x :: st) := by
  subst hp
  exact hr.pure fun X hx hby hown hZ eT t q => XS.lsub X.here hx rfl (hb hby hd) rfl q
theorem WP.lmul {x y : Int64} (hd : decode code pc = .ok (.lmul, 1)) (hp : pc + 1 = pc') (hr : WP C Z code ml own rt nm R n0 Q cl sl h pc' Ls (.long (x * y) :: st)) : WP C Z code ml own rt nm R n0 Q cl sl h pc Ls (.long y :: .long x :: st) := by
  subst hp
  exact hr.pure fun X hx hby hown hZ eT t q => XS.lmul X.here hx rfl (hb hby hd) rfl q
theorem WP.land {x y : Int64} (hd : decode code pc = .ok (.land, 1)) (hp : pc + 1 = pc') (hr : WP C Z code ml own rt nm R n0 Q cl sl h pc' Ls (.long (x &&& y) :: st)) : WP C Z code ml own rt nm R n0 Q cl sl h pc Ls (.long y :: .long x :: st) := by
  subst hp
  exact hr.pure fun X hx hby hown hZ eT t q => XS.land X.here hx rfl (hb hby hd) rfl q
theorem WP.lor {x y : Int64} (hd : decode code pc = .ok (.lor, 1)) (hp : pc + 1 = pc') (hr : WP C Z code ml own rt nm R n0 Q cl sl h pc' Ls (.long (x ||| y) :: st)) : WP C Z code ml own rt nm R n0 Q cl sl h pc Ls (.long y :: .long x :: st) := by
  subst hp
  exact hr.pure fun X hx hby hown hZ eT t q => XS.lor X.here hx rfl (hb hby hd) rfl q
theorem WP.lxor {x y : Int64} (hd : decode code pc = .ok (.lxor, 1)) (hp : pc + 1 = pc') (hr : WP C Z code ml own rt nm R n0 Q cl sl h pc' Ls (.long (x ^^^ y) :: st)) : WP C Z code ml own rt nm R n0 Q cl sl h pc Ls (.long y :: .long x :: st) := by
  subst hp
  exact hr.pure fun X hx hby hown hZ eT t q => XS.lxor X.here hx rfl (hb hby hd) rfl q
theorem WP.lshl {x : Int64} {y : Int32} (hd : decode code pc = .ok (.lshl, 1)) (hp : pc + 1 = pc') (hr : WP C Z code ml own rt nm R n0 Q cl sl h pc' Ls (.long (x <<< (y &&& 0x3f).toInt64) :: st)) : WP C Z code ml own rt nm R n0 Q cl sl h pc Ls (.int y :: .long x :: st) := by
  subst hp
  exact hr.pure fun X hx hby hown hZ eT t q => XS.lshl X.here hx rfl (hb hby hd) rfl q
theorem WP.lshr {x : Int64} {y : Int32} (hd : decode code pc = .ok (.lshr, 1)) (hp : pc + 1 = pc') (hr : WP C Z code ml own rt nm R n0 Q cl sl h pc' Ls (.long (x >>> (y &&& 0x3f).toInt64) :: st)) : WP C Z code ml own rt nm R n0 Q cl sl h pc Ls (.int y :: .long x :: st) := by
  subst hp
  exact hr.pure fun X hx hby hown hZ eT t q => XS.lshr X.here hx rfl (hb hby hd) rfl q
theorem WP.lushr {x : Int64} {y : Int32} (hd : decode code pc = .ok (.lushr, 1)) (hp : pc + 1 = pc') (hr : WP C Z code ml own rt nm R n0 Q cl sl h pc' Ls (.long ((x.toUInt64 >>> (y &&& 0x3f).toInt64.toUInt64).toInt64) :: st)) : WP C Z code ml own rt nm R n0 Q cl sl h pc Ls (.int y :: .long x :: st) := by
  subst hp
  exact hr.pure fun X hx hby hown hZ eT t q => XS.lushr X.here hx rfl (hb hby hd) rfl q
theorem WP.idiv {x y : Int32} (hd : decode code pc = .ok (.idiv, 1)) (hp : pc + 1 = pc') (hy : y ≠ 0) (hr : WP C Z code ml own rt nm R n0 Q cl sl h pc' Ls (.int (x / y) :: st)) : WP C Z code ml own rt nm R n0 Q cl sl h pc Ls (.int y :: .int x :: st) := by
  subst hp
  exact hr.pure fun X hx hby hown hZ eT t q => XS.idiv X.here hx rfl (hb hby hd) rfl hy q
theorem WP.irem {x y : Int32} (hd : decode code pc = .ok (.irem, 1)) (hp : pc + 1 = pc') (hy : y ≠ 0) (hr : WP C Z code ml own rt nm R n0 Q cl sl h pc' Ls (.int (x % y) :: st)) : WP C Z code ml own rt nm R n0 Q cl sl h pc Ls (.int y :: .int x :: st) := by
  subst hp
  exact hr.pure fun X hx hby hown hZ eT t q => iremM X hx rfl (hb hby hd) rfl hy q
theorem WP.ldiv {x y : Int64} (hd : decode code pc = .ok (.ldiv, 1)) (hp : pc + 1 = pc') (hy : y ≠ 0) (hr : WP C Z code ml own rt nm R n0 Q cl sl h pc' Ls (.long (x / y) :: st)) : WP C Z code ml own rt nm R n0 Q cl sl h pc Ls (.long y :: .long x :: st) := by
  subst hp
  exact hr.pure fun X hx hby hown hZ eT t q => XS.ldiv X.here hx rfl (hb hby hd) rfl hy q
theorem WP.lrem {x y : Int64} (hd : decode code pc = .ok (.lrem, 1)) (hp : pc + 1 = pc') (hy : y ≠ 0) (hr : WP C Z code ml own rt nm R n0 Q cl sl h pc' Ls (.long (x % y) :: st)) : WP C Z code ml own rt nm R n0 Q cl sl h pc Ls (.long y :: .long x :: st) := by
  subst hp
  exact hr.pure fun X hx hby hown hZ eT t q => XS.lrem X.here hx rfl (hb hby hd) rfl hy (by rw [lrem_mod]; exact q)
theorem WP.ineg {x : Int32} (hd : decode code pc = .ok (.ineg, 1)) (hp : pc + 1 = pc') (hr : WP C Z code ml own rt nm R n0 Q cl sl h pc' Ls (.int (-x) :: st)) : WP C Z code ml own rt nm R n0 Q cl sl h pc Ls (.int x :: st) := by
  subst hp
  exact hr.pure fun X hx hby hown hZ eT t q => XS.ineg X.here hx rfl (hb hby hd) rfl q
theorem WP.lneg {x : Int64} (hd : decode code pc = .ok (.lneg, 1)) (hp : pc + 1 = pc') (hr : WP C Z code ml own rt nm R n0 Q cl sl h pc' Ls (.long (-x) :: st)) : WP C Z code ml own rt nm R n0 Q cl sl h pc Ls (.long x :: st) := by
  subst hp
  exact hr.pure fun X hx hby hown hZ eT t q => XS.lneg X.here hx rfl (hb hby hd) rfl q
theorem WP.i2l {x : Int32} (hd : decode code pc = .ok (.i2l, 1)) (hp : pc + 1 = pc') (hr : WP C Z code ml own rt nm R n0 Q cl sl h pc' Ls (.long (x.toInt64) :: st)) : WP C Z code ml own rt nm R n0 Q cl sl h pc Ls (.int x :: st) := by
  subst hp
  exact hr.pure fun X hx hby hown hZ eT t q => XS.i2l X.here hx rfl (hb hby hd) rfl q
theorem WP.l2i {x : Int64} (hd : decode code pc = .ok (.l2i, 1)) (hp : pc + 1 = pc') (hr : WP C Z code ml own rt nm R n0 Q cl sl h pc' Ls (.int (x.toInt32) :: st)) : WP C Z code ml own rt nm R n0 Q cl sl h pc Ls (.long x :: st) := by
  subst hp
  exact hr.pure fun X hx hby hown hZ eT t q => XS.l2i X.here hx rfl (hb hby hd) rfl q
theorem WP.i2b {x : Int32} (hd : decode code pc = .ok (.i2b, 1)) (hp : pc + 1 = pc') (hr : WP C Z code ml own rt nm R n0 Q cl sl h pc' Ls (.int (x.toInt8.toInt32) :: st)) : WP C Z code ml own rt nm R n0 Q cl sl h pc Ls (.int x :: st) := by
  subst hp
  exact hr.pure fun X hx hby hown hZ eT t q => XS.i2b X.here hx rfl (hb hby hd) rfl q
theorem WP.i2c {x : Int32} (hd : decode code pc = .ok (.i2c, 1)) (hp : pc + 1 = pc') (hr : WP C Z code ml own rt nm R n0 Q cl sl h pc' Ls (.int (x.toUInt32.toUInt16.toUInt32.toInt32) :: st)) : WP C Z code ml own rt nm R n0 Q cl sl h pc Ls (.int x :: st) := by
  subst hp
  exact hr.pure fun X hx hby hown hZ eT t q => XS.i2c X.here hx rfl (hb hby hd) rfl q
theorem WP.i2s {x : Int32} (hd : decode code pc = .ok (.i2s, 1)) (hp : pc + 1 = pc') (hr : WP C Z code ml own rt nm R n0 Q cl sl h pc' Ls (.int (x.toInt16.toInt32) :: st)) : WP C Z code ml own rt nm R n0 Q cl sl h pc Ls (.int x :: st) := by
  subst hp
  exact hr.pure fun X hx hby hown hZ eT t q => XS.i2s X.here hx rfl (hb hby hd) rfl q
theorem WP.dup {x : Value} (hd : decode code pc = .ok (.dup, 1)) (hp : pc + 1 = pc') (hc : x.category = 1) (hr : WP C Z code ml own rt nm R n0 Q cl sl h pc' Ls (x :: x :: st)) : WP C Z code ml own rt nm R n0 Q cl sl h pc Ls (x :: st) := by
  subst hp
  exact hr.pure fun X hx hby hown hZ eT t q => XS.dup X.here hx rfl (hb hby hd) rfl hc q
theorem WP.pop {x : Value} (hd : decode code pc = .ok (.pop, 1)) (hp : pc + 1 = pc') (hc : x.category = 1) (hr : WP C Z code ml own rt nm R n0 Q cl sl h pc' Ls st) : WP C Z code ml own rt nm R n0 Q cl sl h pc Ls (x :: st) := by
  subst hp
  exact hr.pure fun X hx hby hown hZ eT t q => XS.pop X.here hx rfl (hb hby hd) rfl hc q
theorem WP.dupX1 {x y : Value} (hd : decode code pc = .ok (.dup_x1, 1)) (hp : pc + 1 = pc') (hc : x.category = 1) (hc' : y.category = 1) (hr : WP C Z code ml own rt nm R n0 Q cl sl h pc' Ls (x :: y :: x :: st)) : WP C Z code ml own rt nm R n0 Q cl sl h pc Ls (x :: y :: st) := by
  subst hp
  exact hr.pure fun X hx hby hown hZ eT t q => XS.dupX1 X.here hx rfl (hb hby hd) rfl hc hc' q
theorem WP.dup2 {x y : Value} (hd : decode code pc = .ok (.dup2, 1)) (hp : pc + 1 = pc') (hc : x.category = 1) (hc' : y.category = 1) (hr : WP C Z code ml own rt nm R n0 Q cl sl h pc' Ls (x :: y :: x :: y :: st)) : WP C Z code ml own rt nm R n0 Q cl sl h pc Ls (x :: y :: st) := by
  subst hp
  exact hr.pure fun X hx hby hown hZ eT t q => Jvm.Free.XT.dup2 X.here hx rfl (hb hby hd) rfl hc hc' q
theorem WP.dup2L {x : Int64} (hd : decode code pc = .ok (.dup2, 1)) (hp : pc + 1 = pc') (hr : WP C Z code ml own rt nm R n0 Q cl sl h pc' Ls (.long x :: .long x :: st)) : WP C Z code ml own rt nm R n0 Q cl sl h pc Ls (.long x :: st) := by
  subst hp
  exact hr.pure fun X hx hby hown hZ eT t q => Jvm.Free.XT.dup2L X.here hx rfl (hb hby hd) rfl q
theorem WP.iinc {k : Nat} {i : Int} {x z : Int32} (hd : decode code pc = .ok (.iinc k i, 3)) (hp : pc + 3 = pc') (hl : Ls[k]? = some (.val (.int x))) (hz : x + Int32.ofInt i = z) (hl' : storeLocals Ls k (.int z) = some Ls') (hr : WP C Z code ml own rt nm R n0 Q cl sl h pc' Ls' st) : WP C Z code ml own rt nm R n0 Q cl sl h pc Ls st := by
  subst hp
  subst hz
  exact hr.pure fun X hx hby hown hZ eT t q => XS.iinc X.here hx rfl (hb hby hd) hl hl' q
theorem WP.ldc2D {i : Nat} {v : UInt64} (hd : decode code pc = .ok (.ldc2_w i, 3)) (hp : pc + 3 = pc') (w : (Jvm.Cond.constantDouble own i v).before a0 Z = true) (hr : WP C Z code ml own rt nm R n0 Q cl sl h pc' Ls (.double v :: st)) : WP C Z code ml own rt nm R n0 Q cl sl h pc Ls st := by
  subst hp
  exact hr.pure fun X hx hby hown hZ eT t q => X.ldc2DoubleC hx hown (mvT hZ w) (g := mkF _ pc Ls st) rfl (hb hby hd) t q
theorem WP.dconst0 {v : UInt64} (hd : decode code pc = .ok (.dconst 0, 1)) (hp : pc + 1 = pc') (hv : FP.dconst0 = v) (hr : WP C Z code ml own rt nm R n0 Q cl sl h pc' Ls (.double v :: st)) : WP C Z code ml own rt nm R n0 Q cl sl h pc Ls st := by
  subst hp
  exact hr.pure fun X hx hby hown hZ eT t q => XS.dconst0 X.here hx rfl (hb hby hd) hv q
theorem WP.dconst1 {v : UInt64} (hd : decode code pc = .ok (.dconst 1, 1)) (hp : pc + 1 = pc') (hv : FP.dconst1 = v) (hr : WP C Z code ml own rt nm R n0 Q cl sl h pc' Ls (.double v :: st)) : WP C Z code ml own rt nm R n0 Q cl sl h pc Ls st := by
  subst hp
  exact hr.pure fun X hx hby hown hZ eT t q => XS.dconst1 X.here hx rfl (hb hby hd) hv q
theorem WP.i2d {x : Int32} {v : UInt64} (hd : decode code pc = .ok (.i2d, 1)) (hp : pc + 1 = pc') (hv : FP.i2d x = v) (hr : WP C Z code ml own rt nm R n0 Q cl sl h pc' Ls (.double v :: st)) : WP C Z code ml own rt nm R n0 Q cl sl h pc Ls (.int x :: st) := by
  subst hp
  exact hr.pure fun X hx hby hown hZ eT t q => XS.i2dS X.here hx rfl (hb hby hd) rfl hv q
theorem WP.l2d {x : Int64} {v : UInt64} (hd : decode code pc = .ok (.l2d, 1)) (hp : pc + 1 = pc') (hv : FP.l2d x = v) (hr : WP C Z code ml own rt nm R n0 Q cl sl h pc' Ls (.double v :: st)) : WP C Z code ml own rt nm R n0 Q cl sl h pc Ls (.long x :: st) := by
  subst hp
  exact hr.pure fun X hx hby hown hZ eT t q => XS.l2dS X.here hx rfl (hb hby hd) rfl hv q
theorem WP.dcmp {o : CmpOp} {x y : UInt64} {v : Int32} (hd : decode code pc = .ok (.dcmp o, 1)) (hp : pc + 1 = pc') (hv : cmpValue (FP.dcmp x y) o = v) (hr : WP C Z code ml own rt nm R n0 Q cl sl h pc' Ls (.int v :: st)) : WP C Z code ml own rt nm R n0 Q cl sl h pc Ls (.double y :: .double x :: st) := by
  subst hp
  exact hr.pure fun X hx hby hown hZ eT t q => XS.dcmpS X.here hx rfl (hb hby hd) rfl hv q
theorem WP.dadd {x y v : UInt64} (hd : decode code pc = .ok (.dadd, 1)) (hp : pc + 1 = pc') (hn : Jvm.Free.Fl.NoNaN64 (FP.dadd x y)) (hv : FP.dadd x y = v) (hr : WP C Z code ml own rt nm R n0 Q cl sl h pc' Ls (.double v :: st)) : WP C Z code ml own rt nm R n0 Q cl sl h pc Ls (.double y :: .double x :: st) := by
  subst hp
  exact hr.pure fun X hx hby hown hZ eT t q => XS.daddS X.here hx rfl (hb hby hd) rfl hn hv q
theorem WP.dsub {x y v : UInt64} (hd : decode code pc = .ok (.dsub, 1)) (hp : pc + 1 = pc') (hn : Jvm.Free.Fl.NoNaN64 (FP.dsub x y)) (hv : FP.dsub x y = v) (hr : WP C Z code ml own rt nm R n0 Q cl sl h pc' Ls (.double v :: st)) : WP C Z code ml own rt nm R n0 Q cl sl h pc Ls (.double y :: .double x :: st) := by
  subst hp
  exact hr.pure fun X hx hby hown hZ eT t q => XS.dsubS X.here hx rfl (hb hby hd) rfl hn hv q
theorem WP.dmul {x y v : UInt64} (hd : decode code pc = .ok (.dmul, 1)) (hp : pc + 1 = pc') (hn : Jvm.Free.Fl.NoNaN64 (FP.dmul x y)) (hv : FP.dmul x y = v) (hr : WP C Z code ml own rt nm R n0 Q cl sl h pc' Ls (.double v :: st)) : WP C Z code ml own rt nm R n0 Q cl sl h pc Ls (.double y :: .double x :: st) := by
  subst hp
  exact hr.pure fun X hx hby hown hZ eT t q => XS.dmulS X.here hx rfl (hb hby hd) rfl hn hv q
theorem WP.ddiv {x y v : UInt64} (hd : decode code pc = .ok (.ddiv, 1)) (hp : pc + 1 = pc') (hn : Jvm.Free.Fl.NoNaN64 (FP.ddiv x y)) (hv : FP.ddiv x y = v) (hr : WP C Z code ml own rt nm R n0 Q cl sl h pc' Ls (.double v :: st)) : WP C Z code ml own rt nm R n0 Q cl sl h pc Ls (.double y :: .double x :: st) := by
  subst hp
  exact hr.pure fun X hx hby hown hZ eT t q => XS.ddivS X.here hx rfl (hb hby hd) rfl hn hv q
theorem WP.lcmp {x y : Int64} (hd : decode code pc = .ok (.lcmp, 1)) (hp : pc + 1 = pc') (hr : WP C Z code ml own rt nm R n0 Q cl sl h pc' Ls (.int (lcmpW x y) :: st)) : WP C Z code ml own rt nm R n0 Q cl sl h pc Ls (.long y :: .long x :: st) := by
  subst hp
  exact hr.pure fun X hx hby hown hZ eT t q => XS.lcmp X.here hx rfl (hb hby hd) rfl q
theorem WP.goto {o : Int} (hd : decode code pc = .ok (.goto o, 3)) (ho : 0 ≤ (pc : Int) + o) (hp : ((pc : Int) + o).toNat = pc') (hr : WP C Z code ml own rt nm R n0 Q cl sl h pc' Ls st) : WP C Z code ml own rt nm R n0 Q cl sl h pc Ls st :=
  hr.pure fun X hx hby hown hZ eT t q => XS.goto X.here hx rfl (pc0 := pc) rfl (hb hby hd) ho hp q
theorem WP.icmp {pc1 pc2 : Nat} {x y : Int32} {cd : ClassFile.Cond} {o : Int} (hd : decode code pc = .ok (.if_icmp cd o, 3)) (ho : 0 ≤ (pc : Int) + o) (hp : ((pc : Int) + o).toNat = pc1) (hp2 : pc + 3 = pc2) (hy : if_icmp.holds cd x y = true → WP C Z code ml own rt nm R n0 Q cl sl h pc1 Ls st) (hn : if_icmp.holds cd x y = false → WP C Z code ml own rt nm R n0 Q cl sl h pc2 Ls st) : WP C Z code ml own rt nm R n0 Q cl sl h pc Ls (.int y :: .int x :: st) := by
  subst hp2
  cases hq : if_icmp.holds cd x y with
  | true => exact (hy hq).pure fun X hx hby hown hZ eT t q => XS.icmpYes X.here hx rfl (pc0 := pc) rfl (hb hby hd) rfl hq ho hp q
  | false => exact (hn hq).pure fun X hx hby hown hZ eT t q => XS.icmpNo X.here hx rfl (hb hby hd) rfl hq q
theorem WP.icmp_lt {pc1 pc2 : Nat} {x y : Int32} {o : Int} (hd : decode code pc = .ok (.if_icmp .lt o, 3)) (ho : 0 ≤ (pc : Int) + o) (hp : ((pc : Int) + o).toNat = pc1) (hp2 : pc + 3 = pc2) (hy : x < y → WP C Z code ml own rt nm R n0 Q cl sl h pc1 Ls st) (hn : ¬ x < y → WP C Z code ml own rt nm R n0 Q cl sl h pc2 Ls st) : WP C Z code ml own rt nm R n0 Q cl sl h pc Ls (.int y :: .int x :: st) :=
  WP.icmp hd ho hp hp2 (fun hq => hy (Decidable.byContradiction fun k => by rw [(flt k).1] at hq; cases hq)) (fun hq => hn (fun k => by rw [(tlt k).1] at hq; cases hq))
theorem WP.icmp_ge {pc1 pc2 : Nat} {x y : Int32} {o : Int} (hd : decode code pc = .ok (.if_icmp .ge o, 3)) (ho : 0 ≤ (pc : Int) + o) (hp : ((pc : Int) + o).toNat = pc1) (hp2 : pc + 3 = pc2) (hy : ¬ x < y → WP C Z code ml own rt nm R n0 Q cl sl h pc1 Ls st) (hn : x < y → WP C Z code ml own rt nm R n0 Q cl sl h pc2 Ls st) : WP C Z code ml own rt nm R n0 Q cl sl h pc Ls (.int y :: .int x :: st) :=
  WP.icmp hd ho hp hp2 (fun hq => hy (fun k => by rw [(tlt k).2.1] at hq; cases hq)) (fun hq => hn (Decidable.byContradiction fun k => by rw [(flt k).2.1] at hq; cases hq))
theorem WP.icmp_gt {pc1 pc2 : Nat} {x y : Int32} {o : Int} (hd : decode code pc = .ok (.if_icmp .gt o, 3)) (ho : 0 ≤ (pc : Int) + o) (hp : ((pc : Int) + o).toNat = pc1) (hp2 : pc + 3 = pc2) (hy : y < x → WP C Z code ml own rt nm R n0 Q cl sl h pc1 Ls st) (hn : ¬ y < x → WP C Z code ml own rt nm R n0 Q cl sl h pc2 Ls st) : WP C Z code ml own rt nm R n0 Q cl sl h pc Ls (.int y :: .int x :: st) :=
  WP.icmp hd ho hp hp2 (fun hq => hy (Decidable.byContradiction fun k => by rw [(flt k).2.2.1] at hq; cases hq)) (fun hq => hn (fun k => by rw [(tlt k).2.2.1] at hq; cases hq))
theorem WP.icmp_le {pc1 pc2 : Nat} {x y : Int32} {o : Int} (hd : decode code pc = .ok (.if_icmp .le o, 3)) (ho : 0 ≤ (pc : Int) + o) (hp : ((pc : Int) + o).toNat = pc1) (hp2 : pc + 3 = pc2) (hy : ¬ y < x → WP C Z code ml own rt nm R n0 Q cl sl h pc1 Ls st) (hn : y < x → WP C Z code ml own rt nm R n0 Q cl sl h pc2 Ls st) : WP C Z code ml own rt nm R n0 Q cl sl h pc Ls (.int y :: .int x :: st) :=
  WP.icmp hd ho hp hp2 (fun hq => hy (fun k => by rw [(tlt k).2.2.2] at hq; cases hq)) (fun hq => hn (Decidable.byContradiction fun k => by rw [(flt k).2.2.2] at hq; cases hq))
theorem WP.icmp_eq {pc1 pc2 : Nat} {x y : Int32} {o : Int} (hd : decode code pc = .ok (.if_icmp .eq o, 3)) (ho : 0 ≤ (pc : Int) + o) (hp : ((pc : Int) + o).toNat = pc1) (hp2 : pc + 3 = pc2) (hy : x = y → WP C Z code ml own rt nm R n0 Q cl sl h pc1 Ls st) (hn : ¬ x = y → WP C Z code ml own rt nm R n0 Q cl sl h pc2 Ls st) : WP C Z code ml own rt nm R n0 Q cl sl h pc Ls (.int y :: .int x :: st) :=
  WP.icmp hd ho hp hp2 (fun hq => hy (Decidable.byContradiction fun k => by rw [(feq k).1] at hq; cases hq)) (fun hq => hn (fun k => by rw [(teq k).1] at hq; cases hq))
theorem WP.icmp_ne {pc1 pc2 : Nat} {x y : Int32} {o : Int} (hd : decode code pc = .ok (.if_icmp .ne o, 3)) (ho : 0 ≤ (pc : Int) + o) (hp : ((pc : Int) + o).toNat = pc1) (hp2 : pc + 3 = pc2) (hy : ¬ x = y → WP C Z code ml own rt nm R n0 Q cl sl h pc1 Ls st) (hn : x = y → WP C Z code ml own rt nm R n0 Q cl sl h pc2 Ls st) : WP C Z code ml own rt nm R n0 Q cl sl h pc Ls (.int y :: .int x :: st) :=
  WP.icmp hd ho hp hp2 (fun hq => hy (fun k => by rw [(teq k).2] at hq; cases hq)) (fun hq => hn (Decidable.byContradiction fun k => by rw [(feq k).2] at hq; cases hq))
theorem WP.ifc {pc1 pc2 : Nat} {x : Int32} {cd : ClassFile.Cond} {o : Int} (hd : decode code pc = .ok (.ifCond cd o, 3)) (ho : 0 ≤ (pc : Int) + o) (hp : ((pc : Int) + o).toNat = pc1) (hp2 : pc + 3 = pc2) (hy : ifCond.holds cd x = true → WP C Z code ml own rt nm R n0 Q cl sl h pc1 Ls st) (hn : ifCond.holds cd x = false → WP C Z code ml own rt nm R n0 Q cl sl h pc2 Ls st) : WP C Z code ml own rt nm R n0 Q cl sl h pc Ls (.int x :: st) := by
  subst hp2
  cases hq : ifCond.holds cd x with
  | true => exact (hy hq).pure fun X hx hby hown hZ eT t q => XS.ifYes X.here hx rfl (pc0 := pc) rfl (hb hby hd) rfl hq ho hp q
  | false => exact (hn hq).pure fun X hx hby hown hZ eT t q => XS.ifNo X.here hx rfl (hb hby hd) rfl hq q
theorem WP.ifc_lt {pc1 pc2 : Nat} {x : Int32} {o : Int} (hd : decode code pc = .ok (.ifCond .lt o, 3)) (ho : 0 ≤ (pc : Int) + o) (hp : ((pc : Int) + o).toNat = pc1) (hp2 : pc + 3 = pc2) (hy : x < (0 : Int32) → WP C Z code ml own rt nm R n0 Q cl sl h pc1 Ls st) (hn : ¬ x < (0 : Int32) → WP C Z code ml own rt nm R n0 Q cl sl h pc2 Ls st) : WP C Z code ml own rt nm R n0 Q cl sl h pc Ls (.int x :: st) :=
  WP.ifc hd ho hp hp2 (fun hq => hy (Decidable.byContradiction fun k => by rw [(if0 _ _).trans (flt k).1] at hq; cases hq)) (fun hq => hn (fun k => by rw [(if0 _ _).trans (tlt k).1] at hq; cases hq))
theorem WP.ifc_ge {pc1 pc2 : Nat} {x : Int32} {o : Int} (hd : decode code pc = .ok (.ifCond .ge o, 3)) (ho : 0 ≤ (pc : Int) + o) (hp : ((pc : Int) + o).toNat = pc1) (hp2 : pc + 3 = pc2) (hy : ¬ x < (0 : Int32) → WP C Z code ml own rt nm R n0 Q cl sl h pc1 Ls st) (hn : x < (0 : Int32) → WP C Z code ml own rt nm R n0 Q cl sl h pc2 Ls st) : WP C Z code ml own rt nm R n0 Q cl sl h pc Ls (.int x :: st) :=
  WP.ifc hd ho hp hp2 (fun hq => hy (fun k => by rw [(if0 _ _).trans (tlt k).2.1] at hq; cases hq)) (fun hq => hn (Decidable.byContradiction fun k => by rw [(if0 _ _).trans (flt k).2.1] at hq; cases hq))
theorem WP.ifc_gt {pc1 pc2 : Nat} {x : Int32} {o : Int} (hd : decode code pc = .ok (.ifCond .gt o, 3)) (ho : 0 ≤ (pc : Int) + o) (hp : ((pc : Int) + o).toNat = pc1) (hp2 : pc + 3 = pc2) (hy : (0 : Int32) < x → WP C Z code ml own rt nm R n0 Q cl sl h pc1 Ls st) (hn : ¬ (0 : Int32) < x → WP C Z code ml own rt nm R n0 Q cl sl h pc2 Ls st) : WP C Z code ml own rt nm R n0 Q cl sl h pc Ls (.int x :: st) :=
  WP.ifc hd ho hp hp2 (fun hq => hy (Decidable.byContradiction fun k => by rw [(if0 _ _).trans (flt k).2.2.1] at hq; cases hq)) (fun hq => hn (fun k => by rw [(if0 _ _).trans (tlt k).2.2.1] at hq; cases hq))
theorem WP.ifc_le {pc1 pc2 : Nat} {x : Int32} {o : Int} (hd : decode code pc = .ok (.ifCond .le o, 3)) (ho : 0 ≤ (pc : Int) + o) (hp : ((pc : Int) + o).toNat = pc1) (hp2 : pc + 3 = pc2) (hy : ¬ (0 : Int32) < x → WP C Z code ml own rt nm R n0 Q cl sl h pc1 Ls st) (hn : (0 : Int32) < x → WP C Z code ml own rt nm R n0 Q cl sl h pc2 Ls st) : WP C Z code ml own rt nm R n0 Q cl sl h pc Ls (.int x :: st) :=
  WP.ifc hd ho hp hp2 (fun hq => hy (fun k => by rw [(if0 _ _).trans (tlt k).2.2.2] at hq; cases hq)) (fun hq => hn (Decidable.byContradiction fun k => by rw [(if0 _ _).trans (flt k).2.2.2] at hq; cases hq))
theorem WP.ifc_eq {pc1 pc2 : Nat} {x : Int32} {o : Int} (hd : decode code pc = .ok (.ifCond .eq o, 3)) (ho : 0 ≤ (pc : Int) + o) (hp : ((pc : Int) + o).toNat = pc1) (hp2 : pc + 3 = pc2) (hy : x = (0 : Int32) → WP C Z code ml own rt nm R n0 Q cl sl h pc1 Ls st) (hn : ¬ x = (0 : Int32) → WP C Z code ml own rt nm R n0 Q cl sl h pc2 Ls st) : WP C Z code ml own rt nm R n0 Q cl sl h pc Ls (.int x :: st) :=
  WP.ifc hd ho hp hp2 (fun hq => hy (Decidable.byContradiction fun k => by rw [(if0 _ _).trans (feq k).1] at hq; cases hq)) (fun hq => hn (fun k => by rw [(if0 _ _).trans (teq k).1] at hq; cases hq))
theorem WP.ifc_ne {pc1 pc2 : Nat} {x : Int32} {o : Int} (hd : decode code pc = .ok (.ifCond .ne o, 3)) (ho : 0 ≤ (pc : Int) + o) (hp : ((pc : Int) + o).toNat = pc1) (hp2 : pc + 3 = pc2) (hy : ¬ x = (0 : Int32) → WP C Z code ml own rt nm R n0 Q cl sl h pc1 Ls st) (hn : x = (0 : Int32) → WP C Z code ml own rt nm R n0 Q cl sl h pc2 Ls st) : WP C Z code ml own rt nm R n0 Q cl sl h pc Ls (.int x :: st) :=
  WP.ifc hd ho hp hp2 (fun hq => hy (fun k => by rw [(if0 _ _).trans (teq k).2] at hq; cases hq)) (fun hq => hn (Decidable.byContradiction fun k => by rw [(if0 _ _).trans (feq k).2] at hq; cases hq))
theorem WP.lcmp_lt {pc1 pc2 : Nat} {x y : Int64} {o : Int} (hd1 : decode code pc = .ok (.lcmp, 1)) (hp0 : pc + 1 = pc') (hd : decode code pc' = .ok (.ifCond .lt o, 3)) (ho : 0 ≤ (pc' : Int) + o) (hp : ((pc' : Int) + o).toNat = pc1) (hp2 : pc' + 3 = pc2) (hy : x < y → WP C Z code ml own rt nm R n0 Q cl sl h pc1 Ls st) (hn : ¬ x < y → WP C Z code ml own rt nm R n0 Q cl sl h pc2 Ls st) : WP C Z code ml own rt nm R n0 Q cl sl h pc Ls (.long y :: .long x :: st) :=
  WP.lcmp hd1 hp0 (WP.ifc_lt hd ho hp hp2 (fun k => hy ((lw_lt x y).mp k)) (fun k => hn (fun z => k ((lw_lt x y).mpr z))))
theorem WP.lcmp_ge {pc1 pc2 : Nat} {x y : Int64} {o : Int} (hd1 : decode code pc = .ok (.lcmp, 1)) (hp0 : pc + 1 = pc') (hd : decode code pc' = .ok (.ifCond .ge o, 3)) (ho : 0 ≤ (pc' : Int) + o) (hp : ((pc' : Int) + o).toNat = pc1) (hp2 : pc' + 3 = pc2) (hy : ¬ x < y → WP C Z code ml own rt nm R n0 Q cl sl h pc1 Ls st) (hn : x < y → WP C Z code ml own rt nm R n0 Q cl sl h pc2 Ls st) : WP C Z code ml own rt nm R n0 Q cl sl h pc Ls (.long y :: .long x :: st) :=
  WP.lcmp hd1 hp0 (WP.ifc_ge hd ho hp hp2 (fun k => hy (fun z => k ((lw_lt x y).mpr z))) (fun k => hn ((lw_lt x y).mp k)))
theorem WP.lcmp_gt {pc1 pc2 : Nat} {x y : Int64} {o : Int} (hd1 : decode code pc = .ok (.lcmp, 1)) (hp0 : pc + 1 = pc') (hd : decode code pc' = .ok (.ifCond .gt o, 3)) (ho : 0 ≤ (pc' : Int) + o) (hp : ((pc' : Int) + o).toNat = pc1) (hp2 : pc' + 3 = pc2) (hy : y < x → WP C Z code ml own rt nm R n0 Q cl sl h pc1 Ls st) (hn : ¬ y < x → WP C Z code ml own rt nm R n0 Q cl sl h pc2 Ls st) : WP C Z code ml own rt nm R n0 Q cl sl h pc Ls (.long y :: .long x :: st) :=
  WP.lcmp hd1 hp0 (WP.ifc_gt hd ho hp hp2 (fun k => hy ((lw_gt x y).mp k)) (fun k => hn (fun z => k ((lw_gt x y).mpr z))))
theorem WP.lcmp_le {pc1 pc2 : Nat} {x y : Int64} {o : Int} (hd1 : decode code pc = .ok (.lcmp, 1)) (hp0 : pc + 1 = pc') (hd : decode code pc' = .ok (.ifCond .le o, 3)) (ho : 0 ≤ (pc' : Int) + o) (hp : ((pc' : Int) + o).toNat = pc1) (hp2 : pc' + 3 = pc2) (hy : ¬ y < x → WP C Z code ml own rt nm R n0 Q cl sl h pc1 Ls st) (hn : y < x → WP C Z code ml own rt nm R n0 Q cl sl h pc2 Ls st) : WP C Z code ml own rt nm R n0 Q cl sl h pc Ls (.long y :: .long x :: st) :=
  WP.lcmp hd1 hp0 (WP.ifc_le hd ho hp hp2 (fun k => hy (fun z => k ((lw_gt x y).mpr z))) (fun k => hn ((lw_gt x y).mp k)))
theorem WP.lcmp_eq {pc1 pc2 : Nat} {x y : Int64} {o : Int} (hd1 : decode code pc = .ok (.lcmp, 1)) (hp0 : pc + 1 = pc') (hd : decode code pc' = .ok (.ifCond .eq o, 3)) (ho : 0 ≤ (pc' : Int) + o) (hp : ((pc' : Int) + o).toNat = pc1) (hp2 : pc' + 3 = pc2) (hy : x = y → WP C Z code ml own rt nm R n0 Q cl sl h pc1 Ls st) (hn : ¬ x = y → WP C Z code ml own rt nm R n0 Q cl sl h pc2 Ls st) : WP C Z code ml own rt nm R n0 Q cl sl h pc Ls (.long y :: .long x :: st) :=
  WP.lcmp hd1 hp0 (WP.ifc_eq hd ho hp hp2 (fun k => hy ((lw_eq x y).mp k)) (fun k => hn (fun z => k ((lw_eq x y).mpr z))))
theorem WP.lcmp_ne {pc1 pc2 : Nat} {x y : Int64} {o : Int} (hd1 : decode code pc = .ok (.lcmp, 1)) (hp0 : pc + 1 = pc') (hd : decode code pc' = .ok (.ifCond .ne o, 3)) (ho : 0 ≤ (pc' : Int) + o) (hp : ((pc' : Int) + o).toNat = pc1) (hp2 : pc' + 3 = pc2) (hy : ¬ x = y → WP C Z code ml own rt nm R n0 Q cl sl h pc1 Ls st) (hn : x = y → WP C Z code ml own rt nm R n0 Q cl sl h pc2 Ls st) : WP C Z code ml own rt nm R n0 Q cl sl h pc Ls (.long y :: .long x :: st) :=
  WP.lcmp hd1 hp0 (WP.ifc_ne hd ho hp hp2 (fun k => hy (fun z => k ((lw_eq x y).mpr z))) (fun k => hn ((lw_eq x y).mp k)))
theorem WP.ifnullY {b : Addr} {o : Int} (hd : decode code pc = .ok (.ifnull o, 3)) (ho : 0 ≤ (pc : Int) + o) (hp : ((pc : Int) + o).toNat = pc') (hr : WP C Z code ml own rt nm R n0 Q cl sl h pc' Ls st) : WP C Z code ml own rt nm R n0 Q cl sl h pc Ls (.null :: st) :=
  hr.pure fun X hx hby hown hZ eT t q => XS.ifnullYes X.here hx rfl (pc0 := pc) rfl (hb hby hd) rfl ho hp q
theorem WP.ifnullN {b : Addr} {o : Int} (hd : decode code pc = .ok (.ifnull o, 3)) (hp : pc + 3 = pc') (hr : WP C Z code ml own rt nm R n0 Q cl sl h pc' Ls st) : WP C Z code ml own rt nm R n0 Q cl sl h pc Ls (.ref b :: st) := by
  subst hp
  exact hr.pure fun X hx hby hown hZ eT t q => XS.ifnullNo X.here hx rfl (hb hby hd) rfl q
theorem WP.ifnonnullY {b : Addr} {o : Int} (hd : decode code pc = .ok (.ifnonnull o, 3)) (ho : 0 ≤ (pc : Int) + o) (hp : ((pc : Int) + o).toNat = pc') (hr : WP C Z code ml own rt nm R n0 Q cl sl h pc' Ls st) : WP C Z code ml own rt nm R n0 Q cl sl h pc Ls (.ref b :: st) :=
  hr.pure fun X hx hby hown hZ eT t q => XS.ifnonnullYes X.here hx rfl (pc0 := pc) rfl (hb hby hd) rfl ho hp q
theorem WP.ifnonnullN {b : Addr} {o : Int} (hd : decode code pc = .ok (.ifnonnull o, 3)) (hp : pc + 3 = pc') (hr : WP C Z code ml own rt nm R n0 Q cl sl h pc' Ls st) : WP C Z code ml own rt nm R n0 Q cl sl h pc Ls (.null :: st) := by
  subst hp
  exact hr.pure fun X hx hby hown hZ eT t q => XS.ifnonnullNo X.here hx rfl (hb hby hd) rfl q
theorem WP.acmp_eq {pc1 pc2 : Nat} {x y : Value} {o : Int} (hd : decode code pc = .ok (.if_acmp .eq o, 3)) (h1 : x.isRef = true) (h2 : y.isRef = true) (ho : 0 ≤ (pc : Int) + o) (hp : ((pc : Int) + o).toNat = pc1) (hp2 : pc + 3 = pc2) (hy : x = y → WP C Z code ml own rt nm R n0 Q cl sl h pc1 Ls st) (hn : ¬ x = y → WP C Z code ml own rt nm R n0 Q cl sl h pc2 Ls st) : WP C Z code ml own rt nm R n0 Q cl sl h pc Ls (y :: x :: st) := by
  by_cases k : x = y
  · exact (hy k).pure fun X hx hby hown hZ eT t q => Jvm.RoadKit.acmp X hx rfl h1 h2 (pc0 := pc) (same := true) rfl (hb hby hd) rfl (decide_eq_true k) ho (by simp [acV, hp, hp2]) q
  · exact (hn k).pure fun X hx hby hown hZ eT t q => Jvm.RoadKit.acmp X hx rfl h1 h2 (pc0 := pc) (same := false) rfl (hb hby hd) rfl (decide_eq_false k) ho (by simp [acV, hp, hp2]) q
theorem WP.acmp_ne {pc1 pc2 : Nat} {x y : Value} {o : Int} (hd : decode code pc = .ok (.if_acmp .ne o, 3)) (h1 : x.isRef = true) (h2 : y.isRef = true) (ho : 0 ≤ (pc : Int) + o) (hp : ((pc : Int) + o).toNat = pc1) (hp2 : pc + 3 = pc2) (hy : ¬ x = y → WP C Z code ml own rt nm R n0 Q cl sl h pc1 Ls st) (hn : x = y → WP C Z code ml own rt nm R n0 Q cl sl h pc2 Ls st) : WP C Z code ml own rt nm R n0 Q cl sl h pc Ls (y :: x :: st) := by
  by_cases k : x = y
  · exact (hn k).pure fun X hx hby hown hZ eT t q => Jvm.RoadKit.acmp X hx rfl h1 h2 (pc0 := pc) (same := true) rfl (hb hby hd) rfl (decide_eq_true k) ho (by simp [acV, hp, hp2]) q
  · exact (hy k).pure fun X hx hby hown hZ eT t q => Jvm.RoadKit.acmp X hx rfl h1 h2 (pc0 := pc) (same := false) rfl (hb hby hd) rfl (decide_eq_false k) ho (by simp [acV, hp, hp2]) q
theorem WP.getF {i : Nat} {R0 O n d host : String} {a : Addr} {v : Value} (hd : decode code pc = .ok (.getfield i, 3)) (hp : pc + 3 = pc') (w : (Jvm.Cond.fieldLink own i R0 n d).before a0 Z = true ∨ (Jvm.Cond.fieldLinkNest own i R0 n d host).before a0 Z = true) (via : Via Z R0 O n d) (F : Fld Z h a O n d v) (hr : WP C Z code ml own rt nm R n0 Q cl sl h pc' Ls (v :: st)) : WP C Z code ml own rt nm R n0 Q cl sl h pc Ls (.ref a :: st) := by
  subst hp
  refine hr.step fun X hx hby hml hown hZ hnm eT N => ?_
  obtain ⟨T', X', e', k⟩ := RoadKit.getF X hx hZ hown w via eT F (g := mkF _ pc Ls (.ref a :: st)) rfl rfl (hb hby hd)
  exact ⟨T', _, X', e', N, fun t q => k t q⟩
theorem WP.getS {i : Nat} {R0 O n d host : String} {v : Value} (hd : decode code pc = .ok (.getstatic i, 3)) (hp : pc + 3 = pc') (w : (Jvm.Cond.fieldLink own i R0 n d).before a0 Z = true ∨ (Jvm.Cond.fieldLinkNest own i R0 n d host).before a0 Z = true) (via : Via Z R0 O n d) (F : Sta Z h O n d v) (hr : WP C Z code ml own rt nm R n0 Q cl sl h pc' Ls (v :: st)) : WP C Z code ml own rt nm R n0 Q cl sl h pc Ls st := by
  subst hp
  refine hr.step fun X hx hby hml hown hZ hnm eT N => ?_
  obtain ⟨T', X', e', k⟩ := getS2 X hx hZ hown w via eT F (g := mkF _ pc Ls st) rfl (hb hby hd)
  exact ⟨T', _, X', e', N, fun t q => k t q⟩
theorem WP.putF {i kk : Nat} {R0 O n d host K : String} {ty : FieldType} {a : Addr} {v old : Value} (hd : decode code pc = .ok (.putfield i, 3)) (hp : pc + 3 = pc') (w : (Jvm.Cond.fieldLink own i R0 n d).before a0 Z = true ∨ (Jvm.Cond.fieldLinkNest own i R0 n d host).before a0 Z = true) (via : Via Z R0 O n d) (F : Fld Z h a O n d old) (E : Exa Z h a K) (L : (Jvm.Cond.lays K O n d).before a0 Z = true ∨ ((Jvm.Cond.laysFinal K O n d).before a0 Z = true ∧ own = O ∧ nm = "<init>")) (wi : (Jvm.Cond.instantiable K kk).before a0 Z = true)
    (hty : parseFieldDescriptor d = some ty) (hn : narrow ty v = v) (hf : fits ty v = true) (ge : n0 ≤ a) (hr : ∀ h', Wr h h' a (Jvm.RoadKit.slotOf Z O n d) v → WP C Z code ml own rt nm R n0 Q cl sl h' pc' Ls st) : WP C Z code ml own rt nm R n0 Q cl sl h pc Ls (v :: .ref a :: st) := by
  subst hp
  intro k1 k2 k3 k4 k5 k6 k7 k8 T locs X e N
  obtain ⟨T', h', X', e', W', k⟩ := RoadKit.putF X k1 k5 k4 w via e F E (L.imp id fun z => ⟨z.1, z.2.1, k8.trans z.2.2⟩) wi hty hn hf (g := mkF _ pc Ls (v :: .ref a :: st)) rfl rfl (hb k2 hd)
  obtain ⟨s₂, v', L', h1, h2⟩ := hr h' W' k1 k2 k3 k4 k5 k6 k7 k8 T' _ X' e' (Fr.snoc X' N ge)
  exact ⟨s₂, v', L', k _ h1, h2⟩
theorem WP.putFN {i kk : Nat} {R0 O n d K : String} {ty : FieldType} {a : Addr} {v v' old : Value} (hd : decode code pc = .ok (.putfield i, 3)) (hp : pc + 3 = pc') (w : (Jvm.Cond.fieldLink own i R0 n d).before a0 Z = true) (via : Via Z R0 O n d) (F : Fld Z h a O n d old) (E : Exa Z h a K) (L : (Jvm.Cond.lays K O n d).before a0 Z = true ∨ ((Jvm.Cond.laysFinal K O n d).before a0 Z = true ∧ own = O ∧ nm = "<init>")) (wi : (Jvm.Cond.instantiable K kk).before a0 Z = true)
    (hty : parseFieldDescriptor d = some ty) (hn : narrow ty v = v') (hf : fits ty v' = true) (ge : n0 ≤ a) (hr : ∀ h', Wr h h' a (Jvm.RoadKit.slotOf Z O n d) v' → WP C Z code ml own rt nm R n0 Q cl sl h' pc' Ls st) : WP C Z code ml own rt nm R n0 Q cl sl h pc Ls (v :: .ref a :: st) := by
  subst hp
  intro k1 k2 k3 k4 k5 k6 k7 k8 T locs X e N
  obtain ⟨T', h', X', e', W', k⟩ := RoadKit.putFN X k1 k5 k4 w via e F E (L.imp id fun z => ⟨z.1, z.2.1, k8.trans z.2.2⟩) wi hty hn hf (g := mkF _ pc Ls (v :: .ref a :: st)) rfl rfl (hb k2 hd)
  obtain ⟨s₂, v'', L', h1, h2⟩ := hr h' W' k1 k2 k3 k4 k5 k6 k7 k8 T' _ X' e' (Fr.snoc X' N ge)
  exact ⟨s₂, v'', L', k _ h1, h2⟩
theorem WP.newO {i n : Nat} {K : String} {cl' sl' : Nat} (hd : decode code pc = .ok (.new i, 3)) (hp : pc + 3 = pc') (w : (Jvm.Cond.classLink own i K).before a0 Z = true) (wi : (Jvm.Cond.instantiable K n).before a0 Z = true) (wz : (Jvm.Cond.initialized K).before a0 Z = true) (hc : cl + 1 = cl') (hs : sl + n = sl') (hc' : cl' ≤ R.cells) (hs' : sl' ≤ R.slots)
    (hr : ∀ h' a, a = h.size → Ext h h' → Exa Z h' a K → (∀ {O nf d : String} {ty : FieldType}, Laid Z a0 K O nf d → parseFieldDescriptor d = some ty → Fld Z h' a O nf d (defaultValue ty)) → WP C Z code ml own rt nm R n0 Q cl' sl' h' pc' Ls (.ref a :: st)) : WP C Z code ml own rt nm R n0 Q cl sl h pc Ls st := by
  subst hp hc hs
  intro k1 k2 k3 k4 k5 k6 k7 k8 T locs X e N
  obtain ⟨T', h', X', e', E', A', D', -, k⟩ := RoadKit.newO X k1 k5 k4 w wi wz e (g := mkF _ pc Ls st) rfl (hb k2 hd) hc' hs'
  obtain ⟨s₂, v', L', h1, h2⟩ := hr h' _ rfl E' A' D' k1 k2 k3 k4 k5 k6 k7 k8 T' _ X' e' N
  exact ⟨s₂, v', L', k _ h1, h2⟩
theorem WP.checkcast {i : Nat} {K : String} {a : Addr} (hd : decode code pc = .ok (.checkcast i, 3)) (hp : pc + 3 = pc') (w : (Jvm.Cond.classLink own i K).before a0 Z = true) (F : Ins Z h a K true) (hr : WP C Z code ml own rt nm R n0 Q cl sl h pc' Ls (.ref a :: st)) : WP C Z code ml own rt nm R n0 Q cl sl h pc Ls (.ref a :: st) := by
  subst hp
  refine hr.step fun X hx hby hml hown hZ hnm eT N => ?_
  obtain ⟨T', X', e', k⟩ := castY X hx hZ hown w eT F (g := mkF _ pc Ls (.ref a :: st)) rfl rfl (hb hby hd)
  exact ⟨T', _, X', e', N, fun t q => k t q⟩
theorem WP.instanceof {i : Nat} {K : String} {a : Addr} (hd : decode code pc = .ok (.instanceof i, 3)) (hp : pc + 3 = pc') (w : (Jvm.Cond.classLink own i K).before a0 Z = true) (F : Ins Z h a K true) (hr : WP C Z code ml own rt nm R n0 Q cl sl h pc' Ls (.int 1 :: st)) : WP C Z code ml own rt nm R n0 Q cl sl h pc Ls (.ref a :: st) := by
  subst hp
  refine hr.step fun X hx hby hml hown hZ hnm eT N => ?_
  obtain ⟨T', X', e', k⟩ := instY X hx hZ hown w eT F (g := mkF _ pc Ls (.ref a :: st)) rfl rfl (hb hby hd)
  exact ⟨T', _, X', e', N, fun t q => k t q⟩
/-- an array of n elements, the i-th is f i -/
def Arf (Z : State) (h : Heap) (a : Addr) (ty : FieldType) (n : Nat) (f : Nat → Value) : Prop := ∃ c : Cell, Arr Z h a c ty ∧ c.slots.size = n ∧ n < 2147483648 ∧ (∀ i, i < n → c.slots[i]? = some (f i)) ∧ ∀ i, i < n → fits ty (f i) = true
theorem Arf.lt {a : Addr} {ty : FieldType} {n : Nat} {f : Nat → Value} (A : Arf Z h a ty n f) : a < h.size := by obtain ⟨c, A, -⟩ := A; exact A.lt
theorem Arf.small {a : Addr} {ty : FieldType} {n : Nat} {f : Nat → Value} (A : Arf Z h a ty n f) : n < 2147483648 := by obtain ⟨c, -, -, h, -⟩ := A; exact h
theorem Arf.keep {h' : Heap} {ws : List Addr} {a : Addr} {ty : FieldType} {n : Nat} {f : Nat → Value} (A : Arf Z h a ty n f) (K : Keep h h' ws) (q : a ∉ ws) : Arf Z h' a ty n f := by obtain ⟨c, A, r⟩ := A; exact ⟨c, ⟨K.2.1 a c A.1 q, A.2⟩, r⟩
theorem Arf.ext {h' : Heap} {a : Addr} {ty : FieldType} {n : Nat} {f : Nat → Value} (A : Arf Z h a ty n f) (E : Ext h h') : Arf Z h' a ty n f := by obtain ⟨c, A, r⟩ := A; exact ⟨c, A.ext E, r⟩
theorem Arf.fit {a : Addr} {ty : FieldType} {n : Nat} {f : Nat → Value} (A : Arf Z h a ty n f) {i : Nat} (hi : i < n) : fits ty (f i) = true := by obtain ⟨c, -, -, -, -, r⟩ := A; exact r i hi
theorem Arf.congr {a : Addr} {ty : FieldType} {n : Nat} {f g : Nat → Value} (A : Arf Z h a ty n f) (q : ∀ i, i < n → f i = g i) : Arf Z h a ty n g := by
  obtain ⟨c, A, r1, r2, r3, r4⟩ := A; exact ⟨c, A, r1, r2, fun i hi => by rw [← q i hi]; exact r3 i hi, fun i hi => by rw [← q i hi]; exact r4 i hi⟩
theorem idxN {j : Int32} {i n : Nat} (hi : j.toInt = (i : Int)) (hl : i < n) : ¬ (j < 0 ∨ n ≤ j.toNatClampNeg) ∧ j.toNatClampNeg = i := by
  have e0 : (0 : Int32).toInt = 0 := rfl
  simp only [Int32.lt_iff_toInt_lt, Int32.toNatClampNeg, hi, e0]; omega
theorem WP.baload {a : Addr} {j : Int32} {n : Nat} {f : Nat → Value} {v : Value} (i : Nat) (hd : decode code pc = .ok (.baload, 1)) (hp : pc + 1 = pc') (A : Arf Z h a .byte n f) (hi : j.toInt = (i : Int)) (hl : i < n) (hv : f i = v) (hr : WP C Z code ml own rt nm R n0 Q cl sl h pc' Ls (v :: st)) : WP C Z code ml own rt nm R n0 Q cl sl h pc Ls (.int j :: .ref a :: st) := by
  subst hp hv
  obtain ⟨c, A, r1, r2, r3, r4⟩ := A
  obtain ⟨q1, q2⟩ := idxN hi hl
  exact hr.pure fun X hx hby hown hZ eT t q => X.baloadBytes hx (j := j) (by rw [eT]; exact A.1) (State.isArrayOf_alike hZ.alike A.2.1) A.2.2 (by rw [r1]; exact q1) (by rw [q2]; exact r3 i hl) (g := mkF _ pc Ls (.int j :: .ref a :: st)) rfl rfl (hb hby hd) t q
theorem WP.baloadZ {a : Addr} {j : Int32} {n : Nat} {f : Nat → Value} {v : Value} (i : Nat) (hd : decode code pc = .ok (.baload, 1)) (hp : pc + 1 = pc') (A : Arf Z h a .boolean n f) (hi : j.toInt = (i : Int)) (hl : i < n) (hv : f i = v) (hr : WP C Z code ml own rt nm R n0 Q cl sl h pc' Ls (v :: st)) : WP C Z code ml own rt nm R n0 Q cl sl h pc Ls (.int j :: .ref a :: st) := by
  subst hp hv
  obtain ⟨c, A, r1, r2, r3, r4⟩ := A
  obtain ⟨q1, q2⟩ := idxN hi hl
  exact hr.pure fun X hx hby hown hZ eT t q => X.baloadBooleans hx (j := j) (by rw [eT]; exact A.1) (State.isArrayOf_alike hZ.alike A.2.1) A.2.2 (by rw [r1]; exact q1) (by rw [q2]; exact r3 i hl) (g := mkF _ pc Ls (.int j :: .ref a :: st)) rfl rfl (hb hby hd) t q
theorem WP.caload {a : Addr} {j : Int32} {n : Nat} {f : Nat → Value} {v : Value} (i : Nat) (hd : decode code pc = .ok (.caload, 1)) (hp : pc + 1 = pc') (A : Arf Z h a .char n f) (hi : j.toInt = (i : Int)) (hl : i < n) (hv : f i = v) (hr : WP C Z code ml own rt nm R n0 Q cl sl h pc' Ls (v :: st)) : WP C Z code ml own rt nm R n0 Q cl sl h pc Ls (.int j :: .ref a :: st) := by
  subst hp hv
  obtain ⟨c, A, r1, r2, r3, r4⟩ := A
  obtain ⟨q1, q2⟩ := idxN hi hl
  exact hr.pure fun X hx hby hown hZ eT t q => X.caload hx (j := j) (by rw [eT]; exact A.1) (State.isArrayOf_alike hZ.alike A.2.1) A.2.2 (by rw [r1]; exact q1) (by rw [q2]; exact r3 i hl) (g := mkF _ pc Ls (.int j :: .ref a :: st)) rfl rfl (hb hby hd) t q
theorem WP.iaload {a : Addr} {j : Int32} {n : Nat} {f : Nat → Value} {v : Value} (i : Nat) (hd : decode code pc = .ok (.iaload, 1)) (hp : pc + 1 = pc') (A : Arf Z h a .int n f) (hi : j.toInt = (i : Int)) (hl : i < n) (hv : f i = v) (hr : WP C Z code ml own rt nm R n0 Q cl sl h pc' Ls (v :: st)) : WP C Z code ml own rt nm R n0 Q cl sl h pc Ls (.int j :: .ref a :: st) := by
  subst hp hv
  obtain ⟨c, A, r1, r2, r3, r4⟩ := A
  obtain ⟨q1, q2⟩ := idxN hi hl
  exact hr.pure fun X hx hby hown hZ eT t q => X.iaload hx (j := j) (by rw [eT]; exact A.1) (State.isArrayOf_alike hZ.alike A.2.1) A.2.2 (by rw [r1]; exact q1) (by rw [q2]; exact r3 i hl) (g := mkF _ pc Ls (.int j :: .ref a :: st)) rfl rfl (hb hby hd) t q
theorem WP.laload {a : Addr} {j : Int32} {n : Nat} {f : Nat → Value} {v : Value} (i : Nat) (hd : decode code pc = .ok (.laload, 1)) (hp : pc + 1 = pc') (A : Arf Z h a .long n f) (hi : j.toInt = (i : Int)) (hl : i < n) (hv : f i = v) (hr : WP C Z code ml own rt nm R n0 Q cl sl h pc' Ls (v :: st)) : WP C Z code ml own rt nm R n0 Q cl sl h pc Ls (.int j :: .ref a :: st) := by
  subst hp hv
  obtain ⟨c, A, r1, r2, r3, r4⟩ := A
  obtain ⟨q1, q2⟩ := idxN hi hl
  exact hr.pure fun X hx hby hown hZ eT t q => X.laload hx (j := j) (by rw [eT]; exact A.1) (State.isArrayOf_alike hZ.alike A.2.1) A.2.2 (by rw [r1]; exact q1) (by rw [q2]; exact r3 i hl) (g := mkF _ pc Ls (.int j :: .ref a :: st)) rfl rfl (hb hby hd) t q
theorem WP.saload {a : Addr} {j : Int32} {n : Nat} {f : Nat → Value} {v : Value} (i : Nat) (hd : decode code pc = .ok (.saload, 1)) (hp : pc + 1 = pc') (A : Arf Z h a .short n f) (hi : j.toInt = (i : Int)) (hl : i < n) (hv : f i = v) (hr : WP C Z code ml own rt nm R n0 Q cl sl h pc' Ls (v :: st)) : WP C Z code ml own rt nm R n0 Q cl sl h pc Ls (.int j :: .ref a :: st) := by
  subst hp hv
  obtain ⟨c, A, r1, r2, r3, r4⟩ := A
  obtain ⟨q1, q2⟩ := idxN hi hl
  exact hr.pure fun X hx hby hown hZ eT t q => X.saload hx (j := j) (by rw [eT]; exact A.1) (State.isArrayOf_alike hZ.alike A.2.1) A.2.2 (by rw [r1]; exact q1) (by rw [q2]; exact r3 i hl) (g := mkF _ pc Ls (.int j :: .ref a :: st)) rfl rfl (hb hby hd) t q
theorem WP.aaload {a : Addr} {j : Int32} {n : Nat} {f : Nat → Value} {v : Value} {ty : FieldType} (i : Nat) (hd : decode code pc = .ok (.aaload, 1)) (hp : pc + 1 = pc') (A : Arf Z h a ty n f) (hty : ty.isReference = true) (hi : j.toInt = (i : Int)) (hl : i < n) (hv : f i = v) (hr : WP C Z code ml own rt nm R n0 Q cl sl h pc' Ls (v :: st)) : WP C Z code ml own rt nm R n0 Q cl sl h pc Ls (.int j :: .ref a :: st) := by
  subst hp hv
  obtain ⟨c, A, r1, r2, r3, r4⟩ := A
  obtain ⟨q1, q2⟩ := idxN hi hl
  exact hr.pure fun X hx hby hown hZ eT t q => X.aaload hx (j := j) (by rw [eT]; exact A.1) (State.isArrayOf_alike hZ.alike A.2.1) hty A.2.2 (by rw [r1]; exact q1) (by rw [q2]; exact r3 i hl) (g := mkF _ pc Ls (.int j :: .ref a :: st)) rfl rfl (hb hby hd) t q
theorem WP.arraylength {a : Addr} {n : Nat} {f : Nat → Value} {ty : FieldType} {z : Int32} (hd : decode code pc = .ok (.arraylength, 1)) (hp : pc + 1 = pc') (A : Arf Z h a ty n f) (hz : n.toInt32 = z) (hr : WP C Z code ml own rt nm R n0 Q cl sl h pc' Ls (.int z :: st)) : WP C Z code ml own rt nm R n0 Q cl sl h pc Ls (.ref a :: st) := by
  subst hp hz
  obtain ⟨c, A, r1, r2, r3, r4⟩ := A
  exact hr.pure fun X hx hby hown hZ eT t q => X.arraylength hx (by rw [eT]; exact A.1) (State.isArrayOf_alike hZ.alike A.2.1) (g := mkF _ pc Ls (.ref a :: st)) rfl rfl (hb hby hd) t (by rw [r1]; exact q)
theorem Arf.set {h' : Heap} {a : Addr} {ty : FieldType} {n : Nat} {f : Nat → Value} {c : Cell} {v : Value} {j : Int32} {i : Nat} (A : Arr Z h a c ty) (r1 : c.slots.size = n) (r2 : n < 2147483648) (r3 : ∀ i, i < n → c.slots[i]? = some (f i)) (r4 : ∀ i, i < n → fits ty (f i) = true) (hv : fits ty v = true) (W : Wr h h' a j.toNatClampNeg v) (hj : j.toNatClampNeg = i) (hl : i < n) : Arf Z h' a ty n (fun k => if k = i then v else f k) := by
  subst hj
  refine ⟨_, A.same W, by rw [sz_set]; exact r1, r2, fun k hk => ?_, fun k hk => ?_⟩
  · by_cases e : k = j.toNatClampNeg
    · show _ = some (if k = j.toNatClampNeg then v else f k)
      rw [if_pos e, e]; simp [Cell.setSlot, r1, hl]
    · show _ = some (if k = j.toNatClampNeg then v else f k)
      rw [if_neg e, ← r3 k hk]; exact Array.getElem?_setIfInBounds_ne (Ne.symm e)
  · by_cases e : k = j.toNatClampNeg
    · simp only [if_pos e]; exact hv
    · simp only [if_neg e]; exact r4 k hk
theorem WP.bastore {a : Addr} {j : Int32} {x : Int32} {n : Nat} {f : Nat → Value} (i : Nat) (hd : decode code pc = .ok (.bastore, 1)) (hp : pc + 1 = pc') (A : Arf Z h a .byte n f) (hi : j.toInt = (i : Int)) (hl : i < n) (ge : n0 ≤ a) (hr : ∀ h', Keep h h' [a] → Arf Z h' a .byte n (fun k => if k = i then .int (nar .byte x) else f k) → WP C Z code ml own rt nm R n0 Q cl sl h' pc' Ls st) : WP C Z code ml own rt nm R n0 Q cl sl h pc Ls (.int x :: .int j :: .ref a :: st) := by
  subst hp
  obtain ⟨c, A, r1, r2, r3, r4⟩ := A
  obtain ⟨q1, q2⟩ := idxN hi hl
  intro k1 k2 k3 k4 k5 k6 k7 k8 T locs X e N
  obtain ⟨T', h', X', e', W', k⟩ := stB X k1 k5 e A (j := j) (x := x) (by rw [r1]; exact q1) (g := mkF _ pc Ls (.int x :: .int j :: .ref a :: st)) rfl rfl (hb k2 hd)
  obtain ⟨s₂, v', L', h1, h2⟩ := hr h' (Keep.of_wr W') (Arf.set A r1 r2 r3 r4 (fits_nar_byte x) W' q2 hl) k1 k2 k3 k4 k5 k6 k7 k8 T' _ X' e' (Fr.snoc X' N ge)
  exact ⟨s₂, v', L', k _ h1, h2⟩
theorem WP.castore {a : Addr} {j : Int32} {x : Int32} {n : Nat} {f : Nat → Value} (i : Nat) (hd : decode code pc = .ok (.castore, 1)) (hp : pc + 1 = pc') (A : Arf Z h a .char n f) (hi : j.toInt = (i : Int)) (hl : i < n) (ge : n0 ≤ a) (hr : ∀ h', Keep h h' [a] → Arf Z h' a .char n (fun k => if k = i then .int (nar .char x) else f k) → WP C Z code ml own rt nm R n0 Q cl sl h' pc' Ls st) : WP C Z code ml own rt nm R n0 Q cl sl h pc Ls (.int x :: .int j :: .ref a :: st) := by
  subst hp
  obtain ⟨c, A, r1, r2, r3, r4⟩ := A
  obtain ⟨q1, q2⟩ := idxN hi hl
  intro k1 k2 k3 k4 k5 k6 k7 k8 T locs X e N
  obtain ⟨T', h', X', e', W', k⟩ := stC X k1 k5 e A (j := j) (x := x) (by rw [r1]; exact q1) (g := mkF _ pc Ls (.int x :: .int j :: .ref a :: st)) rfl rfl (hb k2 hd)
  obtain ⟨s₂, v', L', h1, h2⟩ := hr h' (Keep.of_wr W') (Arf.set A r1 r2 r3 r4 (fits_nar_char x) W' q2 hl) k1 k2 k3 k4 k5 k6 k7 k8 T' _ X' e' (Fr.snoc X' N ge)
  exact ⟨s₂, v', L', k _ h1, h2⟩
theorem WP.iastore {a : Addr} {j : Int32} {x : Int32} {n : Nat} {f : Nat → Value} (i : Nat) (hd : decode code pc = .ok (.iastore, 1)) (hp : pc + 1 = pc') (A : Arf Z h a .int n f) (hi : j.toInt = (i : Int)) (hl : i < n) (ge : n0 ≤ a) (hr : ∀ h', Keep h h' [a] → Arf Z h' a .int n (fun k => if k = i then .int x else f k) → WP C Z code ml own rt nm R n0 Q cl sl h' pc' Ls st) : WP C Z code ml own rt nm R n0 Q cl sl h pc Ls (.int x :: .int j :: .ref a :: st) := by
  subst hp
  obtain ⟨c, A, r1, r2, r3, r4⟩ := A
  obtain ⟨q1, q2⟩ := idxN hi hl
  intro k1 k2 k3 k4 k5 k6 k7 k8 T locs X e N
  obtain ⟨T', h', X', e', W', k⟩ := stI X k1 k5 e A (j := j) (x := x) (by rw [r1]; exact q1) (g := mkF _ pc Ls (.int x :: .int j :: .ref a :: st)) rfl rfl (hb k2 hd)
  obtain ⟨s₂, v', L', h1, h2⟩ := hr h' (Keep.of_wr W') (Arf.set A r1 r2 r3 r4 rfl W' q2 hl) k1 k2 k3 k4 k5 k6 k7 k8 T' _ X' e' (Fr.snoc X' N ge)
  exact ⟨s₂, v', L', k _ h1, h2⟩
theorem WP.lastore {a : Addr} {j : Int32} {x : Int64} {n : Nat} {f : Nat → Value} (i : Nat) (hd : decode code pc = .ok (.lastore, 1)) (hp : pc + 1 = pc') (A : Arf Z h a .long n f) (hi : j.toInt = (i : Int)) (hl : i < n) (ge : n0 ≤ a) (hr : ∀ h', Keep h h' [a] → Arf Z h' a .long n (fun k => if k = i then .long x else f k) → WP C Z code ml own rt nm R n0 Q cl sl h' pc' Ls st) : WP C Z code ml own rt nm R n0 Q cl sl h pc Ls (.long x :: .int j :: .ref a :: st) := by
  subst hp
  obtain ⟨c, A, r1, r2, r3, r4⟩ := A
  obtain ⟨q1, q2⟩ := idxN hi hl
  intro k1 k2 k3 k4 k5 k6 k7 k8 T locs X e N
  obtain ⟨T', h', X', e', W', k⟩ := stJ X k1 k5 e A (j := j) (x := x) (by rw [r1]; exact q1) (g := mkF _ pc Ls (.long x :: .int j :: .ref a :: st)) rfl rfl (hb k2 hd)
  obtain ⟨s₂, v', L', h1, h2⟩ := hr h' (Keep.of_wr W') (Arf.set A r1 r2 r3 r4 rfl W' q2 hl) k1 k2 k3 k4 k5 k6 k7 k8 T' _ X' e' (Fr.snoc X' N ge)
  exact ⟨s₂, v', L', k _ h1, h2⟩
theorem WP.newP {aty : ArrayType} {z : Int32} {n cap : Nat} {cl' sl' : Nat} (hd : decode code pc = .ok (.newarray aty, 2)) (hp : pc + 2 = pc') (w : (Jvm.Cond.arrayClass (newarray.typeOf aty)).before a0 Z = true) (hz : z.toInt = (n : Int)) (hcap : n ≤ cap) (hbig : cap * 8 ≤ 536870912) (hc : cl + 1 = cl') (hs : sl + cap = sl') (hc' : cl' ≤ R.cells) (hs' : sl' ≤ R.slots)
    (hr : ∀ h' a, a = h.size → Ext h h' → Arf Z h' a (newarray.typeOf aty) n (fun _ => defaultValue (newarray.typeOf aty)) → WP C Z code ml own rt nm R n0 Q cl' sl' h' pc' Ls (.ref a :: st)) : WP C Z code ml own rt nm R n0 Q cl sl h pc Ls (.int z :: st) := by
  subst hp hc hs
  have e0 : (0 : Int32).toInt = 0 := rfl
  have hzn : z.toNatClampNeg = n := by simp only [Int32.toNatClampNeg, hz]; omega
  have hzl : n < 2147483648 := by have := z.toInt_lt; omega
  intro k1 k2 k3 k4 k5 k6 k7 k8 T locs X e N
  obtain ⟨T', h', cA, X', e', E', A', k⟩ := RoadKit.newP X k1 k5 w e (g := mkF _ pc Ls (.int z :: st)) rfl (hb k2 hd) rfl (by rw [Int32.lt_iff_toInt_lt, hz, e0]; omega) (cap := cap) (by rw [hzn]; exact hcap) hbig hc' hs'
  obtain ⟨s₂, v', L', h1, h2⟩ := hr h' _ rfl E' ⟨_, A', by rw [sz_new, hzn], hzl, fun i hi => by simp [newA, hzn, hi], fun i _ => by cases aty <;> rfl⟩ k1 k2 k3 k4 k5 k6 k7 k8 T' _ X' e' N
  exact ⟨s₂, v', L', k _ h1, h2⟩
def updI (g : Nat → Int32) (i : Nat) (x : Int32) : Nat → Int32 := fun k => if k = i then x else g k
def Ari (Z : State) (h : Heap) (a : Addr) (ty : FieldType) (n : Nat) (g : Nat → Int32) : Prop := Arf Z h a ty n (fun i => .int (g i))
theorem Ari.lt {a : Addr} {ty : FieldType} {n : Nat} {g : Nat → Int32} (A : Ari Z h a ty n g) : a < h.size := Arf.lt A
theorem Ari.small {a : Addr} {ty : FieldType} {n : Nat} {g : Nat → Int32} (A : Ari Z h a ty n g) : n < 2147483648 := Arf.small A
theorem Ari.keep {h' : Heap} {ws : List Addr} {a : Addr} {ty : FieldType} {n : Nat} {g : Nat → Int32} (A : Ari Z h a ty n g) (K : Keep h h' ws) (q : a ∉ ws) : Ari Z h' a ty n g := Arf.keep A K q
theorem Ari.ext {h' : Heap} {a : Addr} {ty : FieldType} {n : Nat} {g : Nat → Int32} (A : Ari Z h a ty n g) (E : Ext h h') : Ari Z h' a ty n g := Arf.ext A E
theorem Ari.congr {a : Addr} {ty : FieldType} {n : Nat} {f g : Nat → Int32} (A : Ari Z h a ty n f) (q : ∀ i, i < n → f i = g i) : Ari Z h a ty n g := Arf.congr A fun i hi => congrArg Value.int (q i hi)
theorem upd_at (g : Nat → Int32) (i : Nat) (x : Int32) : updI g i x i = x := if_pos rfl
theorem upd_ne {g : Nat → Int32} {i k : Nat} {x : Int32} (q : k ≠ i) : updI g i x k = g k := if_neg q
theorem upd_if (g : Nat → Int32) (i : Nat) (x : Int32) : (fun k => if k = i then Value.int x else Value.int (g k)) = fun k => Value.int (updI g i x k) := by funext k; unfold updI; split <;> rfl
theorem litN (z : Int32) (n : Nat) (h : z.toInt = (n : Int)) : z.toInt = (n : Int) := h
theorem WP.baloadI {a : Addr} {j : Int32} {n : Nat} {g : Nat → Int32} {v : Int32} (i : Nat) (hd : decode code pc = .ok (.baload, 1)) (hp : pc + 1 = pc') (A : Ari Z h a .byte n g) (hi : j.toInt = (i : Int)) (hl : i < n) (hv : g i = v) (hr : WP C Z code ml own rt nm R n0 Q cl sl h pc' Ls (.int v :: st)) : WP C Z code ml own rt nm R n0 Q cl sl h pc Ls (.int j :: .ref a :: st) := WP.baload i hd hp A hi hl (congrArg Value.int hv) hr
theorem WP.baloadZI {a : Addr} {j : Int32} {n : Nat} {g : Nat → Int32} {v : Int32} (i : Nat) (hd : decode code pc = .ok (.baload, 1)) (hp : pc + 1 = pc') (A : Ari Z h a .boolean n g) (hi : j.toInt = (i : Int)) (hl : i < n) (hv : g i = v) (hr : WP C Z code ml own rt nm R n0 Q cl sl h pc' Ls (.int v :: st)) : WP C Z code ml own rt nm R n0 Q cl sl h pc Ls (.int j :: .ref a :: st) := WP.baloadZ i hd hp A hi hl (congrArg Value.int hv) hr
theorem WP.caloadI {a : Addr} {j : Int32} {n : Nat} {g : Nat → Int32} {v : Int32} (i : Nat) (hd : decode code pc = .ok (.caload, 1)) (hp : pc + 1 = pc') (A : Ari Z h a .char n g) (hi : j.toInt = (i : Int)) (hl : i < n) (hv : g i = v) (hr : WP C Z code ml own rt nm R n0 Q cl sl h pc' Ls (.int v :: st)) : WP C Z code ml own rt nm R n0 Q cl sl h pc Ls (.int j :: .ref a :: st) := WP.caload i hd hp A hi hl (congrArg Value.int hv) hr
theorem WP.ialoadI {a : Addr} {j : Int32} {n : Nat} {g : Nat → Int32} {v : Int32} (i : Nat) (hd : decode code pc = .ok (.iaload, 1)) (hp : pc + 1 = pc') (A : Ari Z h a .int n g) (hi : j.toInt = (i : Int)) (hl : i < n) (hv : g i = v) (hr : WP C Z code ml own rt nm R n0 Q cl sl h pc' Ls (.int v :: st)) : WP C Z code ml own rt nm R n0 Q cl sl h pc Ls (.int j :: .ref a :: st) := WP.iaload i hd hp A hi hl (congrArg Value.int hv) hr
theorem WP.saloadI {a : Addr} {j : Int32} {n : Nat} {g : Nat → Int32} {v : Int32} (i : Nat) (hd : decode code pc = .ok (.saload, 1)) (hp : pc + 1 = pc') (A : Ari Z h a .short n g) (hi : j.toInt = (i : Int)) (hl : i < n) (hv : g i = v) (hr : WP C Z code ml own rt nm R n0 Q cl sl h pc' Ls (.int v :: st)) : WP C Z code ml own rt nm R n0 Q cl sl h pc Ls (.int j :: .ref a :: st) := WP.saload i hd hp A hi hl (congrArg Value.int hv) hr
theorem WP.bastoreI {a : Addr} {j x x' : Int32} {n : Nat} {g : Nat → Int32} (i : Nat) (hd : decode code pc = .ok (.bastore, 1)) (hp : pc + 1 = pc') (A : Ari Z h a .byte n g) (hi : j.toInt = (i : Int)) (hl : i < n) (ge : n0 ≤ a) (hx : nar .byte x = x') (hr : ∀ h', Keep h h' [a] → Ari Z h' a .byte n (updI g i x') → WP C Z code ml own rt nm R n0 Q cl sl h' pc' Ls st) : WP C Z code ml own rt nm R n0 Q cl sl h pc Ls (.int x :: .int j :: .ref a :: st) := by
  subst hx
  exact WP.bastore i hd hp A hi hl ge fun h' K A' => hr h' K (by unfold Ari; rw [← upd_if]; exact A')
theorem WP.castoreI {a : Addr} {j x x' : Int32} {n : Nat} {g : Nat → Int32} (i : Nat) (hd : decode code pc = .ok (.castore, 1)) (hp : pc + 1 = pc') (A : Ari Z h a .char n g) (hi : j.toInt = (i : Int)) (hl : i < n) (ge : n0 ≤ a) (hx : nar .char x = x') (hr : ∀ h', Keep h h' [a] → Ari Z h' a .char n (updI g i x') → WP C Z code ml own rt nm R n0 Q cl sl h' pc' Ls st) : WP C Z code ml own rt nm R n0 Q cl sl h pc Ls (.int x :: .int j :: .ref a :: st) := by
  subst hx
  exact WP.castore i hd hp A hi hl ge fun h' K A' => hr h' K (by unfold Ari; rw [← upd_if]; exact A')
theorem WP.iastoreI {a : Addr} {j x x' : Int32} {n : Nat} {g : Nat → Int32} (i : Nat) (hd : decode code pc = .ok (.iastore, 1)) (hp : pc + 1 = pc') (A : Ari Z h a .int n g) (hi : j.toInt = (i : Int)) (hl : i < n) (ge : n0 ≤ a) (hx : x = x') (hr : ∀ h', Keep h h' [a] → Ari Z h' a .int n (updI g i x') → WP C Z code ml own rt nm R n0 Q cl sl h' pc' Ls st) : WP C Z code ml own rt nm R n0 Q cl sl h pc Ls (.int x :: .int j :: .ref a :: st) := by
  subst hx
  exact WP.iastore i hd hp A hi hl ge fun h' K A' => hr h' K (by unfold Ari; rw [← upd_if]; exact A')
theorem WP.newPI {aty : ArrayType} {ty : FieldType} {z : Int32} {n cap : Nat} {cl' sl' : Nat} (hd : decode code pc = .ok (.newarray aty, 2)) (hp : pc + 2 = pc') (hty : newarray.typeOf aty = ty) (hdv : defaultValue ty = .int 0) (w : (Jvm.Cond.arrayClass ty).before a0 Z = true) (hz : z.toInt = (n : Int)) (hcap : n ≤ cap) (hbig : cap * 8 ≤ 536870912) (hc : cl + 1 = cl') (hs : sl + cap = sl') (hc' : cl' ≤ R.cells) (hs' : sl' ≤ R.slots)
    (hr : ∀ h' a, a = h.size → Ext h h' → Ari Z h' a ty n (fun _ => 0) → WP C Z code ml own rt nm R n0 Q cl' sl' h' pc' Ls (.ref a :: st)) : WP C Z code ml own rt nm R n0 Q cl sl h pc Ls (.int z :: st) := by
  subst hty
  exact WP.newP hd hp w hz hcap hbig hc hs hc' hs' fun h' a e E A => hr h' a e E (by rw [hdv] at A; exact A)
theorem WP.arraylengthI {a : Addr} {n : Nat} {g : Nat → Int32} {ty : FieldType} {z : Int32} (hd : decode code pc = .ok (.arraylength, 1)) (hp : pc + 1 = pc') (A : Ari Z h a ty n g) (hz : n.toInt32 = z) (hr : WP C Z code ml own rt nm R n0 Q cl sl h pc' Ls (.int z :: st)) : WP C Z code ml own rt nm R n0 Q cl sl h pc Ls (.ref a :: st) := WP.arraylength hd hp A hz hr
/-- the array's class is that of arrays of C -/
def Ocl (Z : State) (h : Heap) (a : Addr) (K : String) : Prop := ∃ c : Cell, h[a]? = some c ∧ Ovr Z c.cls K
theorem Ocl.ext {h' : Heap} {a : Addr} {K : String} (O : Ocl Z h a K) (E : Ext h h') : Ocl Z h' a K := by obtain ⟨c, h1, h2⟩ := O; exact ⟨c, E.2 _ _ h1, h2⟩
theorem Ocl.keep {h' : Heap} {ws : List Addr} {a : Addr} {K : String} (O : Ocl Z h a K) (E : Keep h h' ws) : Ocl Z h' a K := by
  obtain ⟨c, h1, h2⟩ := O
  obtain ⟨c', q1, q2, -⟩ := E.2.2 _ _ h1
  exact ⟨c', q1, by rw [q2]; exact h2⟩
theorem Ocl.sto {a y : Addr} {K : String} {ty : FieldType} {n : Nat} {f : Nat → Value} (O : Ocl Z h a K) (A : Arf Z h a ty n f) (I : Ins Z h y K true) : Sto Z h a (.ref y) := by
  obtain ⟨c, h1, h2⟩ := O
  obtain ⟨c', A, -⟩ := A
  cases h1.symm.trans A.1
  exact Sto.of A h2 I
def updV (g : Nat → Value) (i : Nat) (x : Value) : Nat → Value := fun k => if k = i then x else g k
theorem WP.newR {i n cap : Nat} {K : String} {z : Int32} {cl' sl' : Nat} (hd : decode code pc = .ok (.anewarray i, 3)) (hp : pc + 3 = pc') (w1 : (Jvm.Cond.classLink own i K).before a0 Z = true) (w2 : (Jvm.Cond.arrayOver (.object K)).before a0 Z = true) (hz : z.toInt = (n : Int)) (hcap : n ≤ cap) (hbig : cap * 8 ≤ 536870912) (hc : cl + 1 = cl') (hs : sl + cap = sl') (hc' : cl' ≤ R.cells) (hs' : sl' ≤ R.slots)
    (hr : ∀ h' a, a = h.size → Ext h h' → Arf Z h' a (.object K) n (fun _ => .null) → Ocl Z h' a K → WP C Z code ml own rt nm R n0 Q cl' sl' h' pc' Ls (.ref a :: st)) : WP C Z code ml own rt nm R n0 Q cl sl h pc Ls (.int z :: st) := by
  subst hp hc hs
  have e0 : (0 : Int32).toInt = 0 := rfl
  have hzn : z.toNatClampNeg = n := by simp only [Int32.toNatClampNeg, hz]; omega
  have hzl : n < 2147483648 := by have := z.toInt_lt; omega
  intro k1 k2 k3 k4 k5 k6 k7 k8 T locs X e N
  obtain ⟨T', h', cA, X', e', E', A', O', k⟩ := RoadKit.newR X k1 k5 k4 w1 w2 e (g := mkF _ pc Ls (.int z :: st)) rfl (hb k2 hd) rfl (by rw [Int32.lt_iff_toInt_lt, hz, e0]; omega) (cap := cap) (by rw [hzn]; exact hcap) hbig hc' hs'
  obtain ⟨s₂, v', L', h1, h2⟩ := hr h' _ rfl E' ⟨_, A', by rw [sz_new, hzn], hzl, fun i hi => by simp [newA, hzn, hi, defaultValue], fun i _ => rfl⟩ ⟨_, A'.1, O'⟩ k1 k2 k3 k4 k5 k6 k7 k8 T' _ X' e' N
  exact ⟨s₂, v', L', k _ h1, h2⟩
theorem WP.aastore {a : Addr} {j : Int32} {x : Value} {n : Nat} {f : Nat → Value} {ty : FieldType} (i : Nat) (hd : decode code pc = .ok (.aastore, 1)) (hp : pc + 1 = pc') (A : Arf Z h a ty n f) (hty : ty.isReference = true) (F : Sto Z h a x) (hf : fits ty x = true) (hi : j.toInt = (i : Int)) (hl : i < n) (ge : n0 ≤ a) (hr : ∀ h', Keep h h' [a] → Arf Z h' a ty n (updV f i x) → WP C Z code ml own rt nm R n0 Q cl sl h' pc' Ls st) : WP C Z code ml own rt nm R n0 Q cl sl h pc Ls (x :: .int j :: .ref a :: st) := by
  subst hp
  obtain ⟨c, A, r1, r2, r3, r4⟩ := A
  obtain ⟨q1, q2⟩ := idxN hi hl
  intro k1 k2 k3 k4 k5 k6 k7 k8 T locs X e N
  obtain ⟨T', h', X', e', W', k⟩ := stR X k1 k5 e A (j := j) (by rw [r1]; exact q1) hty F (g := mkF _ pc Ls (x :: .int j :: .ref a :: st)) rfl rfl (hb k2 hd)
  obtain ⟨s₂, v', L', h1, h2⟩ := hr h' (Keep.of_wr W') (Arf.set A r1 r2 r3 r4 hf W' q2 hl) k1 k2 k3 k4 k5 k6 k7 k8 T' _ X' e' (Fr.snoc X' N ge)
  exact ⟨s₂, v', L', k _ h1, h2⟩
theorem getD_range {f : Nat → Int32} {m n : Nat} (h : m < n) : ((List.range n).map fun i => Value.int (f i)).getD m (.int 0) = .int (f m) := by
  simp [List.getD_eq_getElem?_getD, h]
theorem Ari.arv {a : Addr} {ty : FieldType} {n : Nat} {g : Nat → Int32} (A : Ari Z h a ty n g) : ∃ (k : ClassId) (z : Int32), z.toNatClampNeg = n ∧ Arv Z h a k ty z ((List.range n).map fun i => Value.int (g i)) (.int 0) := by
  obtain ⟨c, A, r1, r2, r3, r4⟩ := A
  have e1 : n.toInt32.toInt = (n : Int) := len_toInt r2
  have e0 : (0 : Int32).toInt = 0 := rfl
  have e2 : n.toInt32.toNatClampNeg = n := by simp only [Int32.toNatClampNeg, e1]; omega
  refine ⟨c.cls, n.toInt32, e2, c, A, rfl, by rw [e2]; exact r1, by rw [Int32.lt_iff_toInt_lt, e1, e0]; omega, fun i hi => ?_, fun i hi => ?_⟩
  · rw [r1] at hi; rw [getD_range hi]; exact r3 i hi
  · rw [r1] at hi; rw [getD_range hi]; exact r4 i hi
/-- n elements of f from sp on, laid into g from dp on -/
def blit (f g : Nat → Int32) (sp dp n : Nat) : Nat → Int32 := fun k => if dp ≤ k ∧ k < dp + n then f (sp + (k - dp)) else g k
theorem WP.arraycopy {i : Nat} {a b : Addr} {ty : FieldType} {na nb sp dp nn wd : Nat} {zs zd zn : Int32} {f g : Nat → Int32} (hd : decode code pc = .ok (.invokestatic i, 3)) (hp : pc + 3 = pc') (w1 : (Jvm.Cond.methodLink own i Jvm.Stand.acN).before a0 Z = true) (w2 : (Jvm.Cond.native Jvm.Stand.acN).before a0 Z = true) (w3 : (Jvm.Cond.static Jvm.Stand.acN).before a0 Z = true) (w4 : (Jvm.Cond.initialized "java/lang/System").before a0 Z = true) (A : Ari Z h a ty na f) (B : Ari Z h b ty nb g) (hty : refKind ty = false) (hs1 : zs.toInt = (sp : Int)) (hd1 : zd.toInt = (dp : Int)) (hn1 : zn.toInt = (nn : Int)) (h4 : sp + nn ≤ na) (h5 : dp + nn ≤ nb) (ge : n0 ≤ b) (hml : Ls.size = ml) (hf : 1 ≤ R.frames) (hw : (st.map fun v => v.category).sum ≤ wd) (hlo : wd + (nativeFrameWords "java/lang/System" "arraycopy" 5 + 11) ≤ R.locals)
    (hr : ∀ h', Keep h h' [b] → Ari Z h' b ty nb (blit f g sp dp nn) → WP C Z code ml own rt nm R n0 Q cl sl h' pc' Ls st) : WP C Z code ml own rt nm R n0 Q cl sl h pc Ls (.int zn :: .int zd :: .ref b :: .int zs :: .ref a :: st) := by
  subst hp
  obtain ⟨ka, za, ea, A'⟩ := A.arv
  obtain ⟨kb, zb, eb, B'⟩ := B.arv
  have hsm := B.small
  have e0 : (0 : Int32).toInt = 0 := rfl
  have q1 : zs.toNatClampNeg = sp := by simp only [Int32.toNatClampNeg, hs1]; omega
  have q2 : zd.toNatClampNeg = dp := by simp only [Int32.toNatClampNeg, hd1]; omega
  have q3 : zn.toNatClampNeg = nn := by simp only [Int32.toNatClampNeg, hn1]; omega
  intro k1 k2 k3 k4 k5 k6 k7 k8 T locs X e N
  obtain ⟨T', h', L', X', e', N', K', V', k⟩ := cpA X k1 k5 k4 w1 w2 w3 w4 e (sp := zs) (dp := zd) (nn := zn) A' B' (Or.inl ⟨rfl, hty⟩) (by rw [Int32.lt_iff_toInt_lt, hs1, e0]; omega) (by rw [Int32.lt_iff_toInt_lt, hd1, e0]; omega) (by rw [Int32.lt_iff_toInt_lt, hn1, e0]; omega) (by rw [q1, q3, ea]; exact h4) (by rw [q2, q3, eb]; exact h5) rfl (by rw [q2, q3, List.length_map, List.length_range]; exact h5) N ge (g := mkF _ pc Ls (.int zn :: .int zd :: .ref b :: .int zs :: .ref a :: st)) rfl (by rw [k3]; exact hml) rfl (hb k2 hd) hf (W := wd) (by show 2 * 0 + _ ≤ _; omega) hlo
  rw [q1, q2, q3] at V'
  have VV : Ari Z h' b ty nb (blit f g sp dp nn) := by
    obtain ⟨c, A, r1, r2, r3, H, G⟩ := V'
    rw [eb] at r2
    have key : ∀ i, i < nb → (((List.range nb).map fun i => Value.int (g i)).take dp ++ (List.range nn).map (fun i => ((List.range na).map fun i => Value.int (f i)).getD (sp + i) (.int 0)) ++ ((List.range nb).map fun i => Value.int (g i)).drop (dp + nn)).getD i (.int 0) = .int (blit f g sp dp nn i) := by
      intro i hi
      simp only [List.getD_eq_getElem?_getD, blit]
      by_cases c1 : i < dp
      · rw [List.append_assoc, List.getElem?_append_left (by simp; omega), if_neg (by omega)]; simp [List.getElem?_take, c1, hi]
      · by_cases c2 : i < dp + nn
        · rw [List.getElem?_append_left (by simp; omega), List.getElem?_append_right (by simp; omega), if_pos (by omega)]
          have z1 : min dp nb = dp := by omega
          have z2 : i - dp < nn := by omega
          have z3 : sp + (i - dp) < na := by omega
          simp [z1, z2, z3]
        · rw [List.getElem?_append_right (by simp; omega), if_neg (by omega)]
          have z1 : min dp nb = dp := by omega
          have z2 : dp + nn + (i - (dp + nn)) = i := by omega
          simp [z1, z2, hi]
    exact ⟨c, A, r2, hsm, fun i hi => by rw [H i (by rw [r2]; exact hi), key i hi], fun i hi => by have := G i (by rw [r2]; exact hi); rw [key i hi] at this; exact this⟩
  obtain ⟨s₂, v', L2, h1, h2⟩ := hr h' K' VV k1 k2 k3 k4 k5 k6 k7 k8 T' _ X' e' N'
  exact ⟨s₂, v', L2, k _ h1, h2⟩
theorem WP.initO {i : Nat} {a : Addr} {wd : Nat} (hd : decode code pc = .ok (.invokespecial i, 3)) (hp : pc + 3 = pc') (w1 : (Jvm.Cond.methodLink own i Lib.objectInit).before a0 Z = true) (w2 : (Jvm.Cond.instanceMethod Lib.objectInit).before a0 Z = true) (w3 : (Jvm.Cond.code Lib.objectInit ⟨#[0xb1]⟩ 1 none).before a0 Z = true) (hml : Ls.size = ml) (hf : 1 ≤ R.frames) (hw : (st.map fun v => v.category).sum ≤ wd) (hl : wd + 12 ≤ R.locals) (hr : WP C Z code ml own rt nm R n0 Q cl sl h pc' Ls st) : WP C Z code ml own rt nm R n0 Q cl sl h pc Ls (.ref a :: st) := by
  subst hp
  refine hr.step fun X hx hby hml' hown hZ hnm eT N => ?_
  obtain ⟨T', X', e', k⟩ := RoadKit.initO X hx hZ hown w1 w2 w3 eT (g := mkF _ pc Ls (.ref a :: st)) rfl (by rw [hml']; exact hml) rfl (hb hby hd) hf (W := wd) (by show 2 * 0 + _ ≤ _; omega) hl
  exact ⟨T', _, X', e', N, fun t q => k t q⟩
theorem WP.callS {i : Nat} {y : MethodName} {code' : ByteArray} {ml' wd cl' sl' : Nat} {rt' : Option FieldType} {R' : Room} {Q' : Option Value → Heap → Prop} {argsL rest : List Value} {ps : List FieldType} {rr : Option FieldType} (hd : decode code pc = .ok (.invokestatic i, 3)) (hp : pc + 3 = pc') (w1 : (Jvm.Cond.methodLink own i y).before a0 Z = true) (w2 : (Jvm.Cond.static y).before a0 Z = true) (w3 : (Jvm.Cond.initialized y.cls).before a0 Z = true) (w4 : (Jvm.Cond.code y code' ml' rt').before a0 Z = true) (hy : y.cls ≠ "java/lang/invoke/MethodHandle" ∧ y.cls ≠ "java/lang/invoke/VarHandle") (hM : ∀ l, Does l Z y code' ml' rt' R' n0 argsL.toArray h Q') (hpd : parseMethodDescriptor y.desc = some ⟨ps, rr⟩) (hlen : argsL.length = ps.length) (hst : st = argsL.reverse ++ rest) (hml : Ls.size = ml) (hw : (rest.map fun v => v.category).sum ≤ wd) (hrm : R'.frames + 1 ≤ R.frames) (hlo : wd + (ml' + 11) + R'.locals ≤ R.locals) (hc : cl + R'.cells = cl') (hs : sl + R'.slots = sl') (hc' : cl' ≤ R.cells) (hs' : sl' ≤ R.slots)
    (hr : ∀ v h', Q' v h' → WP C Z code ml own rt nm R n0 Q cl' sl' h' pc' Ls (v.toList ++ rest)) : WP C Z code ml own rt nm R n0 Q cl sl h pc Ls st := by
  subst hp hc hs
  intro k1 k2 k3 k4 k5 k6 k7 k8 T locs X e N
  obtain ⟨v, _, ⟨T', L', c', n'⟩, -, X', ⟨Lc, hQ, l1, y1, z1⟩, k⟩ := Jvm.LawKit.callS X k1 (y := y) k4 (mvT k5 w1) (mvT k5 w2) (mvT k5 w3) (mvT k5 w4) hy (backOf (W := wd) (Q := fun v h L => Q' v h ∧ Fr n0 L) (hM _ []) k5 w4 w3 hrm hlo) (g := mkF _ pc Ls st) rfl (by rw [k3]; exact hml) (argsL := argsL) (rest := rest) (lenOf hpd hlen) hst (by show 2 * 0 + _ ≤ _; omega) (hb k2 hd) (fun _ _ => ⟨rfl, e, hc', hs'⟩)
  dsimp only [Pt.U, Pt.locs, Pt.cells, Pt.slots] at X' l1 y1 z1 k hQ
  subst l1 y1 z1
  obtain ⟨s₂, v', L2, h1, h2⟩ := hr v _ hQ.1 k1 k2 k3 k4 k5 k6 k7 k8 T' _ X' rfl (Fr.app N hQ.2)
  exact ⟨s₂, v', L2, k _ h1, h2⟩
theorem WP.callI {a : Addr} {i : Nat} {y : MethodName} {code' : ByteArray} {ml' wd cl' sl' : Nat} {R' : Room} {Q' : Option Value → Heap → Prop} {argsL rest : List Value} {ps : List FieldType} {rr : Option FieldType} (hd : decode code pc = .ok (.invokespecial i, 3)) (hp : pc + 3 = pc') (hy1 : y.name = "<init>") (w1 : (Jvm.Cond.methodLink own i y).before a0 Z = true) (w2 : (Jvm.Cond.instanceMethod y).before a0 Z = true) (w3 : (Jvm.Cond.initialized y.cls).before a0 Z = true) (w4 : (Jvm.Cond.code y code' ml' none).before a0 Z = true) (hy : y.cls ≠ "java/lang/invoke/MethodHandle" ∧ y.cls ≠ "java/lang/invoke/VarHandle") (hM : ∀ l, Does l Z y code' ml' none R' n0 (.ref a :: argsL).toArray h Q') (hpd : parseMethodDescriptor y.desc = some ⟨ps, rr⟩) (hlen : argsL.length = ps.length) (hst : st = argsL.reverse ++ .ref a :: rest) (hml : Ls.size = ml) (hw : (rest.map fun v => v.category).sum ≤ wd) (hrm : R'.frames + 1 ≤ R.frames) (hlo : wd + (ml' + 11) + R'.locals ≤ R.locals) (hc : cl + R'.cells = cl') (hs : sl + R'.slots = sl') (hc' : cl' ≤ R.cells) (hs' : sl' ≤ R.slots)
    (hr : ∀ v h', Q' v h' → WP C Z code ml own rt nm R n0 Q cl' sl' h' pc' Ls (v.toList ++ rest)) : WP C Z code ml own rt nm R n0 Q cl sl h pc Ls st := by
  subst hp hc hs
  intro k1 k2 k3 k4 k5 k6 k7 k8 T locs X e N
  obtain ⟨v, _, ⟨T', L', c', n'⟩, -, X', ⟨Lc, hQ, l1, y1, z1⟩, k⟩ := X.specialBack k1 (y := y) hy1 k4 (mvT k5 w1) (mvT k5 w2) (mvT k5 w4) hy (backOf (W := wd) (Q := fun v h L => Q' v h ∧ Fr n0 L) (hM _ []) k5 w4 w3 hrm hlo) (g := mkF _ pc Ls st) rfl (by rw [k3]; exact hml) (Steps.refl _) (a := a) (argsL := argsL) (rest := rest) (lenOf hpd hlen) hst (by show 2 * 0 + _ ≤ _; omega) (hb k2 hd) (fun _ _ => ⟨rfl, e, hc', hs'⟩)
  dsimp only [Pt.U, Pt.locs, Pt.cells, Pt.slots] at X' l1 y1 z1 k hQ
  subst l1 y1 z1
  obtain ⟨s₂, v', L2, h1, h2⟩ := hr v _ hQ.1 k1 k2 k3 k4 k5 k6 k7 k8 T' _ X' rfl (Fr.app N hQ.2)
  exact ⟨s₂, v', L2, k.trans h1, h2⟩
theorem WP.callV {a : Addr} {z : MethodName} {K : String} {i : Nat} {y : MethodName} {code' : ByteArray} {ml' wd cl' sl' : Nat} {rt' : Option FieldType} {R' : Room} {Q' : Option Value → Heap → Prop} {argsL rest : List Value} {ps : List FieldType} {rr : Option FieldType} (hd : decode code pc = .ok (.invokevirtual i, 3)) (hp : pc + 3 = pc') (w1 : (Jvm.Cond.methodLink own i y).before a0 Z = true) (wd1 : (Jvm.Cond.declares y).before a0 Z = true) (hnf : ∀ s : State, Z.Warmed39 s.vm → NotFace s y) (ws : (Jvm.Cond.selects K y z).before a0 Z = true) (w2 : (Jvm.Cond.instanceMethod z).before a0 Z = true) (w3 : (Jvm.Cond.initialized z.cls).before a0 Z = true) (w4 : (Jvm.Cond.code z code' ml' rt').before a0 Z = true) (hy : y.cls ≠ "java/lang/invoke/MethodHandle" ∧ y.cls ≠ "java/lang/invoke/VarHandle") (E : Exa Z h a K) (hM : ∀ l, Does l Z z code' ml' rt' R' n0 (.ref a :: argsL).toArray h Q') (hpd : parseMethodDescriptor y.desc = some ⟨ps, rr⟩) (hlen : argsL.length = ps.length) (hst : st = argsL.reverse ++ .ref a :: rest) (hml : Ls.size = ml) (hw : (rest.map fun v => v.category).sum ≤ wd) (hrm : R'.frames + 1 ≤ R.frames) (hlo : wd + (ml' + 11) + R'.locals ≤ R.locals) (hc : cl + R'.cells = cl') (hs : sl + R'.slots = sl') (hc' : cl' ≤ R.cells) (hs' : sl' ≤ R.slots)
    (hr : ∀ v h', Q' v h' → WP C Z code ml own rt nm R n0 Q cl' sl' h' pc' Ls (v.toList ++ rest)) : WP C Z code ml own rt nm R n0 Q cl sl h pc Ls st := by
  subst hp hc hs
  intro k1 k2 k3 k4 k5 k6 k7 k8 T locs X e N
  obtain ⟨cq, kq, q1, q2, q3⟩ := isOf k5 e E
  obtain ⟨v, _, ⟨T', L', c', n'⟩, -, X', ⟨Lc, hQ, l1, y1, z1⟩, k⟩ := X.virtualBack k1 (y := y) (z := z) k4 (mvT k5 w1) (mvT k5 wd1) (hnf _ k5) (mvT k5 ws) (mvT k5 w2) hy (backOf (W := wd) (Q := fun v h L => Q' v h ∧ Fr n0 L) (hM _ []) k5 w4 w3 hrm hlo) q1 q3 (g := mkF _ pc Ls st) rfl (by rw [k3]; exact hml) (Steps.refl _) (argsL := argsL) (rest := rest) (lenOf hpd hlen) hst (by show 2 * 0 + _ ≤ _; omega) (hb k2 hd) (fun _ _ => ⟨rfl, e, hc', hs'⟩)
  dsimp only [Pt.U, Pt.locs, Pt.cells, Pt.slots] at X' l1 y1 z1 k hQ
  subst l1 y1 z1
  obtain ⟨s₂, v', L2, h1, h2⟩ := hr v _ hQ.1 k1 k2 k3 k4 k5 k6 k7 k8 T' _ X' rfl (Fr.app N hQ.2)
  exact ⟨s₂, v', L2, k.trans h1, h2⟩
theorem nfS {y z : MethodName} {K : String} (ws : (Jvm.Cond.selects K y z).before a0 Z = true) (e : y = z) : ∀ s : State, Z.Warmed39 s.vm → NotFace s y := by subst e; exact fun s k => notFace_of_selects (args := #[]) (mvT k ws)
theorem WP.callP {a : Addr} {K : String} {i : Nat} {y : MethodName} {code' : ByteArray} {ml' wd cl' sl' : Nat} {rt' : Option FieldType} {R' : Room} {Q' : Option Value → Heap → Prop} {argsL rest : List Value} {ps : List FieldType} {rr : Option FieldType} (hd : decode code pc = .ok (.invokevirtual i, 3)) (hp : pc + 3 = pc') (w1 : (Jvm.Cond.methodLink own i y).before a0 Z = true) (w2 : (Jvm.Cond.instanceMethod y).before a0 Z = true) (ws : (Jvm.Cond.selects y.cls y y).before a0 Z = true) (wp : (Jvm.Cond.privateMethod y).before a0 Z = true) (w3 : (Jvm.Cond.initialized y.cls).before a0 Z = true) (w4 : (Jvm.Cond.code y code' ml' rt').before a0 Z = true) (hy : y.cls ≠ "java/lang/invoke/MethodHandle" ∧ y.cls ≠ "java/lang/invoke/VarHandle") (E : Exa Z h a K) (hM : ∀ l, Does l Z y code' ml' rt' R' n0 (.ref a :: argsL).toArray h Q') (hpd : parseMethodDescriptor y.desc = some ⟨ps, rr⟩) (hlen : argsL.length = ps.length) (hst : st = argsL.reverse ++ .ref a :: rest) (hml : Ls.size = ml) (hw : (rest.map fun v => v.category).sum ≤ wd) (hrm : R'.frames + 1 ≤ R.frames) (hlo : wd + (ml' + 11) + R'.locals ≤ R.locals) (hc : cl + R'.cells = cl') (hs : sl + R'.slots = sl') (hc' : cl' ≤ R.cells) (hs' : sl' ≤ R.slots)
    (hr : ∀ v h', Q' v h' → WP C Z code ml own rt nm R n0 Q cl' sl' h' pc' Ls (v.toList ++ rest)) : WP C Z code ml own rt nm R n0 Q cl sl h pc Ls st := by
  subst hp hc hs
  intro k1 k2 k3 k4 k5 k6 k7 k8 T locs X e N
  obtain ⟨cq, q1, q2⟩ := E.cell
  obtain ⟨v, _, ⟨T', L', c', n'⟩, -, X', ⟨Lc, hQ, l1, y1, z1⟩, k⟩ := X.privateBack k1 (y := y) k4 (mvT k5 w1) (mvT k5 w2) (mvT k5 ws) (Cond.privateMethod_at (mvP k5 wp (args := #[]))) (mvT k5 w4) hy (backOf (W := wd) (Q := fun v h L => Q' v h ∧ Fr n0 L) (hM _ []) k5 w4 w3 hrm hlo) (g := mkF _ pc Ls st) rfl (by rw [k3]; exact hml) (Steps.refl _) (a := a) (by rw [e]; exact q1) q2 (argsL := argsL) (rest := rest) (lenOf hpd hlen) hst (by show 2 * 0 + _ ≤ _; omega) (hb k2 hd) (fun _ _ => ⟨rfl, e, hc', hs'⟩)
  dsimp only [Pt.U, Pt.locs, Pt.cells, Pt.slots] at X' l1 y1 z1 k hQ
  subst l1 y1 z1
  obtain ⟨s₂, v', L2, h1, h2⟩ := hr v _ hQ.1 k1 k2 k3 k4 k5 k6 k7 k8 T' _ X' rfl (Fr.app N hQ.2)
  exact ⟨s₂, v', L2, k.trans h1, h2⟩
theorem WP.iret {z : Int32} (hd : decode code pc = .ok (.ireturn, 1)) (hrt : rt = some .int) (hc : cl ≤ R.cells) (hs : sl ≤ R.slots) (hq : Q (some (.int z)) h) : WP C Z code ml own rt nm R n0 Q cl sl h pc Ls (.int z :: st) := by
  intro k1 k2 k3 k4 k5 k6 k7 k8 T locs X e N
  obtain ⟨fs, hr', hrun, hended, hW, hsame⟩ := X.leave (v := some (.int z)) (fun q => by rw [k6, hrt] at q; cases q) k7
  exact ⟨_, _, _, retOut X k1 (t := .int) (k6.trans hrt) rfl (Or.inl ⟨rfl, Or.inl rfl, _, rfl⟩) (hb k2 hd) hr', hrun, hended, by show Q _ T.heap; rw [e]; exact hq, N, ⟨_, rfl⟩, hW, hsame.mono hc hs⟩
theorem WP.lret {z : Int64} (hd : decode code pc = .ok (.lreturn, 1)) (hrt : rt = some .long) (hc : cl ≤ R.cells) (hs : sl ≤ R.slots) (hq : Q (some (.long z)) h) : WP C Z code ml own rt nm R n0 Q cl sl h pc Ls (.long z :: st) := by
  intro k1 k2 k3 k4 k5 k6 k7 k8 T locs X e N
  obtain ⟨fs, hr', hrun, hended, hW, hsame⟩ := X.leave (v := some (.long z)) (fun q => by rw [k6, hrt] at q; cases q) k7
  exact ⟨_, _, _, retOut X k1 (t := .long) (k6.trans hrt) rfl (Or.inr (Or.inl ⟨rfl, rfl, _, rfl⟩)) (hb k2 hd) hr', hrun, hended, by show Q _ T.heap; rw [e]; exact hq, N, ⟨_, rfl⟩, hW, hsame.mono hc hs⟩
theorem WP.dret {z : UInt64} (hd : decode code pc = .ok (.dreturn, 1)) (hrt : rt = some .double) (hc : cl ≤ R.cells) (hs : sl ≤ R.slots) (hq : Q (some (.double z)) h) : WP C Z code ml own rt nm R n0 Q cl sl h pc Ls (.double z :: st) := by
  intro k1 k2 k3 k4 k5 k6 k7 k8 T locs X e N
  obtain ⟨fs, hr', hrun, hended, hW, hsame⟩ := X.leave (v := some (.double z)) (fun q => by rw [k6, hrt] at q; cases q) k7
  exact ⟨_, _, _, retOut X k1 (t := .double) (k6.trans hrt) rfl (Or.inr (Or.inr (Or.inl ⟨rfl, rfl, _, rfl⟩))) (hb k2 hd) hr', hrun, hended, by show Q _ T.heap; rw [e]; exact hq, N, ⟨_, rfl⟩, hW, hsame.mono hc hs⟩
theorem WP.aret {z : Value} (hd : decode code pc = .ok (.areturn, 1)) {t : FieldType} (hrt : rt = some t) (ht : t.isReference = true) (hv : z.isRef = true) (hc : cl ≤ R.cells) (hs : sl ≤ R.slots) (hq : Q (some z) h) : WP C Z code ml own rt nm R n0 Q cl sl h pc Ls (z :: st) := by
  intro k1 k2 k3 k4 k5 k6 k7 k8 T locs X e N
  obtain ⟨fs, hr', hrun, hended, hW, hsame⟩ := X.leave (v := some z) (fun q => by rw [k6, hrt] at q; cases q) k7
  exact ⟨_, _, _, retOut X k1 (t := t) (k6.trans hrt) (by cases t <;> first | (cases ht; done) | rfl) (Or.inr (Or.inr (Or.inr (Or.inr ⟨rfl, ht, hv⟩)))) (hb k2 hd) hr', hrun, hended, by show Q _ T.heap; rw [e]; exact hq, N, ⟨_, rfl⟩, hW, hsame.mono hc hs⟩
theorem WP.nret {z : Int32} (hd : decode code pc = .ok (.ireturn, 1)) {t : FieldType} {z' : Int32} (hrt : rt = some t) (ht : t = .boolean ∨ t = .byte ∨ t = .char ∨ t = .short) (hz : nar t z = z') (hc : cl ≤ R.cells) (hs : sl ≤ R.slots) (hq : Q (some (.int z')) h) : WP C Z code ml own rt nm R n0 Q cl sl h pc Ls (.int z :: st) := by
  intro k1 k2 k3 k4 k5 k6 k7 k8 T locs X e N
  obtain ⟨fs, hr', hrun, hended, hW, hsame⟩ := X.leave (v := some (.int z')) (fun q => by rw [k6, hrt] at q; cases q) k7
  exact ⟨_, _, _, retN X k1 (t := t) (k6.trans hrt) ht (hb k2 hd) (by rw [hz]; exact hr'), hrun, hended, by show Q _ T.heap; rw [e]; exact hq, N, ⟨_, rfl⟩, hW, hsame.mono hc hs⟩
theorem WP.vret (hd : decode code pc = .ok (.return_, 1)) (hrt : rt = none) (hc : cl ≤ R.cells) (hs : sl ≤ R.slots) (hq : Q none h) : WP C Z code ml own rt nm R n0 Q cl sl h pc Ls [] := by
  intro k1 k2 k3 k4 k5 k6 k7 k8 T locs X e N
  obtain ⟨fs, hr', hrun, hended, hW, hsame⟩ := X.leave (v := none) (fun _ => rfl) k7
  exact ⟨_, _, _, X.returnOut k1 (k6.trans hrt) (hb k2 hd) hr', hrun, hended, by show Q _ T.heap; rw [e]; exact hq, N, ⟨_, rfl⟩, hW, hsame.mono hc hs⟩
end Rules
end Jvm.WK
namespace Jvm.WK
open Jvm Sem ClassFile Op Lib Jvm.Free Jvm.Stand Jvm.LawKit Jvm.RoadKit
def b2i (b : Bool) : Int32 := if b then 1 else 0
theorem b2i_t {P : Prop} [Decidable P] (h : P) : some (Value.int 1) = some (Value.int (b2i (decide P))) := by rw [decide_eq_true h]; rfl
theorem b2i_f {P : Prop} [Decidable P] (h : ¬ P) : some (Value.int 0) = some (Value.int (b2i (decide P))) := by rw [decide_eq_false h]; rfl
theorem b2i_congr {P P' : Prop} [Decidable P] [Decidable P'] (h : P ↔ P') : b2i (decide P) = b2i (decide P') := by rw [decide_eq_decide.mpr h]
theorem b2i_1 {b : Bool} : b2i b = 1 ↔ b = true := by cases b <;> simp [b2i]
theorem b2i_0 {b : Bool} : b2i b = 0 ↔ b = false := by cases b <;> simp [b2i]
theorem b2i_one (b : Bool) : b2i b &&& 1 = b2i b := by cases b <;> rfl
theorem eqInt_v {args : Array Value} {first s : State} {o : Option Outcome} {idx : List Nat} {t : Term} {k : Int32} (h : (Jvm.Cond.eq t (.int k)).value args first o s idx = some true) : t.eval args first o idx s = some (.int k) := by
  obtain ⟨x, y, e1, e2, k1, k2⟩ := cmp_v (Or.inl h)
  have e3 : y = .int k := by simpa [Term.eval] using e2.symm
  subst e3
  obtain ⟨z, rfl⟩ := k2
  simp [Cond.value, e1, Term.eval] at h
  rw [e1, h]
theorem Sta.of_exa {args : Array Value} {s : State} {C n d K : String} (h : (Jvm.Cond.exactly (.static C n d) K).value args s none s [] = some true) (hi : (Jvm.Cond.initializedFor C n d).before args s = true ∨ ((Jvm.Cond.initialized C).before args s = true ∧ (Jvm.Cond.laysStatic C n d).before args s = true)) :
    ∃ a, (Term.static C n d).eval args s none [] s = some (.ref a) ∧ Sta s s.heap C n d (.ref a) ∧ Exa s s.heap a K := by
  obtain ⟨a, e⟩ := exa_v h
  exact ⟨a, e, Sta.start e hi, Exa.start e h⟩
theorem Fld.of_eq {args : Array Value} {s : State} {t : Term} {a : Addr} {C n d : String} {k : Int32} (e : t.eval args s none [] s = some (.ref a)) (h : (Jvm.Cond.eq (.field t C n d) (.int k)).value args s none s [] = some true) : Fld s s.heap a C n d (.int k) := by
  have q := eqInt_v h
  rw [fld_at e] at q
  exact Fld.start q
theorem Ari.of_start {s : State} {a : Addr} {c : Cell} {ty : FieldType} (hf : Fit s) (A : Arr s s.heap a c ty) (ht : ty = .int ∨ ty = .boolean ∨ ty = .byte ∨ ty = .char ∨ ty = .short) (hsz : c.slots.size < 2147483648) :
    ∃ g : Nat → Int32, Ari s s.heap a ty c.slots.size g ∧ ∀ i x, c.slots[i]? = some (.int x) → g i = x := by
  have key : ∀ i, i < c.slots.size → ∃ x, c.slots[i]? = some (.int x) ∧ fits ty (.int x) = true := by
    intro i hi
    have e1 : i.toInt32.toInt = (i : Int) := len_toInt (show i < 2 ^ 31 by omega)
    have e : i.toInt32.toNatClampNeg = i := by simp only [Int32.toNatClampNeg, e1]; omega
    obtain ⟨v, h1, h2⟩ := elem_fit (j := i.toInt32) hf A (idx_in hi (show c.slots.size < 2 ^ 31 by omega))
    obtain ⟨x, rfl⟩ := fit_I h2 ht
    rw [e] at h1
    exact ⟨x, h1, h2⟩
  refine ⟨fun i => match c.slots[i]? with | some (.int x) => x | _ => 0, ⟨c, A, rfl, hsz, fun i hi => ?_, fun i hi => ?_⟩, fun i x h => by simp only [h]⟩
  · obtain ⟨x, h1, -⟩ := key i hi; simp only [h1]
  · obtain ⟨x, h1, h2⟩ := key i hi; simp only [h1]; exact h2
theorem len_small {args : Array Value} {first s : State} {o : Option Outcome} {idx : List Nat} {t : Term} {v : Value} {a : Addr} {c : Cell} (h : (Term.length t).eval args first o idx s = some v) (ht : t.eval args first o idx s = some (.ref a)) (ha : s.arrayAt? a = some c) : c.slots.size < 2 ^ 31 := by
  simp only [Term.eval, ht, ha, Option.bind_eq_bind, Option.bind_some] at h
  split at h
  · assumption
  · cases h
/-- an array that a static holds, pinned by a case's words -/
theorem Ari.of_static {s : State} {args : Array Value} {C n d : String} {ty : FieldType} {N : Int32} {k : Nat} (hf : Fit s) (hA : (Jvm.Cond.arrayOf (.static C n d) ty).value args s none s [] = some true) (hL : (Jvm.Cond.eq (.length (.static C n d)) (.int N)).value args s none s [] = some true)
    (ht : ty = .int ∨ ty = .boolean ∨ ty = .byte ∨ ty = .char ∨ ty = .short) (hi : (Jvm.Cond.initializedFor C n d).before args s = true ∨ ((Jvm.Cond.initialized C).before args s = true ∧ (Jvm.Cond.laysStatic C n d).before args s = true)) (hN : N.toInt = (k : Int)) :
    ∃ (a : Addr) (g : Nat → Int32), Sta s s.heap C n d (.ref a) ∧ Ari s s.heap a ty k g ∧
      (∀ (j x : Int32) (i : Nat), (Jvm.Cond.eq (.elem (.static C n d) (.int j)) (.int x)).value args s none s [] = some true → j.toInt = (i : Int) → g i = x) ∧
      (∀ c : Jvm.Cond, (Jvm.Cond.all (.static C n d) c).value args s none s [] = some true → ∀ i, i < k → c.value args s none s [i] = some true) ∧
      (∀ (i : Nat) (x : Int32), i < k → (Jvm.Cond.eq (.elem (.static C n d) (.index 0)) (.int x)).value args s none s [i] = some true → g i = x) := by
  obtain ⟨a, e⟩ := arr_v hA
  obtain ⟨c, A⟩ := Arr.start e hA
  have eL := eqInt_v hL
  have hat : s.arrayAt? a = some c := A.fin (Vm.Alike.refl _)
  have hsz : c.slots.size < 2 ^ 31 := len_small eL e hat
  obtain ⟨a', c', q1, q2, q3⟩ := Term.length_spec eL
  cases e.symm.trans q1
  cases hat.symm.trans q2
  have hk : c.slots.size = k := by
    have z := congrArg Int32.toInt (Value.int.inj q3)
    rw [len_toInt hsz] at z
    omega
  obtain ⟨g, G, hg⟩ := Ari.of_start hf A ht hsz
  rw [hk] at G
  refine ⟨a, g, Sta.start e hi, G, fun j x i h hj => ?_, fun c0 h i hi => Cond.all_elim e hat h i (by omega), fun i x hi h => ?_⟩
  · obtain ⟨h1, h2⟩ := elem_in (eqInt_v h) e (show (Term.int j).eval args s none [] s = some (.int j) from rfl) A.1
    have ej : j.toNatClampNeg = i := by simp only [Int32.toNatClampNeg, hj]; omega
    rw [ej] at h2
    exact hg i x h2
  · have e2 : (Term.static C n d).eval args s none [i] s = some (.ref a) := e
    obtain ⟨h1, h2⟩ := elem_in (eqInt_v h) e2 (show (Term.index 0).eval args s none [i] s = some (.int i.toInt32) from rfl) A.1
    have e1 : i.toInt32.toInt = (i : Int) := len_toInt (show i < 2 ^ 31 by omega)
    have ej : i.toInt32.toNatClampNeg = i := by simp only [Int32.toNatClampNeg, e1]; omega
    rw [ej] at h2
    exact hg i x h2
theorem Arf.of_static {s : State} {args : Array Value} {C n d K K' : String} {N : Int32} {k : Nat} {X : Jvm.Cond} (hA : (Jvm.Cond.arrayOf (.static C n d) (.object K)).value args s none s [] = some true) (hL : (Jvm.Cond.eq (.length (.static C n d)) (.int N)).value args s none s [] = some true)
    (hi : (Jvm.Cond.initializedFor C n d).before args s = true ∨ ((Jvm.Cond.initialized C).before args s = true ∧ (Jvm.Cond.laysStatic C n d).before args s = true)) (hN : N.toInt = (k : Int)) (hall : (Jvm.Cond.all (.static C n d) (.and (.exactly (.elem (.static C n d) (.index 0)) K') X)).value args s none s [] = some true) :
    ∃ (a : Addr) (f : Nat → Value), Sta s s.heap C n d (.ref a) ∧ Arf s s.heap a (.object K) k f ∧ ∀ i, i < k → ∃ y, f i = .ref y := by
  obtain ⟨a, e⟩ := arr_v hA
  obtain ⟨c, A⟩ := Arr.start e hA
  have eL := eqInt_v hL
  have hat : s.arrayAt? a = some c := A.fin (Vm.Alike.refl _)
  have hsz : c.slots.size < 2 ^ 31 := len_small eL e hat
  obtain ⟨a', c', q1, q2, q3⟩ := Term.length_spec eL
  cases e.symm.trans q1
  cases hat.symm.trans q2
  have hk : c.slots.size = k := by
    have z := congrArg Int32.toInt (Value.int.inj q3)
    rw [len_toInt hsz] at z
    omega
  have key : ∀ i, i < k → ∃ y, c.slots[i]? = some (.ref y) := fun i hi => by
    have h1 := (and_e (Cond.all_elim e hat hall i (by omega))).1
    obtain ⟨y, hy⟩ := exa_v h1
    have e2 : (Term.static C n d).eval args s none [i] s = some (.ref a) := e
    obtain ⟨-, h2⟩ := elem_in hy e2 (show (Term.index 0).eval args s none [i] s = some (.int i.toInt32) from rfl) A.1
    have e1 : i.toInt32.toInt = (i : Int) := len_toInt (show i < 2 ^ 31 by omega)
    have ej : i.toInt32.toNatClampNeg = i := by simp only [Int32.toNatClampNeg, e1]; omega
    rw [ej] at h2
    exact ⟨y, h2⟩
  refine ⟨a, fun i => (c.slots[i]?).getD .null, Sta.start e hi, ⟨c, A, hk, by omega, fun i hi => ?_, fun i hi => ?_⟩, fun i hi => ?_⟩
  · obtain ⟨y, hy⟩ := key i hi; simp [hy]
  · obtain ⟨y, hy⟩ := key i hi; simp [hy, fits]
  · obtain ⟨y, hy⟩ := key i hi; exact ⟨y, by simp [hy]⟩
theorem nar_char (x : Int32) : nar .char (nar .char x) = nar .char x := by
  have h1 := c_i2c x
  have h2 := c_i2c (nar .char x)
  apply Int32.toInt_inj.mp
  show (nar .char x).toUInt32.toUInt16.toUInt32.toInt32.toInt = x.toUInt32.toUInt16.toUInt32.toInt32.toInt
  have e : (nar .char x).toInt = x.toUInt32.toUInt16.toUInt32.toInt32.toInt := rfl
  omega
theorem idx_lt {args : Array Value} {s : State} {i : Nat} {lo : Int32} (hi : i < 2147483648) : (Jvm.Cond.lt (.index 0) (.int lo)).value args s none s [i] = some (decide ((i : Int) < lo.toInt)) := by
  have e1 : i.toInt32.toInt = (i : Int) := len_toInt (show i < 2 ^ 31 by omega)
  rw [Cond.lt_ints (x := i.toInt32) (y := lo) rfl rfl, Option.some.injEq, decide_eq_decide, Int32.lt_iff_toInt_lt, e1]
theorem idx_le {args : Array Value} {s : State} {i : Nat} {hi : Int32} (h : i < 2147483648) : (Jvm.Cond.le (.int hi) (.index 0)).value args s none s [i] = some (decide (hi.toInt ≤ (i : Int))) := by
  have e1 : i.toInt32.toInt = (i : Int) := len_toInt (show i < 2 ^ 31 by omega)
  rw [Cond.le_ints (x := hi) (y := i.toInt32) rfl rfl, Option.some.injEq, decide_eq_decide, Int32.le_iff_toInt_le, e1]
theorem or_v {args : Array Value} {first s : State} {o : Option Outcome} {idx : List Nat} {G X : Jvm.Cond} {P : Prop} [Decidable P] (h : (Jvm.Cond.or G X).value args first o s idx = some true) (h1 : G.value args first o s idx = some (decide P)) : P ∨ X.value args first o s idx = some true := by
  by_cases p : P
  · exact Or.inl p
  · rw [Cond.or_of_right (nay h1 p)] at h; exact Or.inr h
end Jvm.WK
namespace Jvm.Pilot.@@N@@
open Jvm Jvm.ClassFile Sem Op Lib Jvm.Free Jvm.Stand Jvm.LawKit Jvm.RoadKit Bundle Jvm.WK Jvm.Pilot.@@N@@.Jvm.D
/-- a char as a byte -/
def cv (c : Int32) : Int32 := c.toInt8.toInt32
theorem cv_cv (c : Int32) : nar .byte (cv c) = cv c := by
  have h1 := c_i2b c
  have h2 := c_i2b (cv c)
  apply Int32.toInt_inj.mp
  show (cv c).toInt8.toInt32.toInt = (cv c).toInt
  have e : (cv c).toInt = c.toInt8.toInt32.toInt := rfl
  omega
theorem cv_inj {c d : Int32} (hc : 0 ≤ c.toInt ∧ c.toInt ≤ 255) (hd : 0 ≤ d.toInt ∧ d.toInt ≤ 255) (h : cv c = cv d) : c = d := by
  have h1 := c_i2b c
  have h2 := c_i2b d
  have h3 : c.toInt8.toInt32.toInt = d.toInt8.toInt32.toInt := congrArg Int32.toInt h
  apply Int32.toInt_inj.mp
  omega
theorem natI {n : Nat} (h : n < 100000) : (n : Nat).toInt32.toInt = (n : Int) := len_toInt (show n < 2 ^ 31 by omega)
theorem adds {a b : Int32} {m n : Nat} (ha : a.toInt = m) (hb : b.toInt = n) (h : m + n < 100000) : (a + b).toInt = ((m + n : Nat) : Int) := by
  have h1 := c_iadd a b
  have h2 := rng32 (a + b)
  omega
theorem subS (x : Int32) : x - x = 0 := by apply Int32.toBitVec_inj.mp; simp
def Lat (n : Nat) (g : Nat → Int32) : Prop := ∀ i, i < n → 0 ≤ (g i).toInt ∧ (g i).toInt ≤ 255
/-- the two arrays of bytes are alike -/
def Same (n m : Nat) (g g' : Nat → Int32) : Prop := n = m ∧ ∀ i, i < n → g i = g' i
theorem d_jdk_52_method_21_0 : decode jdk_52_method_21_code 0 = .ok (.iconst 0, 1) := by decide +kernel
theorem d_jdk_52_method_21_1 : decode jdk_52_method_21_code 1 = .ok (.istore 5, 2) := by decide +kernel
theorem d_jdk_52_method_21_3 : decode jdk_52_method_21_code 3 = .ok (.iload 5, 2) := by decide +kernel
theorem d_jdk_52_method_21_5 : decode jdk_52_method_21_code 5 = .ok (.iload 4, 2) := by decide +kernel
theorem d_jdk_52_method_21_7 : decode jdk_52_method_21_code 7 = .ok (.if_icmp .ge 37, 3) := by decide +kernel
theorem d_jdk_52_method_21_44 : decode jdk_52_method_21_code 44 = .ok (.iload 4, 2) := by decide +kernel
theorem d_jdk_52_method_21_46 : decode jdk_52_method_21_code 46 = .ok (.ireturn, 1) := by decide +kernel
theorem d_jdk_52_method_21_10 : decode jdk_52_method_21_code 10 = .ok (.aload_n 0, 1) := by decide +kernel
theorem d_jdk_52_method_21_11 : decode jdk_52_method_21_code 11 = .ok (.iload_n 1, 1) := by decide +kernel
theorem d_jdk_52_method_21_12 : decode jdk_52_method_21_code 12 = .ok (.caload, 1) := by decide +kernel
theorem d_jdk_52_method_21_13 : decode jdk_52_method_21_code 13 = .ok (.istore 6, 2) := by decide +kernel
theorem d_jdk_52_method_21_15 : decode jdk_52_method_21_code 15 = .ok (.iload 6, 2) := by decide +kernel
theorem d_jdk_52_method_21_17 : decode jdk_52_method_21_code 17 = .ok (.sipush 255, 3) := by decide +kernel
theorem d_jdk_52_method_21_20 : decode jdk_52_method_21_code 20 = .ok (.if_icmp .le 6, 3) := by decide +kernel
theorem d_jdk_52_method_21_26 : decode jdk_52_method_21_code 26 = .ok (.aload_n 2, 1) := by decide +kernel
theorem d_jdk_52_method_21_27 : decode jdk_52_method_21_code 27 = .ok (.iload_n 3, 1) := by decide +kernel
theorem d_jdk_52_method_21_28 : decode jdk_52_method_21_code 28 = .ok (.iload 6, 2) := by decide +kernel
theorem d_jdk_52_method_21_30 : decode jdk_52_method_21_code 30 = .ok (.i2b, 1) := by decide +kernel
theorem d_jdk_52_method_21_31 : decode jdk_52_method_21_code 31 = .ok (.bastore, 1) := by decide +kernel
theorem d_jdk_52_method_21_32 : decode jdk_52_method_21_code 32 = .ok (.iinc 1 1, 3) := by decide +kernel
theorem d_jdk_52_method_21_35 : decode jdk_52_method_21_code 35 = .ok (.iinc 3 1, 3) := by decide +kernel
theorem d_jdk_52_method_21_38 : decode jdk_52_method_21_code 38 = .ok (.iinc 5 1, 3) := by decide +kernel
theorem d_jdk_52_method_21_41 : decode jdk_52_method_21_code 41 = .ok (.goto (-38), 3) := by decide +kernel
theorem pn_0 : plainName "java/lang/StringUTF16" = true := by first | (simp [plainName, overriddenIn]; done) | decide +kernel
set_option maxRecDepth 65536 in
set_option maxHeartbeats 40000000 in
theorem s_c1 {Z : State} {a0 : Array Value} (hw : ∀ d ∈ tables_1, d.before a0 Z = true) (a : Addr) (b : Addr) (p : Int32) (h0 : Heap) (n0 : Nat) (n : Nat) (gc gb : Nat → Int32) (A0 : Ari Z h0 a .char n gc) (B0 : Ari Z h0 b .byte n gb) (hp : p.toInt = (n : Int)) (hn : n ≤ 10000) (hlat : Lat n gc) (hab : a ≠ b) (g_b : n0 ≤ b) : ∀ l, Does l Z (⟨"java/lang/StringUTF16", "compress", "([CI[BII)I"⟩ : MethodName) jdk_52_method_21_code 7 (some .int) ({ frames := 0, cells := 0, slots := 0, locals := 0 } : Room) n0 #[(.ref a), (.int (0 : Int32)), (.ref b), (.int (0 : Int32)), (.int p)] h0 (fun v h => v = some (.int p) ∧ Keep h0 h [b] ∧ Ari Z h b .byte n (fun i => cv (gc i))) := by
  intro l
  refine Does.of_wp (plainFor_of_name pn_0) (Ls := #[.val (.ref a), .val (.int (0 : Int32)), .val (.ref b), .val (.int (0 : Int32)), .val (.int p), .unset, .unset]) (fun m => by first | (simp [entryFrame, mkF, argsToLocals, Value.category]; done) | rfl) ?_
  intro C
  refine WP.iconst (pc' := 1) d_jdk_52_method_21_0 rfl (z := 0) rfl ?_
  refine WP.istore (pc' := 3) d_jdk_52_method_21_1 rfl (Ls' := #[.val (.ref a), .val (.int (0 : Int32)), .val (.ref b), .val (.int (0 : Int32)), .val (.int p), .val (.int (0 : Int32)), .unset]) rfl ?_
  have loop : ∀ (k I : Nat) (o d i : Int32) (s6 : Slot) (hh : Heap) (g : Nat → Int32), (s6 = .unset ∨ ∃ u, s6 = .val u ∧ u.category = 1) → o.toInt = (I : Int) → d.toInt = (I : Int) → i.toInt = (I : Int) → I ≤ n → n - I < k → Keep h0 hh [b] → Ari Z hh b .byte n g → (∀ j, j < I → g j = cv (gc j)) → WP C Z jdk_52_method_21_code 7 "java/lang/StringUTF16" (some .int) "compress" ({ frames := 0, cells := 0, slots := 0, locals := 0 } : Room) n0 (fun v h => v = some (.int p) ∧ Keep h0 h [b] ∧ Ari Z h b .byte n (fun i => cv (gc i))) 0 0 hh 3 #[.val (.ref a), .val (.int o), .val (.ref b), .val (.int d), .val (.int p), .val (.int i), s6] [] := by
    intro k
    induction k with
    | zero => intro I o d i s6 hh g h1 h2 h3 h4 h5 h6; omega
    | succ k IH =>
      intro I o d i s6 hh g hs6 ho hd hi hI hk K1 B1 hg
      have A1 := A0.keep K1 (ninS hab nin0)
      refine WP.iload (pc' := 5) d_jdk_52_method_21_3 rfl rfl ?_
      refine WP.iload (pc' := 7) d_jdk_52_method_21_5 rfl rfl ?_
      refine WP.icmp_ge (pc1 := 44) (pc2 := 10) d_jdk_52_method_21_7 (by decide) (by decide) rfl ?_ ?_
      · intro hc7
        refine WP.iload (pc' := 46) d_jdk_52_method_21_44 rfl rfl ?_
        refine WP.iret d_jdk_52_method_21_46 rfl (by decide) (by decide) ⟨rfl, K1, B1.congr fun j hj => hg j (by rw [Int32.lt_iff_toInt_lt] at hc7; omega)⟩
      · intro hc7
        have lt1 : I < n := by rw [Int32.lt_iff_toInt_lt] at hc7; omega
        refine WP.aloadN (pc' := 11) d_jdk_52_method_21_10 rfl rfl rfl ?_
        refine WP.iloadN (pc' := 12) d_jdk_52_method_21_11 rfl rfl ?_
        refine WP.caloadI (I) (pc' := 13) d_jdk_52_method_21_12 rfl A1 ho lt1 rfl ?_
        refine WP.istore (pc' := 15) d_jdk_52_method_21_13 rfl (Ls' := #[.val (.ref a), .val (.int o), .val (.ref b), .val (.int d), .val (.int p), .val (.int i), .val (.int (gc I))]) (XS.store1 rfl hs6 rfl) ?_
        refine WP.iload (pc' := 17) d_jdk_52_method_21_15 rfl rfl ?_
        refine WP.sipush (pc' := 20) d_jdk_52_method_21_17 rfl (z := 255) rfl ?_
        have hc20 : ¬ (255 : Int32) < (gc I) := by rw [Int32.lt_iff_toInt_lt]; have := (hlat I lt1).2; have e : (255 : Int32).toInt = 255 := rfl; omega
        refine WP.icmp_le (pc1 := 26) (pc2 := 23) d_jdk_52_method_21_20 (by decide) (by decide) rfl (fun _ => ?_) (fun k => absurd k hc20)
        refine WP.aloadN (pc' := 27) d_jdk_52_method_21_26 rfl rfl rfl ?_
        refine WP.iloadN (pc' := 28) d_jdk_52_method_21_27 rfl rfl ?_
        refine WP.iload (pc' := 30) d_jdk_52_method_21_28 rfl rfl ?_
        refine WP.i2b (pc' := 31) d_jdk_52_method_21_30 rfl ?_
        refine WP.bastoreI (x' := (nar .byte ((gc I).toInt8.toInt32))) (I) (pc' := 32) d_jdk_52_method_21_31 rfl B1 hd lt1 g_b rfl ?_
        intro h1 K2 A3
        have V4 := A1.keep K2 (ninS hab nin0)
        have K5 := K1.trans K2 (allS (Or.inl (by simp)) all0)
        refine WP.iinc (pc' := 35) d_jdk_52_method_21_32 rfl rfl (z := (o + (1 : Int32))) rfl (Ls' := #[.val (.ref a), .val (.int (o + (1 : Int32))), .val (.ref b), .val (.int d), .val (.int p), .val (.int i), .val (.int (gc I))]) rfl ?_
        refine WP.iinc (pc' := 38) d_jdk_52_method_21_35 rfl rfl (z := (d + (1 : Int32))) rfl (Ls' := #[.val (.ref a), .val (.int (o + (1 : Int32))), .val (.ref b), .val (.int (d + (1 : Int32))), .val (.int p), .val (.int i), .val (.int (gc I))]) rfl ?_
        refine WP.iinc (pc' := 41) d_jdk_52_method_21_38 rfl rfl (z := (i + (1 : Int32))) rfl (Ls' := #[.val (.ref a), .val (.int (o + (1 : Int32))), .val (.ref b), .val (.int (d + (1 : Int32))), .val (.int p), .val (.int (i + (1 : Int32))), .val (.int (gc I))]) rfl ?_
        refine WP.goto (pc' := 3) d_jdk_52_method_21_41 (by decide) (by decide) ?_
        refine IH (I + 1) _ _ _ _ _ _ (Or.inr ⟨_, rfl, rfl⟩) (adds ho rfl (by omega)) (adds hd rfl (by omega)) (adds hi rfl (by omega)) (by omega) (by omega) K5 A3 fun j hj => ?_
        by_cases q : j = I
        · rw [q, upd_at]; exact cv_cv _
        · rw [upd_ne q]; exact hg j (by omega)
  exact loop (n + 1) 0 0 0 0 _ h0 gb (Or.inl rfl) rfl rfl rfl (by omega) (by omega) (Keep.refl _ _) B0 fun j hj => absurd hj (by omega)
theorem d_jdk_52_method_16_0 : decode jdk_52_method_16_code 0 = .ok (.iload_n 2, 1) := by decide +kernel
theorem d_jdk_52_method_16_1 : decode jdk_52_method_16_code 1 = .ok (.newarray .byte, 2) := by decide +kernel
theorem wd22 {Z : State} {a0 : Array Value} (hw : ∀ d ∈ tables_1, d.before a0 Z = true) : (Jvm.Cond.arrayClass Jvm.ClassFile.FieldType.byte).before a0 Z = true := hw _ (List.mem_of_getElem? (i := 22) rfl)
theorem d_jdk_52_method_16_3 : decode jdk_52_method_16_code 3 = .ok (.astore_n 3, 1) := by decide +kernel
theorem d_jdk_52_method_16_4 : decode jdk_52_method_16_code 4 = .ok (.aload_n 0, 1) := by decide +kernel
theorem d_jdk_52_method_16_5 : decode jdk_52_method_16_code 5 = .ok (.iload_n 1, 1) := by decide +kernel
theorem d_jdk_52_method_16_6 : decode jdk_52_method_16_code 6 = .ok (.aload_n 3, 1) := by decide +kernel
theorem d_jdk_52_method_16_7 : decode jdk_52_method_16_code 7 = .ok (.iconst 0, 1) := by decide +kernel
theorem d_jdk_52_method_16_8 : decode jdk_52_method_16_code 8 = .ok (.iload_n 2, 1) := by decide +kernel
theorem d_jdk_52_method_16_9 : decode jdk_52_method_16_code 9 = .ok (.invokestatic 115, 3) := by decide +kernel
theorem wd23 {Z : State} {a0 : Array Value} (hw : ∀ d ∈ tables_1, d.before a0 Z = true) : (Jvm.Cond.methodLink "java/lang/StringUTF16" (115 : Nat) ({ cls := "java/lang/StringUTF16", name := "compress", desc := "([CI[BII)I" } : Jvm.MethodName)).before a0 Z = true := hw _ (List.mem_of_getElem? (i := 23) rfl)
theorem wd25 {Z : State} {a0 : Array Value} (hw : ∀ d ∈ tables_1, d.before a0 Z = true) : (Jvm.Cond.code ({ cls := "java/lang/StringUTF16", name := "compress", desc := "([CI[BII)I" } : Jvm.MethodName) jdk_52_method_21_code (7 : Nat) (Option.some Jvm.ClassFile.FieldType.int)).before a0 Z = true := hw _ (List.mem_of_getElem? (i := 25) rfl)
theorem wd20 {Z : State} {a0 : Array Value} (hw : ∀ d ∈ tables_1, d.before a0 Z = true) : (Jvm.Cond.initialized "java/lang/StringUTF16").before a0 Z = true := hw _ (List.mem_of_getElem? (i := 20) rfl)
theorem pd_0 : parseMethodDescriptor "([CI[BII)I" = some ⟨[(.array .char), .int, (.array .byte), .int, .int], some .int⟩ := by decide +kernel
theorem wd24 {Z : State} {a0 : Array Value} (hw : ∀ d ∈ tables_1, d.before a0 Z = true) : (Jvm.Cond.static ({ cls := "java/lang/StringUTF16", name := "compress", desc := "([CI[BII)I" } : Jvm.MethodName)).before a0 Z = true := hw _ (List.mem_of_getElem? (i := 24) rfl)
theorem d_jdk_52_method_16_12 : decode jdk_52_method_16_code 12 = .ok (.istore 4, 2) := by decide +kernel
theorem d_jdk_52_method_16_14 : decode jdk_52_method_16_code 14 = .ok (.iload 4, 2) := by decide +kernel
theorem d_jdk_52_method_16_16 : decode jdk_52_method_16_code 16 = .ok (.iload_n 2, 1) := by decide +kernel
theorem d_jdk_52_method_16_17 : decode jdk_52_method_16_code 17 = .ok (.if_icmp .eq 40, 3) := by decide +kernel
theorem d_jdk_52_method_16_57 : decode jdk_52_method_16_code 57 = .ok (.aload_n 3, 1) := by decide +kernel
theorem d_jdk_52_method_16_58 : decode jdk_52_method_16_code 58 = .ok (.areturn, 1) := by decide +kernel
set_option maxRecDepth 65536 in
set_option maxHeartbeats 40000000 in
theorem s_c2 {Z : State} {a0 : Array Value} (hw : ∀ d ∈ tables_1, d.before a0 Z = true) (a : Addr) (p : Int32) (h0 : Heap) (n0 : Nat) (Z0 : n0 ≤ h0.size) (n : Nat) (gc : Nat → Int32) (A0 : Ari Z h0 a .char n gc) (hp : p.toInt = (n : Int)) (hn : n ≤ 10000) (hcap : n ≤ 3) (hlat : Lat n gc) : ∀ l, Does l Z (⟨"java/lang/StringUTF16", "compress", "([CII)[B"⟩ : MethodName) jdk_52_method_16_code 6 (some (.array .byte)) ({ frames := 1, cells := 1, slots := 3, locals := 18 } : Room) n0 #[(.ref a), (.int (0 : Int32)), (.int p)] h0 (fun v h => ∃ b : Addr, v = some (.ref b) ∧ Keep h0 h [] ∧ n0 ≤ b ∧ h0.size ≤ b ∧ Ari Z h b .byte n (fun i => cv (gc i))) := by
  intro l
  refine Does.of_wp (plainFor_of_name pn_0) (Ls := #[.val (.ref a), .val (.int (0 : Int32)), .val (.int p), .unset, .unset, .unset]) (fun m => by first | (simp [entryFrame, mkF, argsToLocals, Value.category]; done) | rfl) ?_
  intro C
  have K0 := Keep.refl h0 []
  refine WP.iloadN (pc' := 1) d_jdk_52_method_16_0 rfl rfl ?_
  refine WP.newPI (ty := .byte) (n := n) (cap := 3) (cl' := 1) (sl' := 3) (pc' := 3) d_jdk_52_method_16_1 rfl rfl rfl (wd22 hw) hp hcap (by decide) rfl rfl (by decide) (by decide) ?_
  intro h1 b1 g1 E1 A1
  have ge2 : n0 ≤ b1 := by rw [g1]; exact Z0
  have sz3 : h0.size ≤ b1 := by rw [g1]; exact K0.1
  have ne4 : a ≠ b1 := by rw [g1]; exact Nat.ne_of_lt A0.lt
  have V5 := A0.ext E1
  have K6 := K0.ext E1
  have Z7 : n0 ≤ h1.size := Nat.le_trans Z0 E1.1
  refine WP.astoreN (pc' := 4) d_jdk_52_method_16_3 rfl rfl (Ls' := #[.val (.ref a), .val (.int (0 : Int32)), .val (.int p), .val (.ref b1), .unset, .unset]) rfl ?_
  refine WP.aloadN (pc' := 5) d_jdk_52_method_16_4 rfl rfl rfl ?_
  refine WP.iloadN (pc' := 6) d_jdk_52_method_16_5 rfl rfl ?_
  refine WP.aloadN (pc' := 7) d_jdk_52_method_16_6 rfl rfl rfl ?_
  refine WP.iconst (pc' := 8) d_jdk_52_method_16_7 rfl (z := 0) rfl ?_
  refine WP.iloadN (pc' := 9) d_jdk_52_method_16_8 rfl rfl ?_
  refine WP.callS (argsL := [(.ref a), (.int (0 : Int32)), (.ref b1), (.int (0 : Int32)), (.int p)]) (rest := []) (wd := 0) (cl' := 1) (sl' := 3) (pc' := 12) d_jdk_52_method_16_9 rfl (wd23 hw) (wd24 hw) (wd20 hw) (wd25 hw) (by decide) (s_c1 hw a b1 p h1 n0 n gc (fun _ => 0) V5 A1 hp hn hlat ne4 ge2) pd_0 rfl rfl rfl (Nat.le_of_eq rfl) (by decide) (by decide) rfl rfl (by decide) (by decide) ?_
  rintro v h8 ⟨rfl, K8, B8⟩
  have V9 := V5.keep K8 (ninS ne4 nin0)
  have K10 := K6.trans K8 (allS (Or.inr sz3) all0)
  have Z11 : n0 ≤ h8.size := Nat.le_trans Z7 K8.1
  refine WP.castS (st' := [(.int p)]) rfl ?_
  refine WP.istore (pc' := 14) d_jdk_52_method_16_12 rfl (Ls' := #[.val (.ref a), .val (.int (0 : Int32)), .val (.int p), .val (.ref b1), .val (.int p), .unset]) rfl ?_
  refine WP.iload (pc' := 16) d_jdk_52_method_16_14 rfl rfl ?_
  refine WP.iloadN (pc' := 17) d_jdk_52_method_16_16 rfl rfl ?_
  have hc17 : p = p := rfl
  refine WP.icmp_eq (pc1 := 57) (pc2 := 20) d_jdk_52_method_16_17 (by decide) (by decide) rfl (fun _ => ?_) (fun k => absurd hc17 k)
  refine WP.aloadN (pc' := 58) d_jdk_52_method_16_57 rfl rfl rfl ?_
  refine WP.aret d_jdk_52_method_16_58 rfl rfl rfl (by decide) (by decide) ⟨_, rfl, K10, ge2, sz3, B8⟩
theorem d_jdk_52_method_15_0 : decode jdk_52_method_15_code 0 = .ok (.iload_n 1, 1) := by decide +kernel
theorem d_jdk_52_method_15_1 : decode jdk_52_method_15_code 1 = .ok (.aload_n 0, 1) := by decide +kernel
theorem d_jdk_52_method_15_2 : decode jdk_52_method_15_code 2 = .ok (.arraylength, 1) := by decide +kernel
theorem d_jdk_52_method_15_3 : decode jdk_52_method_15_code 3 = .ok (.isub, 1) := by decide +kernel
theorem d_jdk_52_method_15_4 : decode jdk_52_method_15_code 4 = .ok (.bipush 31, 2) := by decide +kernel
theorem d_jdk_52_method_15_6 : decode jdk_52_method_15_code 6 = .ok (.iushr, 1) := by decide +kernel
theorem d_jdk_52_method_15_7 : decode jdk_52_method_15_code 7 = .ok (.i2b, 1) := by decide +kernel
theorem d_jdk_52_method_15_8 : decode jdk_52_method_15_code 8 = .ok (.ireturn, 1) := by decide +kernel
set_option maxRecDepth 65536 in
set_option maxHeartbeats 40000000 in
theorem s_cfl {Z : State} {a0 : Array Value} (hw : ∀ d ∈ tables_1, d.before a0 Z = true) (a : Addr) (p : Int32) (h0 : Heap) (n0 : Nat) (n : Nat) (g : Nat → Int32) (A0 : Ari Z h0 a .byte n g) (hp : p.toInt = (n : Int)) (hn : n ≤ 10000) : ∀ l, Does l Z (⟨"java/lang/StringUTF16", "coderFromArrayLen", "([BI)B"⟩ : MethodName) jdk_52_method_15_code 2 (some .byte) ({ frames := 0, cells := 0, slots := 0, locals := 0 } : Room) n0 #[(.ref a), (.int p)] h0 (fun v h => v = some (.int 0) ∧ h = h0) := by
  intro l
  refine Does.of_wp (plainFor_of_name pn_0) (Ls := #[.val (.ref a), .val (.int p)]) (fun m => by first | (simp [entryFrame, mkF, argsToLocals, Value.category]; done) | rfl) ?_
  intro C
  refine WP.iloadN (pc' := 1) d_jdk_52_method_15_0 rfl rfl ?_
  refine WP.aloadN (pc' := 2) d_jdk_52_method_15_1 rfl rfl rfl ?_
  refine WP.arraylengthI (z := (n : Nat).toInt32) (pc' := 3) d_jdk_52_method_15_2 rfl A0 rfl ?_
  refine WP.isub (pc' := 4) d_jdk_52_method_15_3 rfl ?_
  rw [show p - (n : Nat).toInt32 = 0 from by rw [show p = (n : Nat).toInt32 from Int32.toInt_inj.mp (by rw [hp, natI (by omega)])]; exact subS _]
  refine WP.bipush (pc' := 6) d_jdk_52_method_15_4 rfl (z := 31) rfl ?_
  refine WP.iushr (pc' := 7) d_jdk_52_method_15_6 rfl ?_
  refine WP.i2b (pc' := 8) d_jdk_52_method_15_7 rfl ?_
  refine WP.nret (t := .byte) d_jdk_52_method_15_8 rfl (by simp) rfl (by decide) (by decide) ⟨rfl, rfl⟩
theorem d_jdk_42_method_149_0 : decode jdk_42_method_149_code 0 = .ok (.aload_n 0, 1) := by decide +kernel
theorem d_jdk_42_method_149_1 : decode jdk_42_method_149_code 1 = .ok (.invokespecial 1, 3) := by decide +kernel
theorem wd14 {Z : State} {a0 : Array Value} (hw : ∀ d ∈ tables_1, d.before a0 Z = true) : (Jvm.Cond.methodLink "java/lang/String" (1 : Nat) ({ cls := "java/lang/Object", name := "<init>", desc := "()V" } : Jvm.MethodName)).before a0 Z = true := hw _ (List.mem_of_getElem? (i := 14) rfl)
theorem wd15 {Z : State} {a0 : Array Value} (hw : ∀ d ∈ tables_1, d.before a0 Z = true) : (Jvm.Cond.instanceMethod ({ cls := "java/lang/Object", name := "<init>", desc := "()V" } : Jvm.MethodName)).before a0 Z = true := hw _ (List.mem_of_getElem? (i := 15) rfl)
theorem wd16 {Z : State} {a0 : Array Value} (hw : ∀ d ∈ tables_1, d.before a0 Z = true) : (Jvm.Cond.code ({ cls := "java/lang/Object", name := "<init>", desc := "()V" } : Jvm.MethodName) object_method_1_code (1 : Nat) (Option.none : Option Jvm.ClassFile.FieldType)).before a0 Z = true := hw _ (List.mem_of_getElem? (i := 16) rfl)
theorem d_jdk_42_method_149_4 : decode jdk_42_method_149_code 4 = .ok (.iload_n 3, 1) := by decide +kernel
theorem d_jdk_42_method_149_5 : decode jdk_42_method_149_code 5 = .ok (.ifCond .ne 22, 3) := by decide +kernel
theorem d_jdk_42_method_149_27 : decode jdk_42_method_149_code 27 = .ok (.getstatic 38, 3) := by decide +kernel
theorem wd17 {Z : State} {a0 : Array Value} (hw : ∀ d ∈ tables_1, d.before a0 Z = true) : (Jvm.Cond.fieldLink "java/lang/String" (38 : Nat) "java/lang/String" "COMPACT_STRINGS" "Z").before a0 Z = true := hw _ (List.mem_of_getElem? (i := 17) rfl)
theorem d_jdk_42_method_149_30 : decode jdk_42_method_149_code 30 = .ok (.ifCond .eq 28, 3) := by decide +kernel
theorem d_jdk_42_method_149_33 : decode jdk_42_method_149_code 33 = .ok (.aload_n 1, 1) := by decide +kernel
theorem d_jdk_42_method_149_34 : decode jdk_42_method_149_code 34 = .ok (.iload_n 2, 1) := by decide +kernel
theorem d_jdk_42_method_149_35 : decode jdk_42_method_149_code 35 = .ok (.iload_n 3, 1) := by decide +kernel
theorem d_jdk_42_method_149_36 : decode jdk_42_method_149_code 36 = .ok (.invokestatic 177, 3) := by decide +kernel
theorem wd18 {Z : State} {a0 : Array Value} (hw : ∀ d ∈ tables_1, d.before a0 Z = true) : (Jvm.Cond.methodLink "java/lang/String" (177 : Nat) ({ cls := "java/lang/StringUTF16", name := "compress", desc := "([CII)[B" } : Jvm.MethodName)).before a0 Z = true := hw _ (List.mem_of_getElem? (i := 18) rfl)
theorem wd21 {Z : State} {a0 : Array Value} (hw : ∀ d ∈ tables_1, d.before a0 Z = true) : (Jvm.Cond.code ({ cls := "java/lang/StringUTF16", name := "compress", desc := "([CII)[B" } : Jvm.MethodName) jdk_52_method_16_code (6 : Nat) (Option.some (Jvm.ClassFile.FieldType.array Jvm.ClassFile.FieldType.byte))).before a0 Z = true := hw _ (List.mem_of_getElem? (i := 21) rfl)
theorem pd_1 : parseMethodDescriptor "([CII)[B" = some ⟨[(.array .char), .int, .int], some (.array .byte)⟩ := by decide +kernel
theorem wd19 {Z : State} {a0 : Array Value} (hw : ∀ d ∈ tables_1, d.before a0 Z = true) : (Jvm.Cond.static ({ cls := "java/lang/StringUTF16", name := "compress", desc := "([CII)[B" } : Jvm.MethodName)).before a0 Z = true := hw _ (List.mem_of_getElem? (i := 19) rfl)
theorem d_jdk_42_method_149_39 : decode jdk_42_method_149_code 39 = .ok (.astore 5, 2) := by decide +kernel
theorem d_jdk_42_method_149_41 : decode jdk_42_method_149_code 41 = .ok (.aload_n 0, 1) := by decide +kernel
theorem d_jdk_42_method_149_42 : decode jdk_42_method_149_code 42 = .ok (.aload 5, 2) := by decide +kernel
theorem d_jdk_42_method_149_44 : decode jdk_42_method_149_code 44 = .ok (.iload_n 3, 1) := by decide +kernel
theorem d_jdk_42_method_149_45 : decode jdk_42_method_149_code 45 = .ok (.invokestatic 47, 3) := by decide +kernel
theorem wd26 {Z : State} {a0 : Array Value} (hw : ∀ d ∈ tables_1, d.before a0 Z = true) : (Jvm.Cond.methodLink "java/lang/String" (47 : Nat) ({ cls := "java/lang/StringUTF16", name := "coderFromArrayLen", desc := "([BI)B" } : Jvm.MethodName)).before a0 Z = true := hw _ (List.mem_of_getElem? (i := 26) rfl)
theorem wd28 {Z : State} {a0 : Array Value} (hw : ∀ d ∈ tables_1, d.before a0 Z = true) : (Jvm.Cond.code ({ cls := "java/lang/StringUTF16", name := "coderFromArrayLen", desc := "([BI)B" } : Jvm.MethodName) jdk_52_method_15_code (2 : Nat) (Option.some Jvm.ClassFile.FieldType.byte)).before a0 Z = true := hw _ (List.mem_of_getElem? (i := 28) rfl)
theorem pd_2 : parseMethodDescriptor "([BI)B" = some ⟨[(.array .byte), .int], some .byte⟩ := by decide +kernel
theorem wd27 {Z : State} {a0 : Array Value} (hw : ∀ d ∈ tables_1, d.before a0 Z = true) : (Jvm.Cond.static ({ cls := "java/lang/StringUTF16", name := "coderFromArrayLen", desc := "([BI)B" } : Jvm.MethodName)).before a0 Z = true := hw _ (List.mem_of_getElem? (i := 27) rfl)
theorem d_jdk_42_method_149_48 : decode jdk_42_method_149_code 48 = .ok (.putfield 15, 3) := by decide +kernel
theorem wd29 {Z : State} {a0 : Array Value} (hw : ∀ d ∈ tables_1, d.before a0 Z = true) : (Jvm.Cond.fieldLink "java/lang/String" (15 : Nat) "java/lang/String" "coder" "B").before a0 Z = true := hw _ (List.mem_of_getElem? (i := 29) rfl)
theorem wd30 {Z : State} {a0 : Array Value} (hw : ∀ d ∈ tables_1, d.before a0 Z = true) : (Jvm.Cond.laysFinal "java/lang/String" "java/lang/String" "coder" "B").before a0 Z = true := hw _ (List.mem_of_getElem? (i := 30) rfl)
theorem wd5 {Z : State} {a0 : Array Value} (hw : ∀ d ∈ tables_1, d.before a0 Z = true) : (Jvm.Cond.instantiable "java/lang/String" (4 : Nat)).before a0 Z = true := hw _ (List.mem_of_getElem? (i := 5) rfl)
theorem wd32 {Z : State} {a0 : Array Value} (hw : ∀ d ∈ tables_1, d.before a0 Z = true) : (Jvm.Cond.laysFinal "java/lang/String" "java/lang/String" "value" "[B").before a0 Z = true := hw _ (List.mem_of_getElem? (i := 32) rfl)
theorem d_jdk_42_method_149_51 : decode jdk_42_method_149_code 51 = .ok (.aload_n 0, 1) := by decide +kernel
theorem d_jdk_42_method_149_52 : decode jdk_42_method_149_code 52 = .ok (.aload 5, 2) := by decide +kernel
theorem d_jdk_42_method_149_54 : decode jdk_42_method_149_code 54 = .ok (.putfield 9, 3) := by decide +kernel
theorem wd31 {Z : State} {a0 : Array Value} (hw : ∀ d ∈ tables_1, d.before a0 Z = true) : (Jvm.Cond.fieldLink "java/lang/String" (9 : Nat) "java/lang/String" "value" "[B").before a0 Z = true := hw _ (List.mem_of_getElem? (i := 31) rfl)
theorem d_jdk_42_method_149_57 : decode jdk_42_method_149_code 57 = .ok (.return_, 1) := by decide +kernel
theorem pn_1 : plainName "java/lang/String" = true := by first | (simp [plainName, overriddenIn]; done) | decide +kernel
set_option maxRecDepth 65536 in
set_option maxHeartbeats 40000000 in
theorem s_si4 {Z : State} {a0 : Array Value} (hw : ∀ d ∈ tables_1, d.before a0 Z = true) (a : Addr) (c : Addr) (p : Int32) (h0 : Heap) (n0 : Nat) (Z0 : n0 ≤ h0.size) (g_a : n0 ≤ a) (E0 : Exa Z h0 a "java/lang/String") (F_v : Fld Z h0 a "java/lang/String" "value" "[B" .null) (F_c : Fld Z h0 a "java/lang/String" "coder" "B" (.int 0)) (cs : Int32) (S_CS : Sta Z h0 "java/lang/String" "COMPACT_STRINGS" "Z" (.int cs)) (hcs : ¬ cs = 0) (n : Nat) (gc : Nat → Int32) (A0 : Ari Z h0 c .char n gc) (h1 : 1 ≤ n) (hn : n ≤ 10000) (hcap : n ≤ 3) (hlat : Lat n gc) (n_ca : c ≠ a) (hp : p.toInt = (n : Int)) : ∀ l, Does l Z (⟨"java/lang/String", "<init>", "([CIILjava/lang/Void;)V"⟩ : MethodName) jdk_42_method_149_code 6 none ({ frames := 2, cells := 1, slots := 3, locals := 35 } : Room) n0 #[(.ref a), (.ref c), (.int (0 : Int32)), (.int p), .null] h0 (fun v h => v = none ∧ ∃ b : Addr, Keep h0 h [a] ∧ n0 ≤ b ∧ h0.size ≤ b ∧ Exa Z h a "java/lang/String" ∧ Fld Z h a "java/lang/String" "value" "[B" (.ref b) ∧ Fld Z h a "java/lang/String" "coder" "B" (.int 0) ∧ Ari Z h b .byte n (fun i => cv (gc i))) := by
  intro l
  refine Does.of_wp (plainFor_of_name pn_1) (Ls := #[.val (.ref a), .val (.ref c), .val (.int (0 : Int32)), .val (.int p), .val .null, .unset]) (fun m => by first | (simp [entryFrame, mkF, argsToLocals, Value.category]; done) | rfl) ?_
  intro C
  have K0 := Keep.refl h0 [a]
  refine WP.aloadN (pc' := 1) d_jdk_42_method_149_0 rfl rfl rfl ?_
  refine WP.initO (wd := 0) (pc' := 4) d_jdk_42_method_149_1 rfl (wd14 hw) (wd15 hw) (wd16 hw) rfl (by decide) (Nat.le_of_eq rfl) (by decide) ?_
  refine WP.iloadN (pc' := 5) d_jdk_42_method_149_4 rfl rfl ?_
  have hc5 : ¬ p = (0 : Int32) := fun q => by rw [q] at hp; have e : (0 : Int32).toInt = 0 := rfl; omega
  refine WP.ifc_ne (pc1 := 27) (pc2 := 8) d_jdk_42_method_149_5 (by decide) (by decide) rfl (fun _ => ?_) (fun k => absurd k hc5)
  refine WP.getS (pc' := 30) d_jdk_42_method_149_27 rfl (host := "") (Or.inl (wd17 hw)) Via.refl (S_CS) ?_
  have hc30 : ¬ cs = (0 : Int32) := hcs
  refine WP.ifc_eq (pc1 := 58) (pc2 := 33) d_jdk_42_method_149_30 (by decide) (by decide) rfl (fun k => absurd k hc30) (fun _ => ?_)
  refine WP.aloadN (pc' := 34) d_jdk_42_method_149_33 rfl rfl rfl ?_
  refine WP.iloadN (pc' := 35) d_jdk_42_method_149_34 rfl rfl ?_
  refine WP.iloadN (pc' := 36) d_jdk_42_method_149_35 rfl rfl ?_
  refine WP.callS (argsL := [(.ref c), (.int (0 : Int32)), (.int p)]) (rest := []) (wd := 0) (cl' := 1) (sl' := 3) (pc' := 39) d_jdk_42_method_149_36 rfl (wd18 hw) (wd19 hw) (wd20 hw) (wd21 hw) (by decide) (s_c2 hw c p h0 n0 Z0 n gc A0 hp hn hcap hlat) pd_1 rfl rfl rfl (Nat.le_of_eq rfl) (by decide) (by decide) rfl rfl (by decide) (by decide) ?_
  rintro v h1 ⟨c1, rfl, K1, ge1, sz1, B1⟩
  have ne2 : a ≠ c1 := Nat.ne_of_lt (Nat.lt_of_lt_of_le E0.lt sz1)
  have ne3 : c ≠ c1 := Nat.ne_of_lt (Nat.lt_of_lt_of_le A0.lt sz1)
  have sy4 : h0.size ≤ c1 := Nat.le_trans K0.1 sz1
  have E5 := E0.keep K1
  have F6 := F_v.keep K1 nin0
  have F7 := F_c.keep K1 nin0
  have V8 := A0.keep K1 nin0
  have K9 := K0.trans K1 all0
  have Z10 : n0 ≤ h1.size := Nat.le_trans Z0 K1.1
  refine WP.castS (st' := [(.ref c1)]) rfl ?_
  refine WP.astore (pc' := 41) d_jdk_42_method_149_39 rfl rfl (Ls' := #[.val (.ref a), .val (.ref c), .val (.int (0 : Int32)), .val (.int p), .val .null, .val (.ref c1)]) rfl ?_
  refine WP.aloadN (pc' := 42) d_jdk_42_method_149_41 rfl rfl rfl ?_
  refine WP.aload (pc' := 44) d_jdk_42_method_149_42 rfl rfl rfl ?_
  refine WP.iloadN (pc' := 45) d_jdk_42_method_149_44 rfl rfl ?_
  refine WP.callS (argsL := [(.ref c1), (.int p)]) (rest := [(.ref a)]) (wd := 1) (cl' := 1) (sl' := 3) (pc' := 48) d_jdk_42_method_149_45 rfl (wd26 hw) (wd27 hw) (wd20 hw) (wd28 hw) (by decide) (s_cfl hw c1 p h1 n0 n (fun i => cv (gc i)) B1 hp hn) pd_2 rfl rfl rfl (Nat.le_of_eq rfl) (by decide) (by decide) rfl rfl (by decide) (by decide) ?_
  rintro v hh11 ⟨rfl, he11⟩
  rw [he11]
  refine WP.castS (st' := [(.int (0 : Int32)), (.ref a)]) rfl ?_
  refine WP.putFN (pc' := 51) d_jdk_42_method_149_48 rfl (wd29 hw) Via.refl F7 E5 (Or.inr ⟨(wd30 hw), rfl, rfl⟩) (wd5 hw) (ty := .byte) (v' := (.int (0 : Int32))) (by decide) rfl (by decide) g_a ?_
  intro h12 W13
  have Kw14 := Keep.of_wr W13
  have E15 := E5.keep Kw14
  have V16 := V8.keep Kw14 (ninS n_ca nin0)
  have V17 := B1.keep Kw14 (ninS (Ne.symm ne2) nin0)
  have K18 := K9.trans Kw14 (allS (Or.inl (by simp)) all0)
  have Z19 : n0 ≤ h12.size := Nat.le_trans Z10 Kw14.1
  have F20 := F6.other W13 (Or.inr (slot_ne (Or.inr (wd32 hw)) (Or.inr (wd30 hw)) (by decide) (t := (.array .byte)) (t' := .byte) (by decide) (by decide)))
  have F21 := F7.same W13
  refine WP.aloadN (pc' := 52) d_jdk_42_method_149_51 rfl rfl rfl ?_
  refine WP.aload (pc' := 54) d_jdk_42_method_149_52 rfl rfl rfl ?_
  refine WP.putF (pc' := 57) d_jdk_42_method_149_54 rfl (host := "") (Or.inl (wd31 hw)) Via.refl F20 E15 (Or.inr ⟨(wd32 hw), rfl, rfl⟩) (wd5 hw) (ty := (.array .byte)) (by decide) rfl rfl g_a ?_
  intro h22 W23
  have Kw24 := Keep.of_wr W23
  have E25 := E15.keep Kw24
  have V26 := V16.keep Kw24 (ninS n_ca nin0)
  have V27 := V17.keep Kw24 (ninS (Ne.symm ne2) nin0)
  have K28 := K18.trans Kw24 (allS (Or.inl (by simp)) all0)
  have Z29 : n0 ≤ h22.size := Nat.le_trans Z19 Kw24.1
  have F30 := F20.same W23
  have F31 := F21.other W23 (Or.inr (slot_ne (Or.inr (wd30 hw)) (Or.inr (wd32 hw)) (by decide) (t := .byte) (t' := (.array .byte)) (by decide) (by decide)))
  exact WP.vret d_jdk_42_method_149_57 rfl (by decide) (by decide) ⟨rfl, _, K28, ge1, sy4, E25, F30, F31, V27⟩
theorem d_jdk_42_method_3_0 : decode jdk_42_method_3_code 0 = .ok (.aload_n 0, 1) := by decide +kernel
theorem d_jdk_42_method_3_1 : decode jdk_42_method_3_code 1 = .ok (.aload_n 1, 1) := by decide +kernel
theorem d_jdk_42_method_3_2 : decode jdk_42_method_3_code 2 = .ok (.iconst 0, 1) := by decide +kernel
theorem d_jdk_42_method_3_3 : decode jdk_42_method_3_code 3 = .ok (.aload_n 1, 1) := by decide +kernel
theorem d_jdk_42_method_3_4 : decode jdk_42_method_3_code 4 = .ok (.arraylength, 1) := by decide +kernel
theorem d_jdk_42_method_3_5 : decode jdk_42_method_3_code 5 = .ok (.aconst_null, 1) := by decide +kernel
theorem d_jdk_42_method_3_6 : decode jdk_42_method_3_code 6 = .ok (.invokespecial 27, 3) := by decide +kernel
theorem wd10 {Z : State} {a0 : Array Value} (hw : ∀ d ∈ tables_1, d.before a0 Z = true) : (Jvm.Cond.methodLink "java/lang/String" (27 : Nat) ({ cls := "java/lang/String", name := "<init>", desc := "([CIILjava/lang/Void;)V" } : Jvm.MethodName)).before a0 Z = true := hw _ (List.mem_of_getElem? (i := 10) rfl)
theorem wd13 {Z : State} {a0 : Array Value} (hw : ∀ d ∈ tables_1, d.before a0 Z = true) : (Jvm.Cond.code ({ cls := "java/lang/String", name := "<init>", desc := "([CIILjava/lang/Void;)V" } : Jvm.MethodName) jdk_42_method_149_code (6 : Nat) (Option.none : Option Jvm.ClassFile.FieldType)).before a0 Z = true := hw _ (List.mem_of_getElem? (i := 13) rfl)
theorem wd6 {Z : State} {a0 : Array Value} (hw : ∀ d ∈ tables_1, d.before a0 Z = true) : (Jvm.Cond.initialized "java/lang/String").before a0 Z = true := hw _ (List.mem_of_getElem? (i := 6) rfl)
theorem pd_3 : parseMethodDescriptor "([CIILjava/lang/Void;)V" = some ⟨[(.array .char), .int, .int, (.object "java/lang/Void")], none⟩ := by decide +kernel
theorem wd11 {Z : State} {a0 : Array Value} (hw : ∀ d ∈ tables_1, d.before a0 Z = true) : (Jvm.Cond.instanceMethod ({ cls := "java/lang/String", name := "<init>", desc := "([CIILjava/lang/Void;)V" } : Jvm.MethodName)).before a0 Z = true := hw _ (List.mem_of_getElem? (i := 11) rfl)
theorem d_jdk_42_method_3_9 : decode jdk_42_method_3_code 9 = .ok (.return_, 1) := by decide +kernel
set_option maxRecDepth 65536 in
set_option maxHeartbeats 40000000 in
theorem s_si {Z : State} {a0 : Array Value} (hw : ∀ d ∈ tables_1, d.before a0 Z = true) (a : Addr) (c : Addr) (h0 : Heap) (n0 : Nat) (Z0 : n0 ≤ h0.size) (g_a : n0 ≤ a) (E0 : Exa Z h0 a "java/lang/String") (F_v : Fld Z h0 a "java/lang/String" "value" "[B" .null) (F_c : Fld Z h0 a "java/lang/String" "coder" "B" (.int 0)) (cs : Int32) (S_CS : Sta Z h0 "java/lang/String" "COMPACT_STRINGS" "Z" (.int cs)) (hcs : ¬ cs = 0) (n : Nat) (gc : Nat → Int32) (A0 : Ari Z h0 c .char n gc) (h1 : 1 ≤ n) (hn : n ≤ 10000) (hcap : n ≤ 3) (hlat : Lat n gc) (n_ca : c ≠ a) : ∀ l, Does l Z (⟨"java/lang/String", "<init>", "([C)V"⟩ : MethodName) jdk_42_method_3_code 2 none ({ frames := 3, cells := 1, slots := 3, locals := 52 } : Room) n0 #[(.ref a), (.ref c)] h0 (fun v h => v = none ∧ ∃ b : Addr, Keep h0 h [a] ∧ n0 ≤ b ∧ h0.size ≤ b ∧ Exa Z h a "java/lang/String" ∧ Fld Z h a "java/lang/String" "value" "[B" (.ref b) ∧ Fld Z h a "java/lang/String" "coder" "B" (.int 0) ∧ Ari Z h b .byte n (fun i => cv (gc i))) := by
  intro l
  refine Does.of_wp (plainFor_of_name pn_1) (Ls := #[.val (.ref a), .val (.ref c)]) (fun m => by first | (simp [entryFrame, mkF, argsToLocals, Value.category]; done) | rfl) ?_
  intro C
  have K0 := Keep.refl h0 [a]
  refine WP.aloadN (pc' := 1) d_jdk_42_method_3_0 rfl rfl rfl ?_
  refine WP.aloadN (pc' := 2) d_jdk_42_method_3_1 rfl rfl rfl ?_
  refine WP.iconst (pc' := 3) d_jdk_42_method_3_2 rfl (z := 0) rfl ?_
  refine WP.aloadN (pc' := 4) d_jdk_42_method_3_3 rfl rfl rfl ?_
  refine WP.arraylengthI (z := (n : Nat).toInt32) (pc' := 5) d_jdk_42_method_3_4 rfl A0 rfl ?_
  refine WP.aconstNull (pc' := 6) d_jdk_42_method_3_5 rfl ?_
  refine WP.callI (a := a) (argsL := [(.ref c), (.int (0 : Int32)), (.int (n : Nat).toInt32), .null]) (rest := []) (wd := 0) (cl' := 1) (sl' := 3) (pc' := 9) d_jdk_42_method_3_6 rfl rfl (wd10 hw) (wd11 hw) (wd6 hw) (wd13 hw) (by decide) (s_si4 hw a c (n : Nat).toInt32 h0 n0 Z0 g_a E0 F_v F_c cs S_CS hcs n gc A0 h1 hn hcap hlat n_ca (natI (by omega))) pd_3 rfl rfl rfl (Nat.le_of_eq rfl) (by decide) (by decide) rfl rfl (by decide) (by decide) ?_
  rintro v h1 ⟨rfl, c1, K1, ge1, sz1, E1, Fv1, Fc1, B1⟩
  have ne2 : a ≠ c1 := Nat.ne_of_lt (Nat.lt_of_lt_of_le E0.lt sz1)
  have ne3 : c ≠ c1 := Nat.ne_of_lt (Nat.lt_of_lt_of_le A0.lt sz1)
  have sy4 : h0.size ≤ c1 := Nat.le_trans K0.1 sz1
  have E5 := E0.keep K1
  have V6 := A0.keep K1 (ninS n_ca nin0)
  have K7 := K0.trans K1 (allS (Or.inl (by simp)) all0)
  have Z8 : n0 ≤ h1.size := Nat.le_trans Z0 K1.1
  refine WP.castS (st' := []) rfl ?_
  exact WP.vret d_jdk_42_method_3_9 rfl (by decide) (by decide) ⟨rfl, _, K7, ge1, sy4, E1, Fv1, Fc1, B1⟩
theorem d_jdk_43_method_13_0 : decode jdk_43_method_13_code 0 = .ok (.aload_n 0, 1) := by decide +kernel
theorem d_jdk_43_method_13_1 : decode jdk_43_method_13_code 1 = .ok (.arraylength, 1) := by decide +kernel
theorem d_jdk_43_method_13_2 : decode jdk_43_method_13_code 2 = .ok (.aload_n 1, 1) := by decide +kernel
theorem d_jdk_43_method_13_3 : decode jdk_43_method_13_code 3 = .ok (.arraylength, 1) := by decide +kernel
theorem d_jdk_43_method_13_4 : decode jdk_43_method_13_code 4 = .ok (.if_icmp .ne 30, 3) := by decide +kernel
theorem d_jdk_43_method_13_34 : decode jdk_43_method_13_code 34 = .ok (.iconst 0, 1) := by decide +kernel
theorem d_jdk_43_method_13_35 : decode jdk_43_method_13_code 35 = .ok (.ireturn, 1) := by decide +kernel
theorem d_jdk_43_method_13_7 : decode jdk_43_method_13_code 7 = .ok (.iconst 0, 1) := by decide +kernel
theorem d_jdk_43_method_13_8 : decode jdk_43_method_13_code 8 = .ok (.istore_n 2, 1) := by decide +kernel
theorem d_jdk_43_method_13_9 : decode jdk_43_method_13_code 9 = .ok (.iload_n 2, 1) := by decide +kernel
theorem d_jdk_43_method_13_10 : decode jdk_43_method_13_code 10 = .ok (.aload_n 0, 1) := by decide +kernel
theorem d_jdk_43_method_13_11 : decode jdk_43_method_13_code 11 = .ok (.arraylength, 1) := by decide +kernel
theorem d_jdk_43_method_13_12 : decode jdk_43_method_13_code 12 = .ok (.if_icmp .ge 20, 3) := by decide +kernel
theorem d_jdk_43_method_13_32 : decode jdk_43_method_13_code 32 = .ok (.iconst 1, 1) := by decide +kernel
theorem d_jdk_43_method_13_33 : decode jdk_43_method_13_code 33 = .ok (.ireturn, 1) := by decide +kernel
theorem d_jdk_43_method_13_15 : decode jdk_43_method_13_code 15 = .ok (.aload_n 0, 1) := by decide +kernel
theorem d_jdk_43_method_13_16 : decode jdk_43_method_13_code 16 = .ok (.iload_n 2, 1) := by decide +kernel
theorem d_jdk_43_method_13_17 : decode jdk_43_method_13_code 17 = .ok (.baload, 1) := by decide +kernel
theorem d_jdk_43_method_13_18 : decode jdk_43_method_13_code 18 = .ok (.aload_n 1, 1) := by decide +kernel
theorem d_jdk_43_method_13_19 : decode jdk_43_method_13_code 19 = .ok (.iload_n 2, 1) := by decide +kernel
theorem d_jdk_43_method_13_20 : decode jdk_43_method_13_code 20 = .ok (.baload, 1) := by decide +kernel
theorem d_jdk_43_method_13_21 : decode jdk_43_method_13_code 21 = .ok (.if_icmp .eq 5, 3) := by decide +kernel
theorem d_jdk_43_method_13_26 : decode jdk_43_method_13_code 26 = .ok (.iinc 2 1, 3) := by decide +kernel
theorem d_jdk_43_method_13_29 : decode jdk_43_method_13_code 29 = .ok (.goto (-20), 3) := by decide +kernel
theorem d_jdk_43_method_13_24 : decode jdk_43_method_13_code 24 = .ok (.iconst 0, 1) := by decide +kernel
theorem d_jdk_43_method_13_25 : decode jdk_43_method_13_code 25 = .ok (.ireturn, 1) := by decide +kernel
theorem pn_2 : plainName "java/lang/StringLatin1" = true := by first | (simp [plainName, overriddenIn]; done) | decide +kernel
set_option maxRecDepth 65536 in
set_option maxHeartbeats 40000000 in
theorem s_leq {Z : State} {a0 : Array Value} (hw : ∀ d ∈ tables_1, d.before a0 Z = true) (a : Addr) (b : Addr) (h0 : Heap) (n0 : Nat) (n m : Nat) (g g' : Nat → Int32) (A0 : Ari Z h0 a .byte n g) (B0 : Ari Z h0 b .byte m g') (hn : n ≤ 10000) (hm : m ≤ 10000) : ∀ l, Does l Z (⟨"java/lang/StringLatin1", "equals", "([B[B)Z"⟩ : MethodName) jdk_43_method_13_code 3 (some .boolean) ({ frames := 0, cells := 0, slots := 0, locals := 0 } : Room) n0 #[(.ref a), (.ref b)] h0 (fun v h => ((v = some (.int 1) ∧ Same n m g g') ∨ (v = some (.int 0) ∧ ¬ Same n m g g')) ∧ h = h0) := by
  intro l
  refine Does.of_wp (plainFor_of_name pn_2) (Ls := #[.val (.ref a), .val (.ref b), .unset]) (fun m => by first | (simp [entryFrame, mkF, argsToLocals, Value.category]; done) | rfl) ?_
  intro C
  refine WP.aloadN (pc' := 1) d_jdk_43_method_13_0 rfl rfl rfl ?_
  refine WP.arraylengthI (z := (n : Nat).toInt32) (pc' := 2) d_jdk_43_method_13_1 rfl A0 rfl ?_
  refine WP.aloadN (pc' := 3) d_jdk_43_method_13_2 rfl rfl rfl ?_
  refine WP.arraylengthI (z := (m : Nat).toInt32) (pc' := 4) d_jdk_43_method_13_3 rfl B0 rfl ?_
  refine WP.icmp_ne (pc1 := 34) (pc2 := 7) d_jdk_43_method_13_4 (by decide) (by decide) rfl ?_ ?_
  · intro hc4
    refine WP.iconst (pc' := 35) d_jdk_43_method_13_34 rfl (z := 0) rfl ?_
    refine WP.nret (t := .boolean) d_jdk_43_method_13_35 rfl (by simp) rfl (by decide) (by decide) ⟨Or.inr ⟨rfl, fun z => hc4 (by rw [z.1])⟩, rfl⟩
  · intro hc4
    refine WP.iconst (pc' := 8) d_jdk_43_method_13_7 rfl (z := 0) rfl ?_
    refine WP.istoreN (pc' := 9) d_jdk_43_method_13_8 rfl (Ls' := #[.val (.ref a), .val (.ref b), .val (.int (0 : Int32))]) rfl ?_
    have hnm : n = m := by have := congrArg Int32.toInt hc4; rw [natI (by omega), natI (by omega)] at this; omega
    have loop : ∀ (k I : Nat) (i : Int32), i.toInt = (I : Int) → I ≤ n → n - I < k → (∀ j, j < I → g j = g' j) → WP C Z jdk_43_method_13_code 3 "java/lang/StringLatin1" (some .boolean) "equals" ({ frames := 0, cells := 0, slots := 0, locals := 0 } : Room) n0 (fun v h => ((v = some (.int 1) ∧ Same n m g g') ∨ (v = some (.int 0) ∧ ¬ Same n m g g')) ∧ h = h0) 0 0 h0 9 #[.val (.ref a), .val (.ref b), .val (.int i)] [] := by
      intro k
      induction k with
      | zero => intro I i h1 h2 h3; omega
      | succ k IH =>
        intro I i hi hI hk hg
        refine WP.iloadN (pc' := 10) d_jdk_43_method_13_9 rfl rfl ?_
        refine WP.aloadN (pc' := 11) d_jdk_43_method_13_10 rfl rfl rfl ?_
        refine WP.arraylengthI (z := (n : Nat).toInt32) (pc' := 12) d_jdk_43_method_13_11 rfl A0 rfl ?_
        refine WP.icmp_ge (pc1 := 32) (pc2 := 15) d_jdk_43_method_13_12 (by decide) (by decide) rfl ?_ ?_
        · intro hc12
          refine WP.iconst (pc' := 33) d_jdk_43_method_13_32 rfl (z := 1) rfl ?_
          refine WP.nret (t := .boolean) d_jdk_43_method_13_33 rfl (by simp) rfl (by decide) (by decide) ⟨Or.inl ⟨rfl, hnm, fun j hj => hg j (by rw [Int32.lt_iff_toInt_lt, natI (by omega)] at hc12; omega)⟩, rfl⟩
        · intro hc12
          have lt1 : I < n := by rw [Int32.lt_iff_toInt_lt, natI (by omega)] at hc12; omega
          refine WP.aloadN (pc' := 16) d_jdk_43_method_13_15 rfl rfl rfl ?_
          refine WP.iloadN (pc' := 17) d_jdk_43_method_13_16 rfl rfl ?_
          refine WP.baloadI (I) (pc' := 18) d_jdk_43_method_13_17 rfl A0 hi lt1 rfl ?_
          refine WP.aloadN (pc' := 19) d_jdk_43_method_13_18 rfl rfl rfl ?_
          refine WP.iloadN (pc' := 20) d_jdk_43_method_13_19 rfl rfl ?_
          refine WP.baloadI (I) (pc' := 21) d_jdk_43_method_13_20 rfl B0 hi (by omega) rfl ?_
          refine WP.icmp_eq (pc1 := 26) (pc2 := 24) d_jdk_43_method_13_21 (by decide) (by decide) rfl ?_ ?_
          · intro hc21
            refine WP.iinc (pc' := 29) d_jdk_43_method_13_26 rfl rfl (z := (i + (1 : Int32))) rfl (Ls' := #[.val (.ref a), .val (.ref b), .val (.int (i + (1 : Int32)))]) rfl ?_
            refine WP.goto (pc' := 9) d_jdk_43_method_13_29 (by decide) (by decide) ?_
            refine IH (I + 1) _ (adds hi rfl (by omega)) (by omega) (by omega) fun j hj => ?_
            by_cases q : j = I
            · rw [q]; exact hc21
            · exact hg j (by omega)
          · intro hc21
            refine WP.iconst (pc' := 25) d_jdk_43_method_13_24 rfl (z := 0) rfl ?_
            refine WP.nret (t := .boolean) d_jdk_43_method_13_25 rfl (by simp) rfl (by decide) (by decide) ⟨Or.inr ⟨rfl, fun z => hc21 (z.2 I lt1)⟩, rfl⟩
    exact loop (n + 1) 0 0 rfl (by omega) (by omega) fun j hj => absurd hj (by omega)
theorem d_jdk_42_method_66_0 : decode jdk_42_method_66_code 0 = .ok (.aload_n 0, 1) := by decide +kernel
theorem d_jdk_42_method_66_1 : decode jdk_42_method_66_code 1 = .ok (.aload_n 1, 1) := by decide +kernel
theorem d_jdk_42_method_66_2 : decode jdk_42_method_66_code 2 = .ok (.if_acmp .ne 5, 3) := by decide +kernel
theorem d_jdk_42_method_66_7 : decode jdk_42_method_66_code 7 = .ok (.aload_n 1, 1) := by decide +kernel
theorem d_jdk_42_method_66_8 : decode jdk_42_method_66_code 8 = .ok (.instanceof 10, 3) := by decide +kernel
theorem wd67 {Z : State} {a0 : Array Value} (hw : ∀ d ∈ tables_1, d.before a0 Z = true) : (Jvm.Cond.classLink "java/lang/String" (10 : Nat) "java/lang/String").before a0 Z = true := hw _ (List.mem_of_getElem? (i := 67) rfl)
theorem d_jdk_42_method_66_11 : decode jdk_42_method_66_code 11 = .ok (.ifCond .eq 43, 3) := by decide +kernel
theorem d_jdk_42_method_66_14 : decode jdk_42_method_66_code 14 = .ok (.aload_n 1, 1) := by decide +kernel
theorem d_jdk_42_method_66_15 : decode jdk_42_method_66_code 15 = .ok (.checkcast 10, 3) := by decide +kernel
theorem d_jdk_42_method_66_18 : decode jdk_42_method_66_code 18 = .ok (.astore_n 2, 1) := by decide +kernel
theorem d_jdk_42_method_66_19 : decode jdk_42_method_66_code 19 = .ok (.getstatic 38, 3) := by decide +kernel
theorem d_jdk_42_method_66_22 : decode jdk_42_method_66_code 22 = .ok (.ifCond .eq 14, 3) := by decide +kernel
theorem d_jdk_42_method_66_25 : decode jdk_42_method_66_code 25 = .ok (.aload_n 0, 1) := by decide +kernel
theorem d_jdk_42_method_66_26 : decode jdk_42_method_66_code 26 = .ok (.getfield 15, 3) := by decide +kernel
theorem d_jdk_42_method_66_29 : decode jdk_42_method_66_code 29 = .ok (.aload_n 2, 1) := by decide +kernel
theorem d_jdk_42_method_66_30 : decode jdk_42_method_66_code 30 = .ok (.getfield 15, 3) := by decide +kernel
theorem d_jdk_42_method_66_33 : decode jdk_42_method_66_code 33 = .ok (.if_icmp .ne 21, 3) := by decide +kernel
theorem d_jdk_42_method_66_36 : decode jdk_42_method_66_code 36 = .ok (.aload_n 0, 1) := by decide +kernel
theorem d_jdk_42_method_66_37 : decode jdk_42_method_66_code 37 = .ok (.getfield 9, 3) := by decide +kernel
theorem d_jdk_42_method_66_40 : decode jdk_42_method_66_code 40 = .ok (.aload_n 2, 1) := by decide +kernel
theorem d_jdk_42_method_66_41 : decode jdk_42_method_66_code 41 = .ok (.getfield 9, 3) := by decide +kernel
theorem d_jdk_42_method_66_44 : decode jdk_42_method_66_code 44 = .ok (.invokestatic 541, 3) := by decide +kernel
theorem wd68 {Z : State} {a0 : Array Value} (hw : ∀ d ∈ tables_1, d.before a0 Z = true) : (Jvm.Cond.methodLink "java/lang/String" (541 : Nat) ({ cls := "java/lang/StringLatin1", name := "equals", desc := "([B[B)Z" } : Jvm.MethodName)).before a0 Z = true := hw _ (List.mem_of_getElem? (i := 68) rfl)
theorem wd71 {Z : State} {a0 : Array Value} (hw : ∀ d ∈ tables_1, d.before a0 Z = true) : (Jvm.Cond.code ({ cls := "java/lang/StringLatin1", name := "equals", desc := "([B[B)Z" } : Jvm.MethodName) jdk_43_method_13_code (3 : Nat) (Option.some Jvm.ClassFile.FieldType.boolean)).before a0 Z = true := hw _ (List.mem_of_getElem? (i := 71) rfl)
theorem wd70 {Z : State} {a0 : Array Value} (hw : ∀ d ∈ tables_1, d.before a0 Z = true) : (Jvm.Cond.initialized "java/lang/StringLatin1").before a0 Z = true := hw _ (List.mem_of_getElem? (i := 70) rfl)
theorem pd_4 : parseMethodDescriptor "([B[B)Z" = some ⟨[(.array .byte), (.array .byte)], some .boolean⟩ := by decide +kernel
theorem wd69 {Z : State} {a0 : Array Value} (hw : ∀ d ∈ tables_1, d.before a0 Z = true) : (Jvm.Cond.static ({ cls := "java/lang/StringLatin1", name := "equals", desc := "([B[B)Z" } : Jvm.MethodName)).before a0 Z = true := hw _ (List.mem_of_getElem? (i := 69) rfl)
theorem d_jdk_42_method_66_47 : decode jdk_42_method_66_code 47 = .ok (.ifCond .eq 7, 3) := by decide +kernel
theorem d_jdk_42_method_66_50 : decode jdk_42_method_66_code 50 = .ok (.iconst 1, 1) := by decide +kernel
theorem d_jdk_42_method_66_51 : decode jdk_42_method_66_code 51 = .ok (.goto 4, 3) := by decide +kernel
theorem d_jdk_42_method_66_55 : decode jdk_42_method_66_code 55 = .ok (.ireturn, 1) := by decide +kernel
theorem d_jdk_42_method_66_54 : decode jdk_42_method_66_code 54 = .ok (.iconst 0, 1) := by decide +kernel
set_option maxRecDepth 65536 in
set_option maxHeartbeats 40000000 in
theorem s_eq {Z : State} {a0 : Array Value} (hw : ∀ d ∈ tables_1, d.before a0 Z = true) (a : Addr) (o : Addr) (h0 : Heap) (n0 : Nat) (b1 b2 : Addr) (n m : Nat) (g g' : Nat → Int32) (E_a : Exa Z h0 a "java/lang/String") (V_a : Fld Z h0 a "java/lang/String" "value" "[B" (.ref b1)) (C_a : Fld Z h0 a "java/lang/String" "coder" "B" (.int 0)) (E_o : Exa Z h0 o "java/lang/String") (V_o : Fld Z h0 o "java/lang/String" "value" "[B" (.ref b2)) (C_o : Fld Z h0 o "java/lang/String" "coder" "B" (.int 0)) (A0 : Ari Z h0 b1 .byte n g) (B0 : Ari Z h0 b2 .byte m g') (hn : n ≤ 10000) (hm : m ≤ 10000) (hao : a ≠ o) (cs : Int32) (S_CS : Sta Z h0 "java/lang/String" "COMPACT_STRINGS" "Z" (.int cs)) (hcs : ¬ cs = 0) : ∀ l, Does l Z (⟨"java/lang/String", "equals", "(Ljava/lang/Object;)Z"⟩ : MethodName) jdk_42_method_66_code 3 (some .boolean) ({ frames := 1, cells := 0, slots := 0, locals := 14 } : Room) n0 #[(.ref a), (.ref o)] h0 (fun v h => ((v = some (.int 1) ∧ Same n m g g') ∨ (v = some (.int 0) ∧ ¬ Same n m g g')) ∧ h = h0) := by
  intro l
  refine Does.of_wp (plainFor_of_name pn_1) (Ls := #[.val (.ref a), .val (.ref o), .unset]) (fun m => by first | (simp [entryFrame, mkF, argsToLocals, Value.category]; done) | rfl) ?_
  intro C
  refine WP.aloadN (pc' := 1) d_jdk_42_method_66_0 rfl rfl rfl ?_
  refine WP.aloadN (pc' := 2) d_jdk_42_method_66_1 rfl rfl rfl ?_
  have hc2 : ¬ ((.ref a) : Value) = (.ref o) := fun q => hao (Value.ref.inj q)
  refine WP.acmp_ne (pc1 := 7) (pc2 := 5) d_jdk_42_method_66_2 rfl rfl (by decide) (by decide) rfl (fun _ => ?_) (fun k => absurd k hc2)
  refine WP.aloadN (pc' := 8) d_jdk_42_method_66_7 rfl rfl rfl ?_
  refine WP.instanceof (pc' := 11) d_jdk_42_method_66_8 rfl (wd67 hw) (Ins.self E_o) ?_
  have hc11 : ¬ (1 : Int32) = (0 : Int32) := by decide
  refine WP.ifc_eq (pc1 := 54) (pc2 := 14) d_jdk_42_method_66_11 (by decide) (by decide) rfl (fun k => absurd k hc11) (fun _ => ?_)
  refine WP.aloadN (pc' := 15) d_jdk_42_method_66_14 rfl rfl rfl ?_
  refine WP.checkcast (pc' := 18) d_jdk_42_method_66_15 rfl (wd67 hw) (Ins.self E_o) ?_
  refine WP.astoreN (pc' := 19) d_jdk_42_method_66_18 rfl rfl (Ls' := #[.val (.ref a), .val (.ref o), .val (.ref o)]) rfl ?_
  refine WP.getS (pc' := 22) d_jdk_42_method_66_19 rfl (host := "") (Or.inl (wd17 hw)) Via.refl (S_CS) ?_
  have hc22 : ¬ cs = (0 : Int32) := hcs
  refine WP.ifc_eq (pc1 := 36) (pc2 := 25) d_jdk_42_method_66_22 (by decide) (by decide) rfl (fun k => absurd k hc22) (fun _ => ?_)
  refine WP.aloadN (pc' := 26) d_jdk_42_method_66_25 rfl rfl rfl ?_
  refine WP.getF (pc' := 29) d_jdk_42_method_66_26 rfl (host := "") (Or.inl (wd29 hw)) Via.refl C_a ?_
  refine WP.aloadN (pc' := 30) d_jdk_42_method_66_29 rfl rfl rfl ?_
  refine WP.getF (pc' := 33) d_jdk_42_method_66_30 rfl (host := "") (Or.inl (wd29 hw)) Via.refl C_o ?_
  have hc33 : (0 : Int32) = (0 : Int32) := by decide
  refine WP.icmp_ne (pc1 := 54) (pc2 := 36) d_jdk_42_method_66_33 (by decide) (by decide) rfl (fun k => absurd hc33 k) (fun _ => ?_)
  refine WP.aloadN (pc' := 37) d_jdk_42_method_66_36 rfl rfl rfl ?_
  refine WP.getF (pc' := 40) d_jdk_42_method_66_37 rfl (host := "") (Or.inl (wd31 hw)) Via.refl V_a ?_
  refine WP.aloadN (pc' := 41) d_jdk_42_method_66_40 rfl rfl rfl ?_
  refine WP.getF (pc' := 44) d_jdk_42_method_66_41 rfl (host := "") (Or.inl (wd31 hw)) Via.refl V_o ?_
  refine WP.callS (argsL := [(.ref b1), (.ref b2)]) (rest := []) (wd := 0) (cl' := 0) (sl' := 0) (pc' := 47) d_jdk_42_method_66_44 rfl (wd68 hw) (wd69 hw) (wd70 hw) (wd71 hw) (by decide) (s_leq hw b1 b2 h0 n0 n m g g' A0 B0 hn hm) pd_4 rfl rfl rfl (Nat.le_of_eq rfl) (by decide) (by decide) rfl rfl (by decide) (by decide) ?_
  rintro v hh1 ⟨⟨rfl, q⟩ | ⟨rfl, q⟩, he1⟩ <;> rw [he1]
  · skip
    refine WP.castS (st' := [(.int (1 : Int32))]) rfl ?_
    have hc47 : ¬ (1 : Int32) = (0 : Int32) := by decide
    refine WP.ifc_eq (pc1 := 54) (pc2 := 50) d_jdk_42_method_66_47 (by decide) (by decide) rfl (fun k => absurd k hc47) (fun _ => ?_)
    refine WP.iconst (pc' := 51) d_jdk_42_method_66_50 rfl (z := 1) rfl ?_
    refine WP.goto (pc' := 55) d_jdk_42_method_66_51 (by decide) (by decide) ?_
    refine WP.nret (t := .boolean) d_jdk_42_method_66_55 rfl (by simp) rfl (by decide) (by decide) ⟨Or.inl ⟨rfl, q⟩, rfl⟩
  · skip
    refine WP.castS (st' := [(.int (0 : Int32))]) rfl ?_
    have hc47 : (0 : Int32) = (0 : Int32) := by decide
    refine WP.ifc_eq (pc1 := 54) (pc2 := 50) d_jdk_42_method_66_47 (by decide) (by decide) rfl (fun _ => ?_) (fun k => absurd hc47 k)
    refine WP.iconst (pc' := 55) d_jdk_42_method_66_54 rfl (z := 0) rfl ?_
    refine WP.nret (t := .boolean) d_jdk_42_method_66_55 rfl (by simp) rfl (by decide) (by decide) ⟨Or.inr ⟨rfl, q⟩, rfl⟩
def ov (m i k : Int32) : Int32 := if m = 0 then 0 else if m = 2 then i ^^^ k else i
def fn (m i k : Int32) : Prop := m = 2 → i = k
theorem xor_cancel (a b : Int32) : a ^^^ (a ^^^ b) = b := by
  apply Int32.toBitVec_inj.mp
  simp only [Int32.toBitVec_xor]
  rw [← BitVec.xor_assoc, BitVec.xor_self, BitVec.zero_xor]
theorem ovP {m i k : Int32} (h : fn m i k) : ov m i k = 0 ∨ i = ov m i k := by
  unfold ov
  by_cases h0 : m = 0
  · rw [if_pos h0]; exact Or.inl rfl
  · rw [if_neg h0]
    by_cases h2 : m = 2
    · rw [if_pos h2, h h2]
      left
      apply Int32.toBitVec_inj.mp
      simp
    · rw [if_neg h2]; exact Or.inr rfl
theorem ovN {m i k : Int32} (hk : ¬ k = 0) (h : ¬ fn m i k) : ¬ (ov m i k = 0 ∨ i = ov m i k) := by
  have h2 : m = 2 := Decidable.byContradiction fun q => h fun z => absurd z q
  have hi : ¬ i = k := fun q => h fun _ => q
  have h0 : ¬ m = 0 := fun q => by rw [q] at h2; exact absurd h2 (by decide)
  unfold ov
  rw [if_neg h0, if_pos h2]
  rintro (q | q)
  · have e := xor_cancel i k
    rw [q] at e
    apply hi
    rw [← e]
    apply Int32.toBitVec_inj.mp
    simp
  · have e := xor_cancel i k
    rw [← q] at e
    apply hk
    rw [← e]
    apply Int32.toBitVec_inj.mp
    simp
theorem or1 (x : Int32) : ¬ x ||| 1 = 0 := fun q => by
  have h : (x.toBitVec ||| 1#32) = 0#32 := congrArg Int32.toBitVec q
  have h2 := congrArg (fun b : BitVec 32 => b.getLsbD 0) h
  simp at h2
theorem mask255 {c : Int32} (h : 0 ≤ c.toInt ∧ c.toInt ≤ 255) : c &&& 255 = c := by
  have h1 := c_mask c 255 8 (by decide) (by decide)
  apply Int32.toInt_inj.mp
  omega
theorem latV (x : Int32) : nar .char ((x &&& 255).toUInt32.toUInt16.toUInt32.toInt32) = x &&& 255 ∧ 0 ≤ (x &&& 255).toInt ∧ (x &&& 255).toInt ≤ 255 := by
  refine ⟨?_, ?_⟩
  · rw [i2c_mask]; exact i2c_mask x
  · have h1 := c_mask x 255 8 (by decide) (by decide)
    omega
theorem nar_lat {c : Int32} (h : 0 ≤ c.toInt ∧ c.toInt ≤ 255) : nar .char c = c := by
  have e := i2c_mask c
  rw [mask255 h] at e
  exact e
theorem xr {c t : Int32} (hc : 0 ≤ c.toInt ∧ c.toInt ≤ 255) (ht : 1 ≤ t.toInt ∧ t.toInt ≤ 255) : ¬ (c ^^^ t) &&& 255 = c := fun q => by
  have e1 : (c ^^^ t) &&& 255 = (c &&& 255) ^^^ (t &&& 255) := by
    apply Int32.toBitVec_inj.mp
    simp only [Int32.toBitVec_and, Int32.toBitVec_xor]
    apply BitVec.eq_of_getLsbD_eq
    intro i hi
    simp only [BitVec.getLsbD_and, BitVec.getLsbD_xor]
    cases c.toBitVec.getLsbD i <;> cases t.toBitVec.getLsbD i <;> cases (255 : Int32).toBitVec.getLsbD i <;> rfl
  rw [mask255 hc, mask255 (show 0 ≤ t.toInt ∧ t.toInt ≤ 255 from ⟨by omega, ht.2⟩)] at e1
  have e2 := xor_cancel c t
  rw [← e1, q] at e2
  have e3 : c ^^^ c = 0 := by apply Int32.toBitVec_inj.mp; simp
  rw [e3] at e2
  rw [← e2] at ht
  exact absurd ht.1 (by decide)
theorem and3 (x : Int32) : 0 ≤ (x &&& 3).toInt ∧ (x &&& 3).toInt < 4 := by
  have h1 := c_mask x 3 2 (by decide) (by decide)
  omega
theorem rem3 (x : Int32) : 0 ≤ ((x &&& 255) % 3).toInt ∧ ((x &&& 255) % 3).toInt < 3 := by
  have h1 := c_mask x 255 8 (by decide) (by decide)
  have h2 := c_irem (x &&& 255) 3 3 rfl
  omega
theorem and255 (x : Int32) : 0 ≤ (x &&& 255).toInt ∧ (x &&& 255).toInt ≤ 255 := by
  have h1 := c_mask x 255 8 (by decide) (by decide)
  omega
theorem lat_upd {n : Nat} {g : Nat → Int32} (h : Lat n g) {i : Nat} {x : Int32} (hx : 0 ≤ x.toInt ∧ x.toInt ≤ 255) : Lat n (updI g i x) := fun j hj => by
  unfold updI
  split
  · exact hx
  · exact h j hj
theorem lat0 {n : Nat} : Lat n (fun _ => 0) := fun _ _ => (by decide : 0 ≤ (0 : Int32).toInt ∧ (0 : Int32).toInt ≤ 255)
theorem i3 {i : Nat} (h : i < 3) : i = 0 ∨ i = 1 ∨ i = 2 := by omega
theorem cv_same {n m : Nat} {g g' : Nat → Int32} (hl : Lat n g) (hl' : Lat m g') : Same n m (fun i => cv (g i)) (fun i => cv (g' i)) ↔ Same n m g g' := by
  refine ⟨fun z => ⟨z.1, fun i hi => cv_inj (hl i hi) (hl' i (by have := z.1; omega)) (z.2 i hi)⟩, fun z => ⟨z.1, fun i hi => congrArg cv (z.2 i hi)⟩⟩
theorem d_jdk_30_method_1_0 : decode jdk_30_method_1_code 0 = .ok (.aload_n 0, 1) := by decide +kernel
theorem d_jdk_30_method_1_1 : decode jdk_30_method_1_code 1 = .ok (.invokespecial 1, 3) := by decide +kernel
theorem wd41 {Z : State} {a0 : Array Value} (hw : ∀ d ∈ tables_1, d.before a0 Z = true) : (Jvm.Cond.methodLink "java/lang/Record" (1 : Nat) ({ cls := "java/lang/Object", name := "<init>", desc := "()V" } : Jvm.MethodName)).before a0 Z = true := hw _ (List.mem_of_getElem? (i := 41) rfl)
theorem d_jdk_30_method_1_4 : decode jdk_30_method_1_code 4 = .ok (.return_, 1) := by decide +kernel
theorem pn_3 : plainName "java/lang/Record" = true := by first | (simp [plainName, overriddenIn]; done) | decide +kernel
set_option maxRecDepth 65536 in
set_option maxHeartbeats 40000000 in
theorem m_rec {Z : State} {a0 : Array Value} (hw : ∀ d ∈ tables_1, d.before a0 Z = true) (a : Addr) (h0 : Heap) (n0 : Nat)  : ∀ l, Does l Z (⟨"java/lang/Record", "<init>", "()V"⟩ : MethodName) jdk_30_method_1_code 1 none ({ frames := 1, cells := 0, slots := 0, locals := 12 } : Room) n0 #[(.ref a)] h0 (fun v h => v = none ∧ h = h0) := by
  intro l
  refine Does.of_wp (plainFor_of_name pn_3) (Ls := #[.val (.ref a)]) (fun m => by first | (simp [entryFrame, mkF, argsToLocals, Value.category]; done) | rfl) ?_
  intro C
  refine WP.aloadN (pc' := 1) d_jdk_30_method_1_0 rfl rfl rfl ?_
  refine WP.initO (wd := 0) (pc' := 4) d_jdk_30_method_1_1 rfl (wd41 hw) (wd15 hw) (wd16 hw) rfl (by decide) (Nat.le_of_eq rfl) (by decide) ?_
  exact WP.vret d_jdk_30_method_1_4 rfl (by decide) (by decide) ⟨rfl, rfl⟩
theorem d_prog_43_method_1_0 : decode prog_43_method_1_code 0 = .ok (.aload_n 0, 1) := by decide +kernel
theorem d_prog_43_method_1_1 : decode prog_43_method_1_code 1 = .ok (.invokespecial 1, 3) := by decide +kernel
theorem wd36 {Z : State} {a0 : Array Value} (hw : ∀ d ∈ tables_1, d.before a0 Z = true) : (Jvm.Cond.methodLink "com/example/labwire/labwire/check/FieldPath" (1 : Nat) ({ cls := "java/lang/Record", name := "<init>", desc := "()V" } : Jvm.MethodName)).before a0 Z = true := hw _ (List.mem_of_getElem? (i := 36) rfl)
theorem wd40 {Z : State} {a0 : Array Value} (hw : ∀ d ∈ tables_1, d.before a0 Z = true) : (Jvm.Cond.code ({ cls := "java/lang/Record", name := "<init>", desc := "()V" } : Jvm.MethodName) jdk_30_method_1_code (1 : Nat) (Option.none : Option Jvm.ClassFile.FieldType)).before a0 Z = true := hw _ (List.mem_of_getElem? (i := 40) rfl)
theorem wd39 {Z : State} {a0 : Array Value} (hw : ∀ d ∈ tables_1, d.before a0 Z = true) : (Jvm.Cond.initialized "java/lang/Record").before a0 Z = true := hw _ (List.mem_of_getElem? (i := 39) rfl)
theorem pd_5 : parseMethodDescriptor "()V" = some ⟨[], none⟩ := by decide +kernel
theorem wd37 {Z : State} {a0 : Array Value} (hw : ∀ d ∈ tables_1, d.before a0 Z = true) : (Jvm.Cond.instanceMethod ({ cls := "java/lang/Record", name := "<init>", desc := "()V" } : Jvm.MethodName)).before a0 Z = true := hw _ (List.mem_of_getElem? (i := 37) rfl)
theorem d_prog_43_method_1_4 : decode prog_43_method_1_code 4 = .ok (.aload_n 0, 1) := by decide +kernel
theorem d_prog_43_method_1_5 : decode prog_43_method_1_code 5 = .ok (.aload_n 1, 1) := by decide +kernel
theorem d_prog_43_method_1_6 : decode prog_43_method_1_code 6 = .ok (.putfield 7, 3) := by decide +kernel
theorem wd42 {Z : State} {a0 : Array Value} (hw : ∀ d ∈ tables_1, d.before a0 Z = true) : (Jvm.Cond.fieldLink "com/example/labwire/labwire/check/FieldPath" (7 : Nat) "com/example/labwire/labwire/check/FieldPath" "segment" "Ljava/lang/String;").before a0 Z = true := hw _ (List.mem_of_getElem? (i := 42) rfl)
theorem wd43 {Z : State} {a0 : Array Value} (hw : ∀ d ∈ tables_1, d.before a0 Z = true) : (Jvm.Cond.laysFinal "com/example/labwire/labwire/check/FieldPath" "com/example/labwire/labwire/check/FieldPath" "segment" "Ljava/lang/String;").before a0 Z = true := hw _ (List.mem_of_getElem? (i := 43) rfl)
theorem wd2 {Z : State} {a0 : Array Value} (hw : ∀ d ∈ tables_1, d.before a0 Z = true) : (Jvm.Cond.instantiable "com/example/labwire/labwire/check/FieldPath" (4 : Nat)).before a0 Z = true := hw _ (List.mem_of_getElem? (i := 2) rfl)
theorem wd45 {Z : State} {a0 : Array Value} (hw : ∀ d ∈ tables_1, d.before a0 Z = true) : (Jvm.Cond.laysFinal "com/example/labwire/labwire/check/FieldPath" "com/example/labwire/labwire/check/FieldPath" "field" "I").before a0 Z = true := hw _ (List.mem_of_getElem? (i := 45) rfl)
theorem wd47 {Z : State} {a0 : Array Value} (hw : ∀ d ∈ tables_1, d.before a0 Z = true) : (Jvm.Cond.laysFinal "com/example/labwire/labwire/check/FieldPath" "com/example/labwire/labwire/check/FieldPath" "component" "I").before a0 Z = true := hw _ (List.mem_of_getElem? (i := 47) rfl)
theorem wd49 {Z : State} {a0 : Array Value} (hw : ∀ d ∈ tables_1, d.before a0 Z = true) : (Jvm.Cond.laysFinal "com/example/labwire/labwire/check/FieldPath" "com/example/labwire/labwire/check/FieldPath" "subcomponent" "I").before a0 Z = true := hw _ (List.mem_of_getElem? (i := 49) rfl)
theorem d_prog_43_method_1_9 : decode prog_43_method_1_code 9 = .ok (.aload_n 0, 1) := by decide +kernel
theorem d_prog_43_method_1_10 : decode prog_43_method_1_code 10 = .ok (.iload_n 2, 1) := by decide +kernel
theorem d_prog_43_method_1_11 : decode prog_43_method_1_code 11 = .ok (.putfield 13, 3) := by decide +kernel
theorem wd44 {Z : State} {a0 : Array Value} (hw : ∀ d ∈ tables_1, d.before a0 Z = true) : (Jvm.Cond.fieldLink "com/example/labwire/labwire/check/FieldPath" (13 : Nat) "com/example/labwire/labwire/check/FieldPath" "field" "I").before a0 Z = true := hw _ (List.mem_of_getElem? (i := 44) rfl)
theorem d_prog_43_method_1_14 : decode prog_43_method_1_code 14 = .ok (.aload_n 0, 1) := by decide +kernel
theorem d_prog_43_method_1_15 : decode prog_43_method_1_code 15 = .ok (.iload_n 3, 1) := by decide +kernel
theorem d_prog_43_method_1_16 : decode prog_43_method_1_code 16 = .ok (.putfield 17, 3) := by decide +kernel
theorem wd46 {Z : State} {a0 : Array Value} (hw : ∀ d ∈ tables_1, d.before a0 Z = true) : (Jvm.Cond.fieldLink "com/example/labwire/labwire/check/FieldPath" (17 : Nat) "com/example/labwire/labwire/check/FieldPath" "component" "I").before a0 Z = true := hw _ (List.mem_of_getElem? (i := 46) rfl)
theorem d_prog_43_method_1_19 : decode prog_43_method_1_code 19 = .ok (.aload_n 0, 1) := by decide +kernel
theorem d_prog_43_method_1_20 : decode prog_43_method_1_code 20 = .ok (.iload 4, 2) := by decide +kernel
theorem d_prog_43_method_1_22 : decode prog_43_method_1_code 22 = .ok (.putfield 20, 3) := by decide +kernel
theorem wd48 {Z : State} {a0 : Array Value} (hw : ∀ d ∈ tables_1, d.before a0 Z = true) : (Jvm.Cond.fieldLink "com/example/labwire/labwire/check/FieldPath" (20 : Nat) "com/example/labwire/labwire/check/FieldPath" "subcomponent" "I").before a0 Z = true := hw _ (List.mem_of_getElem? (i := 48) rfl)
theorem d_prog_43_method_1_25 : decode prog_43_method_1_code 25 = .ok (.return_, 1) := by decide +kernel
theorem pn_4 : plainName "com/example/labwire/labwire/check/FieldPath" = true := by first | (simp [plainName, overriddenIn]; done) | decide +kernel
set_option maxRecDepth 65536 in
set_option maxHeartbeats 40000000 in
theorem m_fi {Z : State} {a0 : Array Value} (hw : ∀ d ∈ tables_1, d.before a0 Z = true) (a : Addr) (x : Addr) (p : Int32) (q : Int32) (r : Int32) (h0 : Heap) (n0 : Nat) (E0 : Exa Z h0 a "com/example/labwire/labwire/check/FieldPath") (g0 : n0 ≤ a) (F_segment : Fld Z h0 a "com/example/labwire/labwire/check/FieldPath" "segment" "Ljava/lang/String;" .null) (F_field : Fld Z h0 a "com/example/labwire/labwire/check/FieldPath" "field" "I" (.int 0)) (F_component : Fld Z h0 a "com/example/labwire/labwire/check/FieldPath" "component" "I" (.int 0)) (F_subcomponent : Fld Z h0 a "com/example/labwire/labwire/check/FieldPath" "subcomponent" "I" (.int 0)) : ∀ l, Does l Z (⟨"com/example/labwire/labwire/check/FieldPath", "<init>", "(Ljava/lang/String;III)V"⟩ : MethodName) prog_43_method_1_code 5 none ({ frames := 2, cells := 0, slots := 0, locals := 24 } : Room) n0 #[(.ref a), (.ref x), (.int p), (.int q), (.int r)] h0 (fun v h => v = none ∧ Keep h0 h [a] ∧ Exa Z h a "com/example/labwire/labwire/check/FieldPath" ∧ Fld Z h a "com/example/labwire/labwire/check/FieldPath" "segment" "Ljava/lang/String;" (.ref x) ∧ Fld Z h a "com/example/labwire/labwire/check/FieldPath" "field" "I" (.int p) ∧ Fld Z h a "com/example/labwire/labwire/check/FieldPath" "component" "I" (.int q) ∧ Fld Z h a "com/example/labwire/labwire/check/FieldPath" "subcomponent" "I" (.int r)) := by
  intro l
  refine Does.of_wp (plainFor_of_name pn_4) (Ls := #[.val (.ref a), .val (.ref x), .val (.int p), .val (.int q), .val (.int r)]) (fun m => by first | (simp [entryFrame, mkF, argsToLocals, Value.category]; done) | rfl) ?_
  intro C
  have K0 := Keep.refl h0 [a]
  refine WP.aloadN (pc' := 1) d_prog_43_method_1_0 rfl rfl rfl ?_
  refine WP.callI (a := a) (argsL := []) (rest := []) (wd := 0) (cl' := 0) (sl' := 0) (pc' := 4) d_prog_43_method_1_1 rfl rfl (wd36 hw) (wd37 hw) (wd39 hw) (wd40 hw) (by decide) (m_rec hw a h0 n0) pd_5 rfl rfl rfl (Nat.le_of_eq rfl) (by decide) (by decide) rfl rfl (by decide) (by decide) ?_
  rintro v hh1 ⟨rfl, he1⟩
  rw [he1]
  refine WP.castS (st' := []) rfl ?_
  refine WP.aloadN (pc' := 5) d_prog_43_method_1_4 rfl rfl rfl ?_
  refine WP.aloadN (pc' := 6) d_prog_43_method_1_5 rfl rfl rfl ?_
  refine WP.putF (pc' := 9) d_prog_43_method_1_6 rfl (host := "") (Or.inl (wd42 hw)) Via.refl F_segment E0 (Or.inr ⟨(wd43 hw), rfl, rfl⟩) (wd2 hw) (ty := (.object "java/lang/String")) (by decide) rfl rfl g0 ?_
  intro h2 W3
  have Kw4 := Keep.of_wr W3
  have E5 := E0.keep Kw4
  have K6 := K0.trans Kw4 (allS (Or.inl (by simp)) all0)
  have F8 := F_segment.same W3
  have F9 := F_field.other W3 (Or.inr (slot_ne (Or.inr (wd45 hw)) (Or.inr (wd43 hw)) (by decide) (t := .int) (t' := (.object "java/lang/String")) (by decide) (by decide)))
  have F10 := F_component.other W3 (Or.inr (slot_ne (Or.inr (wd47 hw)) (Or.inr (wd43 hw)) (by decide) (t := .int) (t' := (.object "java/lang/String")) (by decide) (by decide)))
  have F11 := F_subcomponent.other W3 (Or.inr (slot_ne (Or.inr (wd49 hw)) (Or.inr (wd43 hw)) (by decide) (t := .int) (t' := (.object "java/lang/String")) (by decide) (by decide)))
  refine WP.aloadN (pc' := 10) d_prog_43_method_1_9 rfl rfl rfl ?_
  refine WP.iloadN (pc' := 11) d_prog_43_method_1_10 rfl rfl ?_
  refine WP.putF (pc' := 14) d_prog_43_method_1_11 rfl (host := "") (Or.inl (wd44 hw)) Via.refl F9 E5 (Or.inr ⟨(wd45 hw), rfl, rfl⟩) (wd2 hw) (ty := .int) (by decide) rfl rfl g0 ?_
  intro h12 W13
  have Kw14 := Keep.of_wr W13
  have E15 := E5.keep Kw14
  have K16 := K6.trans Kw14 (allS (Or.inl (by simp)) all0)
  have F18 := F8.other W13 (Or.inr (slot_ne (Or.inr (wd43 hw)) (Or.inr (wd45 hw)) (by decide) (t := (.object "java/lang/String")) (t' := .int) (by decide) (by decide)))
  have F19 := F9.same W13
  have F20 := F10.other W13 (Or.inr (slot_ne (Or.inr (wd47 hw)) (Or.inr (wd45 hw)) (by decide) (t := .int) (t' := .int) (by decide) (by decide)))
  have F21 := F11.other W13 (Or.inr (slot_ne (Or.inr (wd49 hw)) (Or.inr (wd45 hw)) (by decide) (t := .int) (t' := .int) (by decide) (by decide)))
  refine WP.aloadN (pc' := 15) d_prog_43_method_1_14 rfl rfl rfl ?_
  refine WP.iloadN (pc' := 16) d_prog_43_method_1_15 rfl rfl ?_
  refine WP.putF (pc' := 19) d_prog_43_method_1_16 rfl (host := "") (Or.inl (wd46 hw)) Via.refl F20 E15 (Or.inr ⟨(wd47 hw), rfl, rfl⟩) (wd2 hw) (ty := .int) (by decide) rfl rfl g0 ?_
  intro h22 W23
  have Kw24 := Keep.of_wr W23
  have E25 := E15.keep Kw24
  have K26 := K16.trans Kw24 (allS (Or.inl (by simp)) all0)
  have F28 := F18.other W23 (Or.inr (slot_ne (Or.inr (wd43 hw)) (Or.inr (wd47 hw)) (by decide) (t := (.object "java/lang/String")) (t' := .int) (by decide) (by decide)))
  have F29 := F19.other W23 (Or.inr (slot_ne (Or.inr (wd45 hw)) (Or.inr (wd47 hw)) (by decide) (t := .int) (t' := .int) (by decide) (by decide)))
  have F30 := F20.same W23
  have F31 := F21.other W23 (Or.inr (slot_ne (Or.inr (wd49 hw)) (Or.inr (wd47 hw)) (by decide) (t := .int) (t' := .int) (by decide) (by decide)))
  refine WP.aloadN (pc' := 20) d_prog_43_method_1_19 rfl rfl rfl ?_
  refine WP.iload (pc' := 22) d_prog_43_method_1_20 rfl rfl ?_
  refine WP.putF (pc' := 25) d_prog_43_method_1_22 rfl (host := "") (Or.inl (wd48 hw)) Via.refl F31 E25 (Or.inr ⟨(wd49 hw), rfl, rfl⟩) (wd2 hw) (ty := .int) (by decide) rfl rfl g0 ?_
  intro h32 W33
  have Kw34 := Keep.of_wr W33
  have E35 := E25.keep Kw34
  have K36 := K26.trans Kw34 (allS (Or.inl (by simp)) all0)
  have F38 := F28.other W33 (Or.inr (slot_ne (Or.inr (wd43 hw)) (Or.inr (wd49 hw)) (by decide) (t := (.object "java/lang/String")) (t' := .int) (by decide) (by decide)))
  have F39 := F29.other W33 (Or.inr (slot_ne (Or.inr (wd45 hw)) (Or.inr (wd49 hw)) (by decide) (t := .int) (t' := .int) (by decide) (by decide)))
  have F40 := F30.other W33 (Or.inr (slot_ne (Or.inr (wd47 hw)) (Or.inr (wd49 hw)) (by decide) (t := .int) (t' := .int) (by decide) (by decide)))
  have F41 := F31.same W33
  exact WP.vret d_prog_43_method_1_25 rfl (by decide) (by decide) ⟨rfl, K36, E35, F38, F39, F40, F41⟩
theorem d_method_2_0 : decode method_2_code 0 = .ok (.iload_n 0, 1) := by decide +kernel
theorem d_method_2_1 : decode method_2_code 1 = .ok (.ifCond .ne 5, 3) := by decide +kernel
theorem d_method_2_6 : decode method_2_code 6 = .ok (.iload_n 0, 1) := by decide +kernel
theorem d_method_2_7 : decode method_2_code 7 = .ok (.iconst 2, 1) := by decide +kernel
theorem d_method_2_8 : decode method_2_code 8 = .ok (.if_icmp .ne 7, 3) := by decide +kernel
theorem d_method_2_15 : decode method_2_code 15 = .ok (.iload_n 1, 1) := by decide +kernel
theorem d_method_2_16 : decode method_2_code 16 = .ok (.ireturn, 1) := by decide +kernel
theorem d_method_2_11 : decode method_2_code 11 = .ok (.iload_n 1, 1) := by decide +kernel
theorem d_method_2_12 : decode method_2_code 12 = .ok (.iload_n 2, 1) := by decide +kernel
theorem d_method_2_13 : decode method_2_code 13 = .ok (.ixor, 1) := by decide +kernel
theorem d_method_2_14 : decode method_2_code 14 = .ok (.ireturn, 1) := by decide +kernel
theorem d_method_2_4 : decode method_2_code 4 = .ok (.iconst 0, 1) := by decide +kernel
theorem d_method_2_5 : decode method_2_code 5 = .ok (.ireturn, 1) := by decide +kernel
theorem pn_5 : plainName "com/example/labwire/labwire/check/FieldPathWithinPinLaw" = true := by first | (simp [plainName, overriddenIn]; done) | decide +kernel
set_option maxRecDepth 65536 in
set_option maxHeartbeats 40000000 in
theorem m_ov {Z : State} {a0 : Array Value} (hw : ∀ d ∈ tables_1, d.before a0 Z = true) (m : Int32) (i : Int32) (k : Int32) (h0 : Heap) (n0 : Nat)  : ∀ l, Does l Z (⟨"com/example/labwire/labwire/check/FieldPathWithinPinLaw", "outerValue", "(III)I"⟩ : MethodName) method_2_code 3 (some .int) ({ frames := 0, cells := 0, slots := 0, locals := 0 } : Room) n0 #[(.int m), (.int i), (.int k)] h0 (fun v h => v = some (.int (ov m i k)) ∧ h = h0) := by
  intro l
  refine Does.of_wp (plainFor_of_name pn_5) (Ls := #[.val (.int m), .val (.int i), .val (.int k)]) (fun m => by first | (simp [entryFrame, mkF, argsToLocals, Value.category]; done) | rfl) ?_
  intro C
  refine WP.iloadN (pc' := 1) d_method_2_0 rfl rfl ?_
  refine WP.ifc_ne (pc1 := 6) (pc2 := 4) d_method_2_1 (by decide) (by decide) rfl ?_ ?_
  · intro hc1
    refine WP.iloadN (pc' := 7) d_method_2_6 rfl rfl ?_
    refine WP.iconst (pc' := 8) d_method_2_7 rfl (z := 2) rfl ?_
    refine WP.icmp_ne (pc1 := 15) (pc2 := 11) d_method_2_8 (by decide) (by decide) rfl ?_ ?_
    · intro hc8
      refine WP.iloadN (pc' := 16) d_method_2_15 rfl rfl ?_
      refine WP.iret d_method_2_16 rfl (by decide) (by decide) ⟨by unfold ov; rw [if_neg hc1, if_neg hc8], rfl⟩
    · intro hc8
      refine WP.iloadN (pc' := 12) d_method_2_11 rfl rfl ?_
      refine WP.iloadN (pc' := 13) d_method_2_12 rfl rfl ?_
      refine WP.ixor (pc' := 14) d_method_2_13 rfl ?_
      refine WP.iret d_method_2_14 rfl (by decide) (by decide) ⟨by unfold ov; rw [if_neg hc1, if_pos hc8], rfl⟩
  · intro hc1
    refine WP.iconst (pc' := 5) d_method_2_4 rfl (z := 0) rfl ?_
    refine WP.iret d_method_2_5 rfl (by decide) (by decide) ⟨by unfold ov; rw [if_pos hc1], rfl⟩
theorem d_method_3_0 : decode method_3_code 0 = .ok (.iload_n 0, 1) := by decide +kernel
theorem d_method_3_1 : decode method_3_code 1 = .ok (.iconst 2, 1) := by decide +kernel
theorem d_method_3_2 : decode method_3_code 2 = .ok (.if_icmp .ne 14, 3) := by decide +kernel
theorem d_method_3_16 : decode method_3_code 16 = .ok (.iconst 1, 1) := by decide +kernel
theorem d_method_3_17 : decode method_3_code 17 = .ok (.ireturn, 1) := by decide +kernel
theorem d_method_3_5 : decode method_3_code 5 = .ok (.iload_n 1, 1) := by decide +kernel
theorem d_method_3_6 : decode method_3_code 6 = .ok (.iload_n 2, 1) := by decide +kernel
theorem d_method_3_7 : decode method_3_code 7 = .ok (.if_icmp .ne 7, 3) := by decide +kernel
theorem d_method_3_14 : decode method_3_code 14 = .ok (.iconst 0, 1) := by decide +kernel
theorem d_method_3_15 : decode method_3_code 15 = .ok (.ireturn, 1) := by decide +kernel
theorem d_method_3_10 : decode method_3_code 10 = .ok (.iconst 1, 1) := by decide +kernel
theorem d_method_3_11 : decode method_3_code 11 = .ok (.goto 4, 3) := by decide +kernel
set_option maxRecDepth 65536 in
set_option maxHeartbeats 40000000 in
theorem m_fn {Z : State} {a0 : Array Value} (hw : ∀ d ∈ tables_1, d.before a0 Z = true) (m : Int32) (i : Int32) (k : Int32) (h0 : Heap) (n0 : Nat)  : ∀ l, Does l Z (⟨"com/example/labwire/labwire/check/FieldPathWithinPinLaw", "fine", "(III)Z"⟩ : MethodName) method_3_code 3 (some .boolean) ({ frames := 0, cells := 0, slots := 0, locals := 0 } : Room) n0 #[(.int m), (.int i), (.int k)] h0 (fun v h => ((v = some (.int 1) ∧ fn m i k) ∨ (v = some (.int 0) ∧ ¬ fn m i k)) ∧ h = h0) := by
  intro l
  refine Does.of_wp (plainFor_of_name pn_5) (Ls := #[.val (.int m), .val (.int i), .val (.int k)]) (fun m => by first | (simp [entryFrame, mkF, argsToLocals, Value.category]; done) | rfl) ?_
  intro C
  refine WP.iloadN (pc' := 1) d_method_3_0 rfl rfl ?_
  refine WP.iconst (pc' := 2) d_method_3_1 rfl (z := 2) rfl ?_
  refine WP.icmp_ne (pc1 := 16) (pc2 := 5) d_method_3_2 (by decide) (by decide) rfl ?_ ?_
  · intro hc2
    refine WP.iconst (pc' := 17) d_method_3_16 rfl (z := 1) rfl ?_
    refine WP.nret (t := .boolean) d_method_3_17 rfl (by simp) rfl (by decide) (by decide) ⟨Or.inl ⟨rfl, fun z => absurd z hc2⟩, rfl⟩
  · intro hc2
    refine WP.iloadN (pc' := 6) d_method_3_5 rfl rfl ?_
    refine WP.iloadN (pc' := 7) d_method_3_6 rfl rfl ?_
    refine WP.icmp_ne (pc1 := 14) (pc2 := 10) d_method_3_7 (by decide) (by decide) rfl ?_ ?_
    · intro hc7
      refine WP.iconst (pc' := 15) d_method_3_14 rfl (z := 0) rfl ?_
      refine WP.nret (t := .boolean) d_method_3_15 rfl (by simp) rfl (by decide) (by decide) ⟨Or.inr ⟨rfl, fun z => hc7 (z hc2)⟩, rfl⟩
    · intro hc7
      refine WP.iconst (pc' := 11) d_method_3_10 rfl (z := 1) rfl ?_
      refine WP.goto (pc' := 15) d_method_3_11 (by decide) (by decide) ?_
      refine WP.nret (t := .boolean) d_method_3_15 rfl (by simp) rfl (by decide) (by decide) ⟨Or.inl ⟨rfl, fun _ => hc7⟩, rfl⟩
theorem d_prog_43_method_5_0 : decode prog_43_method_5_code 0 = .ok (.aload_n 0, 1) := by decide +kernel
theorem d_prog_43_method_5_1 : decode prog_43_method_5_code 1 = .ok (.getfield 7, 3) := by decide +kernel
theorem d_prog_43_method_5_4 : decode prog_43_method_5_code 4 = .ok (.aload_n 1, 1) := by decide +kernel
theorem d_prog_43_method_5_5 : decode prog_43_method_5_code 5 = .ok (.getfield 7, 3) := by decide +kernel
theorem d_prog_43_method_5_8 : decode prog_43_method_5_code 8 = .ok (.invokevirtual 30, 3) := by decide +kernel
theorem wd62 {Z : State} {a0 : Array Value} (hw : ∀ d ∈ tables_1, d.before a0 Z = true) : (Jvm.Cond.methodLink "com/example/labwire/labwire/check/FieldPath" (30 : Nat) ({ cls := "java/lang/String", name := "equals", desc := "(Ljava/lang/Object;)Z" } : Jvm.MethodName)).before a0 Z = true := hw _ (List.mem_of_getElem? (i := 62) rfl)
theorem wd66 {Z : State} {a0 : Array Value} (hw : ∀ d ∈ tables_1, d.before a0 Z = true) : (Jvm.Cond.code ({ cls := "java/lang/String", name := "equals", desc := "(Ljava/lang/Object;)Z" } : Jvm.MethodName) jdk_42_method_66_code (3 : Nat) (Option.some Jvm.ClassFile.FieldType.boolean)).before a0 Z = true := hw _ (List.mem_of_getElem? (i := 66) rfl)
theorem pd_6 : parseMethodDescriptor "(Ljava/lang/Object;)Z" = some ⟨[(.object "java/lang/Object")], some .boolean⟩ := by decide +kernel
theorem wd65 {Z : State} {a0 : Array Value} (hw : ∀ d ∈ tables_1, d.before a0 Z = true) : (Jvm.Cond.selects "java/lang/String" ({ cls := "java/lang/String", name := "equals", desc := "(Ljava/lang/Object;)Z" } : Jvm.MethodName) ({ cls := "java/lang/String", name := "equals", desc := "(Ljava/lang/Object;)Z" } : Jvm.MethodName)).before a0 Z = true := hw _ (List.mem_of_getElem? (i := 65) rfl)
theorem wd63 {Z : State} {a0 : Array Value} (hw : ∀ d ∈ tables_1, d.before a0 Z = true) : (Jvm.Cond.declares ({ cls := "java/lang/String", name := "equals", desc := "(Ljava/lang/Object;)Z" } : Jvm.MethodName)).before a0 Z = true := hw _ (List.mem_of_getElem? (i := 63) rfl)
theorem wd64 {Z : State} {a0 : Array Value} (hw : ∀ d ∈ tables_1, d.before a0 Z = true) : (Jvm.Cond.instanceMethod ({ cls := "java/lang/String", name := "equals", desc := "(Ljava/lang/Object;)Z" } : Jvm.MethodName)).before a0 Z = true := hw _ (List.mem_of_getElem? (i := 64) rfl)
theorem d_prog_43_method_5_11 : decode prog_43_method_5_code 11 = .ok (.ifCond .eq 61, 3) := by decide +kernel
theorem d_prog_43_method_5_14 : decode prog_43_method_5_code 14 = .ok (.aload_n 1, 1) := by decide +kernel
theorem d_prog_43_method_5_15 : decode prog_43_method_5_code 15 = .ok (.getfield 13, 3) := by decide +kernel
theorem d_prog_43_method_5_18 : decode prog_43_method_5_code 18 = .ok (.ifCond .eq 14, 3) := by decide +kernel
theorem d_prog_43_method_5_32 : decode prog_43_method_5_code 32 = .ok (.aload_n 1, 1) := by decide +kernel
theorem d_prog_43_method_5_33 : decode prog_43_method_5_code 33 = .ok (.getfield 17, 3) := by decide +kernel
theorem d_prog_43_method_5_36 : decode prog_43_method_5_code 36 = .ok (.ifCond .eq 14, 3) := by decide +kernel
theorem d_prog_43_method_5_50 : decode prog_43_method_5_code 50 = .ok (.aload_n 1, 1) := by decide +kernel
theorem d_prog_43_method_5_51 : decode prog_43_method_5_code 51 = .ok (.getfield 20, 3) := by decide +kernel
theorem d_prog_43_method_5_54 : decode prog_43_method_5_code 54 = .ok (.ifCond .eq 14, 3) := by decide +kernel
theorem d_prog_43_method_5_68 : decode prog_43_method_5_code 68 = .ok (.iconst 1, 1) := by decide +kernel
theorem d_prog_43_method_5_69 : decode prog_43_method_5_code 69 = .ok (.goto 4, 3) := by decide +kernel
theorem d_prog_43_method_5_73 : decode prog_43_method_5_code 73 = .ok (.ireturn, 1) := by decide +kernel
theorem d_prog_43_method_5_57 : decode prog_43_method_5_code 57 = .ok (.aload_n 0, 1) := by decide +kernel
theorem d_prog_43_method_5_58 : decode prog_43_method_5_code 58 = .ok (.getfield 20, 3) := by decide +kernel
theorem d_prog_43_method_5_61 : decode prog_43_method_5_code 61 = .ok (.aload_n 1, 1) := by decide +kernel
theorem d_prog_43_method_5_62 : decode prog_43_method_5_code 62 = .ok (.getfield 20, 3) := by decide +kernel
theorem d_prog_43_method_5_65 : decode prog_43_method_5_code 65 = .ok (.if_icmp .ne 7, 3) := by decide +kernel
theorem d_prog_43_method_5_72 : decode prog_43_method_5_code 72 = .ok (.iconst 0, 1) := by decide +kernel
theorem d_prog_43_method_5_39 : decode prog_43_method_5_code 39 = .ok (.aload_n 0, 1) := by decide +kernel
theorem d_prog_43_method_5_40 : decode prog_43_method_5_code 40 = .ok (.getfield 17, 3) := by decide +kernel
theorem d_prog_43_method_5_43 : decode prog_43_method_5_code 43 = .ok (.aload_n 1, 1) := by decide +kernel
theorem d_prog_43_method_5_44 : decode prog_43_method_5_code 44 = .ok (.getfield 17, 3) := by decide +kernel
theorem d_prog_43_method_5_47 : decode prog_43_method_5_code 47 = .ok (.if_icmp .ne 25, 3) := by decide +kernel
theorem d_prog_43_method_5_21 : decode prog_43_method_5_code 21 = .ok (.aload_n 0, 1) := by decide +kernel
theorem d_prog_43_method_5_22 : decode prog_43_method_5_code 22 = .ok (.getfield 13, 3) := by decide +kernel
theorem d_prog_43_method_5_25 : decode prog_43_method_5_code 25 = .ok (.aload_n 1, 1) := by decide +kernel
theorem d_prog_43_method_5_26 : decode prog_43_method_5_code 26 = .ok (.getfield 13, 3) := by decide +kernel
theorem d_prog_43_method_5_29 : decode prog_43_method_5_code 29 = .ok (.if_icmp .ne 43, 3) := by decide +kernel
set_option maxRecDepth 65536 in
set_option maxHeartbeats 40000000 in
theorem m_wi {Z : State} {a0 : Array Value} (hw : ∀ d ∈ tables_1, d.before a0 Z = true) (a : Addr) (o : Addr) (h0 : Heap) (n0 : Nat) (t1 t2 b1 b2 : Addr) (n m : Nat) (g g' : Nat → Int32) (f c s f' c' s' : Int32) (F_a_segment : Fld Z h0 a "com/example/labwire/labwire/check/FieldPath" "segment" "Ljava/lang/String;" (.ref t1)) (F_a_field : Fld Z h0 a "com/example/labwire/labwire/check/FieldPath" "field" "I" (.int f)) (F_a_component : Fld Z h0 a "com/example/labwire/labwire/check/FieldPath" "component" "I" (.int c)) (F_a_subcomponent : Fld Z h0 a "com/example/labwire/labwire/check/FieldPath" "subcomponent" "I" (.int s)) (E_t1 : Exa Z h0 t1 "java/lang/String") (V_t1 : Fld Z h0 t1 "java/lang/String" "value" "[B" (.ref b1)) (C_t1 : Fld Z h0 t1 "java/lang/String" "coder" "B" (.int 0)) (A_t1 : Ari Z h0 b1 .byte n g) (F_o_segment : Fld Z h0 o "com/example/labwire/labwire/check/FieldPath" "segment" "Ljava/lang/String;" (.ref t2)) (F_o_field : Fld Z h0 o "com/example/labwire/labwire/check/FieldPath" "field" "I" (.int f')) (F_o_component : Fld Z h0 o "com/example/labwire/labwire/check/FieldPath" "component" "I" (.int c')) (F_o_subcomponent : Fld Z h0 o "com/example/labwire/labwire/check/FieldPath" "subcomponent" "I" (.int s')) (E_t2 : Exa Z h0 t2 "java/lang/String") (V_t2 : Fld Z h0 t2 "java/lang/String" "value" "[B" (.ref b2)) (C_t2 : Fld Z h0 t2 "java/lang/String" "coder" "B" (.int 0)) (A_t2 : Ari Z h0 b2 .byte m g') (hn : n ≤ 10000) (hm : m ≤ 10000) (h12 : t1 ≠ t2) (cs : Int32) (S_CS : Sta Z h0 "java/lang/String" "COMPACT_STRINGS" "Z" (.int cs)) (hcs : ¬ cs = 0) : ∀ l, Does l Z (⟨"com/example/labwire/labwire/check/FieldPath", "within", "(Lcom/example/labwire/labwire/check/FieldPath;)Z"⟩ : MethodName) prog_43_method_5_code 2 (some .boolean) ({ frames := 2, cells := 0, slots := 0, locals := 28 } : Room) n0 #[(.ref a), (.ref o)] h0 (fun v h => ((v = some (.int 1) ∧ (Same n m g g' ∧ (f' = 0 ∨ f = f') ∧ (c' = 0 ∨ c = c') ∧ (s' = 0 ∨ s = s'))) ∨ (v = some (.int 0) ∧ ¬ (Same n m g g' ∧ (f' = 0 ∨ f = f') ∧ (c' = 0 ∨ c = c') ∧ (s' = 0 ∨ s = s')))) ∧ h = h0) := by
  intro l
  refine Does.of_wp (plainFor_of_name pn_4) (Ls := #[.val (.ref a), .val (.ref o)]) (fun m => by first | (simp [entryFrame, mkF, argsToLocals, Value.category]; done) | rfl) ?_
  intro C
  refine WP.aloadN (pc' := 1) d_prog_43_method_5_0 rfl rfl rfl ?_
  refine WP.getF (pc' := 4) d_prog_43_method_5_1 rfl (host := "") (Or.inl (wd42 hw)) Via.refl F_a_segment ?_
  refine WP.aloadN (pc' := 5) d_prog_43_method_5_4 rfl rfl rfl ?_
  refine WP.getF (pc' := 8) d_prog_43_method_5_5 rfl (host := "") (Or.inl (wd42 hw)) Via.refl F_o_segment ?_
  refine WP.callV (a := t1) (K := "java/lang/String") (argsL := [(.ref t2)]) (rest := []) (wd := 0) (cl' := 0) (sl' := 0) (pc' := 11) d_prog_43_method_5_8 rfl (wd62 hw) (wd63 hw) (nfS (wd65 hw) rfl) (wd65 hw) (wd64 hw) (wd6 hw) (wd66 hw) (by decide) E_t1 (s_eq hw t1 t2 h0 n0 b1 b2 n m g g' E_t1 V_t1 C_t1 E_t2 V_t2 C_t2 A_t1 A_t2 (by omega) (by omega) h12 cs S_CS hcs) pd_6 rfl rfl rfl (Nat.le_of_eq rfl) (by decide) (by decide) rfl rfl (by decide) (by decide) ?_
  rintro v hh1 ⟨⟨rfl, q⟩ | ⟨rfl, q⟩, he1⟩ <;> rw [he1]
  · skip
    refine WP.castS (st' := [(.int (1 : Int32))]) rfl ?_
    have hc11 : ¬ (1 : Int32) = (0 : Int32) := by decide
    refine WP.ifc_eq (pc1 := 72) (pc2 := 14) d_prog_43_method_5_11 (by decide) (by decide) rfl (fun k => absurd k hc11) (fun _ => ?_)
    refine WP.aloadN (pc' := 15) d_prog_43_method_5_14 rfl rfl rfl ?_
    refine WP.getF (pc' := 18) d_prog_43_method_5_15 rfl (host := "") (Or.inl (wd44 hw)) Via.refl F_o_field ?_
    refine WP.ifc_eq (pc1 := 32) (pc2 := 21) d_prog_43_method_5_18 (by decide) (by decide) rfl ?_ ?_
    · intro hc18
      refine WP.aloadN (pc' := 33) d_prog_43_method_5_32 rfl rfl rfl ?_
      refine WP.getF (pc' := 36) d_prog_43_method_5_33 rfl (host := "") (Or.inl (wd46 hw)) Via.refl F_o_component ?_
      refine WP.ifc_eq (pc1 := 50) (pc2 := 39) d_prog_43_method_5_36 (by decide) (by decide) rfl ?_ ?_
      · intro hc36
        refine WP.aloadN (pc' := 51) d_prog_43_method_5_50 rfl rfl rfl ?_
        refine WP.getF (pc' := 54) d_prog_43_method_5_51 rfl (host := "") (Or.inl (wd48 hw)) Via.refl F_o_subcomponent ?_
        refine WP.ifc_eq (pc1 := 68) (pc2 := 57) d_prog_43_method_5_54 (by decide) (by decide) rfl ?_ ?_
        · intro hc54
          refine WP.iconst (pc' := 69) d_prog_43_method_5_68 rfl (z := 1) rfl ?_
          refine WP.goto (pc' := 73) d_prog_43_method_5_69 (by decide) (by decide) ?_
          refine WP.nret (t := .boolean) d_prog_43_method_5_73 rfl (by simp) rfl (by decide) (by decide) ⟨Or.inl ⟨rfl, q, Or.inl hc18, Or.inl hc36, Or.inl hc54⟩, rfl⟩
        · intro hc54
          refine WP.aloadN (pc' := 58) d_prog_43_method_5_57 rfl rfl rfl ?_
          refine WP.getF (pc' := 61) d_prog_43_method_5_58 rfl (host := "") (Or.inl (wd48 hw)) Via.refl F_a_subcomponent ?_
          refine WP.aloadN (pc' := 62) d_prog_43_method_5_61 rfl rfl rfl ?_
          refine WP.getF (pc' := 65) d_prog_43_method_5_62 rfl (host := "") (Or.inl (wd48 hw)) Via.refl F_o_subcomponent ?_
          refine WP.icmp_ne (pc1 := 72) (pc2 := 68) d_prog_43_method_5_65 (by decide) (by decide) rfl ?_ ?_
          · intro hc65
            refine WP.iconst (pc' := 73) d_prog_43_method_5_72 rfl (z := 0) rfl ?_
            refine WP.nret (t := .boolean) d_prog_43_method_5_73 rfl (by simp) rfl (by decide) (by decide) ⟨Or.inr ⟨rfl, fun z => z.2.2.2.elim hc54 hc65⟩, rfl⟩
          · intro hc65
            refine WP.iconst (pc' := 69) d_prog_43_method_5_68 rfl (z := 1) rfl ?_
            refine WP.goto (pc' := 73) d_prog_43_method_5_69 (by decide) (by decide) ?_
            refine WP.nret (t := .boolean) d_prog_43_method_5_73 rfl (by simp) rfl (by decide) (by decide) ⟨Or.inl ⟨rfl, q, Or.inl hc18, Or.inl hc36, Or.inr hc65⟩, rfl⟩
      · intro hc36
        refine WP.aloadN (pc' := 40) d_prog_43_method_5_39 rfl rfl rfl ?_
        refine WP.getF (pc' := 43) d_prog_43_method_5_40 rfl (host := "") (Or.inl (wd46 hw)) Via.refl F_a_component ?_
        refine WP.aloadN (pc' := 44) d_prog_43_method_5_43 rfl rfl rfl ?_
        refine WP.getF (pc' := 47) d_prog_43_method_5_44 rfl (host := "") (Or.inl (wd46 hw)) Via.refl F_o_component ?_
        refine WP.icmp_ne (pc1 := 72) (pc2 := 50) d_prog_43_method_5_47 (by decide) (by decide) rfl ?_ ?_
        · intro hc47
          refine WP.iconst (pc' := 73) d_prog_43_method_5_72 rfl (z := 0) rfl ?_
          refine WP.nret (t := .boolean) d_prog_43_method_5_73 rfl (by simp) rfl (by decide) (by decide) ⟨Or.inr ⟨rfl, fun z => z.2.2.1.elim hc36 hc47⟩, rfl⟩
        · intro hc47
          refine WP.aloadN (pc' := 51) d_prog_43_method_5_50 rfl rfl rfl ?_
          refine WP.getF (pc' := 54) d_prog_43_method_5_51 rfl (host := "") (Or.inl (wd48 hw)) Via.refl F_o_subcomponent ?_
          refine WP.ifc_eq (pc1 := 68) (pc2 := 57) d_prog_43_method_5_54 (by decide) (by decide) rfl ?_ ?_
          · intro hc54
            refine WP.iconst (pc' := 69) d_prog_43_method_5_68 rfl (z := 1) rfl ?_
            refine WP.goto (pc' := 73) d_prog_43_method_5_69 (by decide) (by decide) ?_
            refine WP.nret (t := .boolean) d_prog_43_method_5_73 rfl (by simp) rfl (by decide) (by decide) ⟨Or.inl ⟨rfl, q, Or.inl hc18, Or.inr hc47, Or.inl hc54⟩, rfl⟩
          · intro hc54
            refine WP.aloadN (pc' := 58) d_prog_43_method_5_57 rfl rfl rfl ?_
            refine WP.getF (pc' := 61) d_prog_43_method_5_58 rfl (host := "") (Or.inl (wd48 hw)) Via.refl F_a_subcomponent ?_
            refine WP.aloadN (pc' := 62) d_prog_43_method_5_61 rfl rfl rfl ?_
            refine WP.getF (pc' := 65) d_prog_43_method_5_62 rfl (host := "") (Or.inl (wd48 hw)) Via.refl F_o_subcomponent ?_
            refine WP.icmp_ne (pc1 := 72) (pc2 := 68) d_prog_43_method_5_65 (by decide) (by decide) rfl ?_ ?_
            · intro hc65
              refine WP.iconst (pc' := 73) d_prog_43_method_5_72 rfl (z := 0) rfl ?_
              refine WP.nret (t := .boolean) d_prog_43_method_5_73 rfl (by simp) rfl (by decide) (by decide) ⟨Or.inr ⟨rfl, fun z => z.2.2.2.elim hc54 hc65⟩, rfl⟩
            · intro hc65
              refine WP.iconst (pc' := 69) d_prog_43_method_5_68 rfl (z := 1) rfl ?_
              refine WP.goto (pc' := 73) d_prog_43_method_5_69 (by decide) (by decide) ?_
              refine WP.nret (t := .boolean) d_prog_43_method_5_73 rfl (by simp) rfl (by decide) (by decide) ⟨Or.inl ⟨rfl, q, Or.inl hc18, Or.inr hc47, Or.inr hc65⟩, rfl⟩
    · intro hc18
      refine WP.aloadN (pc' := 22) d_prog_43_method_5_21 rfl rfl rfl ?_
      refine WP.getF (pc' := 25) d_prog_43_method_5_22 rfl (host := "") (Or.inl (wd44 hw)) Via.refl F_a_field ?_
      refine WP.aloadN (pc' := 26) d_prog_43_method_5_25 rfl rfl rfl ?_
      refine WP.getF (pc' := 29) d_prog_43_method_5_26 rfl (host := "") (Or.inl (wd44 hw)) Via.refl F_o_field ?_
      refine WP.icmp_ne (pc1 := 72) (pc2 := 32) d_prog_43_method_5_29 (by decide) (by decide) rfl ?_ ?_
      · intro hc29
        refine WP.iconst (pc' := 73) d_prog_43_method_5_72 rfl (z := 0) rfl ?_
        refine WP.nret (t := .boolean) d_prog_43_method_5_73 rfl (by simp) rfl (by decide) (by decide) ⟨Or.inr ⟨rfl, fun z => z.2.1.elim hc18 hc29⟩, rfl⟩
      · intro hc29
        refine WP.aloadN (pc' := 33) d_prog_43_method_5_32 rfl rfl rfl ?_
        refine WP.getF (pc' := 36) d_prog_43_method_5_33 rfl (host := "") (Or.inl (wd46 hw)) Via.refl F_o_component ?_
        refine WP.ifc_eq (pc1 := 50) (pc2 := 39) d_prog_43_method_5_36 (by decide) (by decide) rfl ?_ ?_
        · intro hc36
          refine WP.aloadN (pc' := 51) d_prog_43_method_5_50 rfl rfl rfl ?_
          refine WP.getF (pc' := 54) d_prog_43_method_5_51 rfl (host := "") (Or.inl (wd48 hw)) Via.refl F_o_subcomponent ?_
          refine WP.ifc_eq (pc1 := 68) (pc2 := 57) d_prog_43_method_5_54 (by decide) (by decide) rfl ?_ ?_
          · intro hc54
            refine WP.iconst (pc' := 69) d_prog_43_method_5_68 rfl (z := 1) rfl ?_
            refine WP.goto (pc' := 73) d_prog_43_method_5_69 (by decide) (by decide) ?_
            refine WP.nret (t := .boolean) d_prog_43_method_5_73 rfl (by simp) rfl (by decide) (by decide) ⟨Or.inl ⟨rfl, q, Or.inr hc29, Or.inl hc36, Or.inl hc54⟩, rfl⟩
          · intro hc54
            refine WP.aloadN (pc' := 58) d_prog_43_method_5_57 rfl rfl rfl ?_
            refine WP.getF (pc' := 61) d_prog_43_method_5_58 rfl (host := "") (Or.inl (wd48 hw)) Via.refl F_a_subcomponent ?_
            refine WP.aloadN (pc' := 62) d_prog_43_method_5_61 rfl rfl rfl ?_
            refine WP.getF (pc' := 65) d_prog_43_method_5_62 rfl (host := "") (Or.inl (wd48 hw)) Via.refl F_o_subcomponent ?_
            refine WP.icmp_ne (pc1 := 72) (pc2 := 68) d_prog_43_method_5_65 (by decide) (by decide) rfl ?_ ?_
            · intro hc65
              refine WP.iconst (pc' := 73) d_prog_43_method_5_72 rfl (z := 0) rfl ?_
              refine WP.nret (t := .boolean) d_prog_43_method_5_73 rfl (by simp) rfl (by decide) (by decide) ⟨Or.inr ⟨rfl, fun z => z.2.2.2.elim hc54 hc65⟩, rfl⟩
            · intro hc65
              refine WP.iconst (pc' := 69) d_prog_43_method_5_68 rfl (z := 1) rfl ?_
              refine WP.goto (pc' := 73) d_prog_43_method_5_69 (by decide) (by decide) ?_
              refine WP.nret (t := .boolean) d_prog_43_method_5_73 rfl (by simp) rfl (by decide) (by decide) ⟨Or.inl ⟨rfl, q, Or.inr hc29, Or.inl hc36, Or.inr hc65⟩, rfl⟩
        · intro hc36
          refine WP.aloadN (pc' := 40) d_prog_43_method_5_39 rfl rfl rfl ?_
          refine WP.getF (pc' := 43) d_prog_43_method_5_40 rfl (host := "") (Or.inl (wd46 hw)) Via.refl F_a_component ?_
          refine WP.aloadN (pc' := 44) d_prog_43_method_5_43 rfl rfl rfl ?_
          refine WP.getF (pc' := 47) d_prog_43_method_5_44 rfl (host := "") (Or.inl (wd46 hw)) Via.refl F_o_component ?_
          refine WP.icmp_ne (pc1 := 72) (pc2 := 50) d_prog_43_method_5_47 (by decide) (by decide) rfl ?_ ?_
          · intro hc47
            refine WP.iconst (pc' := 73) d_prog_43_method_5_72 rfl (z := 0) rfl ?_
            refine WP.nret (t := .boolean) d_prog_43_method_5_73 rfl (by simp) rfl (by decide) (by decide) ⟨Or.inr ⟨rfl, fun z => z.2.2.1.elim hc36 hc47⟩, rfl⟩
          · intro hc47
            refine WP.aloadN (pc' := 51) d_prog_43_method_5_50 rfl rfl rfl ?_
            refine WP.getF (pc' := 54) d_prog_43_method_5_51 rfl (host := "") (Or.inl (wd48 hw)) Via.refl F_o_subcomponent ?_
            refine WP.ifc_eq (pc1 := 68) (pc2 := 57) d_prog_43_method_5_54 (by decide) (by decide) rfl ?_ ?_
            · intro hc54
              refine WP.iconst (pc' := 69) d_prog_43_method_5_68 rfl (z := 1) rfl ?_
              refine WP.goto (pc' := 73) d_prog_43_method_5_69 (by decide) (by decide) ?_
              refine WP.nret (t := .boolean) d_prog_43_method_5_73 rfl (by simp) rfl (by decide) (by decide) ⟨Or.inl ⟨rfl, q, Or.inr hc29, Or.inr hc47, Or.inl hc54⟩, rfl⟩
            · intro hc54
              refine WP.aloadN (pc' := 58) d_prog_43_method_5_57 rfl rfl rfl ?_
              refine WP.getF (pc' := 61) d_prog_43_method_5_58 rfl (host := "") (Or.inl (wd48 hw)) Via.refl F_a_subcomponent ?_
              refine WP.aloadN (pc' := 62) d_prog_43_method_5_61 rfl rfl rfl ?_
              refine WP.getF (pc' := 65) d_prog_43_method_5_62 rfl (host := "") (Or.inl (wd48 hw)) Via.refl F_o_subcomponent ?_
              refine WP.icmp_ne (pc1 := 72) (pc2 := 68) d_prog_43_method_5_65 (by decide) (by decide) rfl ?_ ?_
              · intro hc65
                refine WP.iconst (pc' := 73) d_prog_43_method_5_72 rfl (z := 0) rfl ?_
                refine WP.nret (t := .boolean) d_prog_43_method_5_73 rfl (by simp) rfl (by decide) (by decide) ⟨Or.inr ⟨rfl, fun z => z.2.2.2.elim hc54 hc65⟩, rfl⟩
              · intro hc65
                refine WP.iconst (pc' := 69) d_prog_43_method_5_68 rfl (z := 1) rfl ?_
                refine WP.goto (pc' := 73) d_prog_43_method_5_69 (by decide) (by decide) ?_
                refine WP.nret (t := .boolean) d_prog_43_method_5_73 rfl (by simp) rfl (by decide) (by decide) ⟨Or.inl ⟨rfl, q, Or.inr hc29, Or.inr hc47, Or.inr hc65⟩, rfl⟩
  · skip
    refine WP.castS (st' := [(.int (0 : Int32))]) rfl ?_
    have hc11 : (0 : Int32) = (0 : Int32) := by decide
    refine WP.ifc_eq (pc1 := 72) (pc2 := 14) d_prog_43_method_5_11 (by decide) (by decide) rfl (fun _ => ?_) (fun k => absurd hc11 k)
    refine WP.iconst (pc' := 73) d_prog_43_method_5_72 rfl (z := 0) rfl ?_
    refine WP.nret (t := .boolean) d_prog_43_method_5_73 rfl (by simp) rfl (by decide) (by decide) ⟨Or.inr ⟨rfl, fun z => q z.1⟩, rfl⟩
theorem wd0 {Z : State} {a0 : Array Value} (hw : ∀ d ∈ tables_1, d.before a0 Z = true) : (Jvm.Cond.arrayClass Jvm.ClassFile.FieldType.char).before a0 Z = true := hw _ (List.mem_of_getElem? (i := 0) rfl)
theorem wd1 {Z : State} {a0 : Array Value} (hw : ∀ d ∈ tables_1, d.before a0 Z = true) : (Jvm.Cond.classLink "com/example/labwire/labwire/check/FieldPathWithinPinLaw" (7 : Nat) "com/example/labwire/labwire/check/FieldPath").before a0 Z = true := hw _ (List.mem_of_getElem? (i := 1) rfl)
theorem wd3 {Z : State} {a0 : Array Value} (hw : ∀ d ∈ tables_1, d.before a0 Z = true) : (Jvm.Cond.initialized "com/example/labwire/labwire/check/FieldPath").before a0 Z = true := hw _ (List.mem_of_getElem? (i := 3) rfl)
theorem wd4 {Z : State} {a0 : Array Value} (hw : ∀ d ∈ tables_1, d.before a0 Z = true) : (Jvm.Cond.classLink "com/example/labwire/labwire/check/FieldPathWithinPinLaw" (9 : Nat) "java/lang/String").before a0 Z = true := hw _ (List.mem_of_getElem? (i := 4) rfl)
theorem wd7 {Z : State} {a0 : Array Value} (hw : ∀ d ∈ tables_1, d.before a0 Z = true) : (Jvm.Cond.methodLink "com/example/labwire/labwire/check/FieldPathWithinPinLaw" (11 : Nat) ({ cls := "java/lang/String", name := "<init>", desc := "([C)V" } : Jvm.MethodName)).before a0 Z = true := hw _ (List.mem_of_getElem? (i := 7) rfl)
theorem wd9 {Z : State} {a0 : Array Value} (hw : ∀ d ∈ tables_1, d.before a0 Z = true) : (Jvm.Cond.code ({ cls := "java/lang/String", name := "<init>", desc := "([C)V" } : Jvm.MethodName) jdk_42_method_3_code (2 : Nat) (Option.none : Option Jvm.ClassFile.FieldType)).before a0 Z = true := hw _ (List.mem_of_getElem? (i := 9) rfl)
theorem pd_7 : parseMethodDescriptor "([C)V" = some ⟨[(.array .char)], none⟩ := by decide +kernel
theorem wd8 {Z : State} {a0 : Array Value} (hw : ∀ d ∈ tables_1, d.before a0 Z = true) : (Jvm.Cond.instanceMethod ({ cls := "java/lang/String", name := "<init>", desc := "([C)V" } : Jvm.MethodName)).before a0 Z = true := hw _ (List.mem_of_getElem? (i := 8) rfl)
theorem wd33 {Z : State} {a0 : Array Value} (hw : ∀ d ∈ tables_1, d.before a0 Z = true) : (Jvm.Cond.methodLink "com/example/labwire/labwire/check/FieldPathWithinPinLaw" (14 : Nat) ({ cls := "com/example/labwire/labwire/check/FieldPath", name := "<init>", desc := "(Ljava/lang/String;III)V" } : Jvm.MethodName)).before a0 Z = true := hw _ (List.mem_of_getElem? (i := 33) rfl)
theorem wd35 {Z : State} {a0 : Array Value} (hw : ∀ d ∈ tables_1, d.before a0 Z = true) : (Jvm.Cond.code ({ cls := "com/example/labwire/labwire/check/FieldPath", name := "<init>", desc := "(Ljava/lang/String;III)V" } : Jvm.MethodName) prog_43_method_1_code (5 : Nat) (Option.none : Option Jvm.ClassFile.FieldType)).before a0 Z = true := hw _ (List.mem_of_getElem? (i := 35) rfl)
theorem pd_8 : parseMethodDescriptor "(Ljava/lang/String;III)V" = some ⟨[(.object "java/lang/String"), .int, .int, .int], none⟩ := by decide +kernel
theorem wd34 {Z : State} {a0 : Array Value} (hw : ∀ d ∈ tables_1, d.before a0 Z = true) : (Jvm.Cond.instanceMethod ({ cls := "com/example/labwire/labwire/check/FieldPath", name := "<init>", desc := "(Ljava/lang/String;III)V" } : Jvm.MethodName)).before a0 Z = true := hw _ (List.mem_of_getElem? (i := 34) rfl)
theorem wd50 {Z : State} {a0 : Array Value} (hw : ∀ d ∈ tables_1, d.before a0 Z = true) : (Jvm.Cond.methodLink "com/example/labwire/labwire/check/FieldPathWithinPinLaw" (17 : Nat) ({ cls := "com/example/labwire/labwire/check/FieldPathWithinPinLaw", name := "outerValue", desc := "(III)I" } : Jvm.MethodName)).before a0 Z = true := hw _ (List.mem_of_getElem? (i := 50) rfl)
theorem wd53 {Z : State} {a0 : Array Value} (hw : ∀ d ∈ tables_1, d.before a0 Z = true) : (Jvm.Cond.code ({ cls := "com/example/labwire/labwire/check/FieldPathWithinPinLaw", name := "outerValue", desc := "(III)I" } : Jvm.MethodName) method_2_code (3 : Nat) (Option.some Jvm.ClassFile.FieldType.int)).before a0 Z = true := hw _ (List.mem_of_getElem? (i := 53) rfl)
theorem wd52 {Z : State} {a0 : Array Value} (hw : ∀ d ∈ tables_1, d.before a0 Z = true) : (Jvm.Cond.initialized "com/example/labwire/labwire/check/FieldPathWithinPinLaw").before a0 Z = true := hw _ (List.mem_of_getElem? (i := 52) rfl)
theorem pd_9 : parseMethodDescriptor "(III)I" = some ⟨[.int, .int, .int], some .int⟩ := by decide +kernel
theorem wd51 {Z : State} {a0 : Array Value} (hw : ∀ d ∈ tables_1, d.before a0 Z = true) : (Jvm.Cond.static ({ cls := "com/example/labwire/labwire/check/FieldPathWithinPinLaw", name := "outerValue", desc := "(III)I" } : Jvm.MethodName)).before a0 Z = true := hw _ (List.mem_of_getElem? (i := 51) rfl)
theorem wd54 {Z : State} {a0 : Array Value} (hw : ∀ d ∈ tables_1, d.before a0 Z = true) : (Jvm.Cond.methodLink "com/example/labwire/labwire/check/FieldPathWithinPinLaw" (23 : Nat) ({ cls := "com/example/labwire/labwire/check/FieldPathWithinPinLaw", name := "fine", desc := "(III)Z" } : Jvm.MethodName)).before a0 Z = true := hw _ (List.mem_of_getElem? (i := 54) rfl)
theorem wd56 {Z : State} {a0 : Array Value} (hw : ∀ d ∈ tables_1, d.before a0 Z = true) : (Jvm.Cond.code ({ cls := "com/example/labwire/labwire/check/FieldPathWithinPinLaw", name := "fine", desc := "(III)Z" } : Jvm.MethodName) method_3_code (3 : Nat) (Option.some Jvm.ClassFile.FieldType.boolean)).before a0 Z = true := hw _ (List.mem_of_getElem? (i := 56) rfl)
theorem pd_10 : parseMethodDescriptor "(III)Z" = some ⟨[.int, .int, .int], some .boolean⟩ := by decide +kernel
theorem wd55 {Z : State} {a0 : Array Value} (hw : ∀ d ∈ tables_1, d.before a0 Z = true) : (Jvm.Cond.static ({ cls := "com/example/labwire/labwire/check/FieldPathWithinPinLaw", name := "fine", desc := "(III)Z" } : Jvm.MethodName)).before a0 Z = true := hw _ (List.mem_of_getElem? (i := 55) rfl)
theorem wd57 {Z : State} {a0 : Array Value} (hw : ∀ d ∈ tables_1, d.before a0 Z = true) : (Jvm.Cond.methodLink "com/example/labwire/labwire/check/FieldPathWithinPinLaw" (27 : Nat) ({ cls := "com/example/labwire/labwire/check/FieldPath", name := "within", desc := "(Lcom/example/labwire/labwire/check/FieldPath;)Z" } : Jvm.MethodName)).before a0 Z = true := hw _ (List.mem_of_getElem? (i := 57) rfl)
theorem wd61 {Z : State} {a0 : Array Value} (hw : ∀ d ∈ tables_1, d.before a0 Z = true) : (Jvm.Cond.code ({ cls := "com/example/labwire/labwire/check/FieldPath", name := "within", desc := "(Lcom/example/labwire/labwire/check/FieldPath;)Z" } : Jvm.MethodName) prog_43_method_5_code (2 : Nat) (Option.some Jvm.ClassFile.FieldType.boolean)).before a0 Z = true := hw _ (List.mem_of_getElem? (i := 61) rfl)
theorem pd_11 : parseMethodDescriptor "(Lcom/example/labwire/labwire/check/FieldPath;)Z" = some ⟨[(.object "com/example/labwire/labwire/check/FieldPath")], some .boolean⟩ := by decide +kernel
theorem wd60 {Z : State} {a0 : Array Value} (hw : ∀ d ∈ tables_1, d.before a0 Z = true) : (Jvm.Cond.selects "com/example/labwire/labwire/check/FieldPath" ({ cls := "com/example/labwire/labwire/check/FieldPath", name := "within", desc := "(Lcom/example/labwire/labwire/check/FieldPath;)Z" } : Jvm.MethodName) ({ cls := "com/example/labwire/labwire/check/FieldPath", name := "within", desc := "(Lcom/example/labwire/labwire/check/FieldPath;)Z" } : Jvm.MethodName)).before a0 Z = true := hw _ (List.mem_of_getElem? (i := 60) rfl)
theorem wd58 {Z : State} {a0 : Array Value} (hw : ∀ d ∈ tables_1, d.before a0 Z = true) : (Jvm.Cond.declares ({ cls := "com/example/labwire/labwire/check/FieldPath", name := "within", desc := "(Lcom/example/labwire/labwire/check/FieldPath;)Z" } : Jvm.MethodName)).before a0 Z = true := hw _ (List.mem_of_getElem? (i := 58) rfl)
theorem wd59 {Z : State} {a0 : Array Value} (hw : ∀ d ∈ tables_1, d.before a0 Z = true) : (Jvm.Cond.instanceMethod ({ cls := "com/example/labwire/labwire/check/FieldPath", name := "within", desc := "(Lcom/example/labwire/labwire/check/FieldPath;)Z" } : Jvm.MethodName)).before a0 Z = true := hw _ (List.mem_of_getElem? (i := 59) rfl)
set_option maxRecDepth 65536 in
set_option maxHeartbeats 40000000 in
theorem rm0 {Z : State} {a0 : Array Value} (hw : ∀ d ∈ tables_1, d.before a0 Z = true) (x0 : Int32) (x1 : Int32) (x2 : Int32) (x3 : Int32) (x4 : Int32) (x5 : Int32) (h0 : Heap) (n0 : Nat) (Z0 : n0 ≤ h0.size) (O0 : Old Z n0 h0) (cs : Int32) (S_CS : Sta Z Z.heap "java/lang/String" "COMPACT_STRINGS" "Z" (.int cs)) (hcs : ¬ cs = 0) : ∀ l, Does l Z x code maxLocals ret room_1 n0 #[(.int x0), (.int x1), (.int x2), (.int x3), (.int x4), (.int x5)] h0 (fun v _ => v = some (.int 1)) := by
  intro l
  refine Does.of_wp (plainFor_of_name pn_5) (Ls := #[.val (.int x0), .val (.int x1), .val (.int x2), .val (.int x3), .val (.int x4), .val (.int x5), .unset, .unset, .unset, .unset, .unset, .unset, .unset, .unset, .unset, .unset, .unset, .unset, .unset, .unset]) (fun m => by first | (simp [entryFrame, mkF, argsToLocals, Value.category, maxLocals]; done) | rfl) ?_
  intro C
  refine WP.iconst (pc' := 1) at_0 rfl (z := 3) rfl ?_
  refine WP.newPI (ty := .char) (n := 3) (cap := 3) (cl' := 1) (sl' := 3) (pc' := 3) at_1 rfl rfl rfl (wd0 hw) (by decide) (by decide) (by decide) rfl rfl (by decide) (by decide) ?_
  intro h1 b1 g1 E1 A1
  have ge2 : n0 ≤ b1 := by rw [g1]; exact Z0
  have O3 := O0.ext E1
  have Z4 : n0 ≤ h1.size := Nat.le_trans Z0 E1.1
  refine WP.astore (pc' := 5) at_3 rfl rfl (Ls' := #[.val (.int x0), .val (.int x1), .val (.int x2), .val (.int x3), .val (.int x4), .val (.int x5), .val (.ref b1), .unset, .unset, .unset, .unset, .unset, .unset, .unset, .unset, .unset, .unset, .unset, .unset, .unset]) rfl ?_
  refine WP.aload (pc' := 7) at_5 rfl rfl rfl ?_
  refine WP.iconst (pc' := 8) at_7 rfl (z := 0) rfl ?_
  refine WP.iloadN (pc' := 9) at_8 rfl rfl ?_
  refine WP.sipush (pc' := 12) at_9 rfl (z := 255) rfl ?_
  refine WP.iand (pc' := 13) at_12 rfl ?_
  refine WP.i2c (pc' := 14) at_13 rfl ?_
  have l0 := (latV x0).2
  refine WP.castoreI (x' := (x0 &&& 255)) (0) (pc' := 15) at_14 rfl A1 (by decide) (by decide) ge2 (latV x0).1 ?_
  intro h5 K6 A7
  have O8 := O3.keep K6 (allS ge2 all0)
  have Z9 : n0 ≤ h5.size := Nat.le_trans Z4 K6.1
  refine WP.aload (pc' := 17) at_15 rfl rfl rfl ?_
  refine WP.iconst (pc' := 18) at_17 rfl (z := 1) rfl ?_
  refine WP.iloadN (pc' := 19) at_18 rfl rfl ?_
  refine WP.bipush (pc' := 21) at_19 rfl (z := 8) rfl ?_
  refine WP.iushr (pc' := 22) at_21 rfl ?_
  refine WP.sipush (pc' := 25) at_22 rfl (z := 255) rfl ?_
  refine WP.iand (pc' := 26) at_25 rfl ?_
  refine WP.i2c (pc' := 27) at_26 rfl ?_
  have l1 := (latV ((x0.toUInt32 >>> ((8 : Int32) &&& 31).toUInt32).toInt32)).2
  refine WP.castoreI (x' := (((x0.toUInt32 >>> ((8 : Int32) &&& 31).toUInt32).toInt32) &&& 255)) (1) (pc' := 28) at_27 rfl A7 (by decide) (by decide) ge2 (latV ((x0.toUInt32 >>> ((8 : Int32) &&& 31).toUInt32).toInt32)).1 ?_
  intro h10 K11 A12
  have O13 := O8.keep K11 (allS ge2 all0)
  have Z14 : n0 ≤ h10.size := Nat.le_trans Z9 K11.1
  refine WP.aload (pc' := 30) at_28 rfl rfl rfl ?_
  refine WP.iconst (pc' := 31) at_30 rfl (z := 2) rfl ?_
  refine WP.iloadN (pc' := 32) at_31 rfl rfl ?_
  refine WP.bipush (pc' := 34) at_32 rfl (z := 16) rfl ?_
  refine WP.iushr (pc' := 35) at_34 rfl ?_
  refine WP.sipush (pc' := 38) at_35 rfl (z := 255) rfl ?_
  refine WP.iand (pc' := 39) at_38 rfl ?_
  refine WP.i2c (pc' := 40) at_39 rfl ?_
  have l2 := (latV ((x0.toUInt32 >>> ((16 : Int32) &&& 31).toUInt32).toInt32)).2
  refine WP.castoreI (x' := (((x0.toUInt32 >>> ((16 : Int32) &&& 31).toUInt32).toInt32) &&& 255)) (2) (pc' := 41) at_40 rfl A12 (by decide) (by decide) ge2 (latV ((x0.toUInt32 >>> ((16 : Int32) &&& 31).toUInt32).toInt32)).1 ?_
  intro h15 K16 A17
  have O18 := O13.keep K16 (allS ge2 all0)
  have Z19 : n0 ≤ h15.size := Nat.le_trans Z14 K16.1
  obtain ⟨gi, hgi⟩ : ∃ g, g = (updI (updI (updI (fun _ => 0) 0 (x0 &&& 255)) 1 (((x0.toUInt32 >>> ((8 : Int32) &&& 31).toUInt32).toInt32) &&& 255)) 2 (((x0.toUInt32 >>> ((16 : Int32) &&& 31).toUInt32).toInt32) &&& 255)) := ⟨_, rfl⟩
  rw [← hgi] at A17
  have lat6 : Lat 3 gi := by rw [hgi]; exact lat_upd (lat_upd (lat_upd lat0 l0) l1) l2
  refine WP.iload (pc' := 43) at_41 rfl rfl ?_
  refine WP.bipush (pc' := 45) at_43 rfl (z := 6) rfl ?_
  refine WP.iushr (pc' := 46) at_45 rfl ?_
  refine WP.iconst (pc' := 47) at_46 rfl (z := 3) rfl ?_
  refine WP.iand (pc' := 48) at_47 rfl ?_
  generalize ht20 : (((x4.toUInt32 >>> ((6 : Int32) &&& 31).toUInt32).toInt32) &&& (3 : Int32)) = t20
  refine WP.istore (pc' := 50) at_48 rfl (Ls' := #[.val (.int x0), .val (.int x1), .val (.int x2), .val (.int x3), .val (.int x4), .val (.int x5), .val (.ref b1), .val (.int t20), .unset, .unset, .unset, .unset, .unset, .unset, .unset, .unset, .unset, .unset, .unset, .unset]) rfl ?_
  refine WP.iloadN (pc' := 51) at_50 rfl rfl ?_
  refine WP.bipush (pc' := 53) at_51 rfl (z := 24) rfl ?_
  refine WP.iushr (pc' := 54) at_53 rfl ?_
  refine WP.sipush (pc' := 57) at_54 rfl (z := 255) rfl ?_
  refine WP.iand (pc' := 58) at_57 rfl ?_
  refine WP.iconst (pc' := 59) at_58 rfl (z := 3) rfl ?_
  refine WP.irem (pc' := 60) at_59 rfl (by decide) ?_
  generalize ht21 : ((((x0.toUInt32 >>> ((24 : Int32) &&& 31).toUInt32).toInt32) &&& (255 : Int32)) % (3 : Int32)) = t21
  refine WP.istore (pc' := 62) at_60 rfl (Ls' := #[.val (.int x0), .val (.int x1), .val (.int x2), .val (.int x3), .val (.int x4), .val (.int x5), .val (.ref b1), .val (.int t20), .val (.int t21), .unset, .unset, .unset, .unset, .unset, .unset, .unset, .unset, .unset, .unset, .unset]) rfl ?_
  refine WP.iload (pc' := 64) at_62 rfl rfl ?_
  refine WP.bipush (pc' := 66) at_64 rfl (z := 8) rfl ?_
  refine WP.iushr (pc' := 67) at_66 rfl ?_
  refine WP.sipush (pc' := 70) at_67 rfl (z := 255) rfl ?_
  refine WP.iand (pc' := 71) at_70 rfl ?_
  generalize ht22 : (((x4.toUInt32 >>> ((8 : Int32) &&& 31).toUInt32).toInt32) &&& (255 : Int32)) = t22
  refine WP.istore (pc' := 73) at_71 rfl (Ls' := #[.val (.int x0), .val (.int x1), .val (.int x2), .val (.int x3), .val (.int x4), .val (.int x5), .val (.ref b1), .val (.int t20), .val (.int t21), .val (.int t22), .unset, .unset, .unset, .unset, .unset, .unset, .unset, .unset, .unset, .unset]) rfl ?_
  have v7 : 0 ≤ t20.toInt ∧ t20.toInt < 4 := by rw [← ht20]; exact and3 _
  have v8 : 0 ≤ t21.toInt ∧ t21.toInt < 3 := by rw [← ht21]; exact rem3 _
  have v9 : 0 ≤ t22.toInt ∧ t22.toInt ≤ 255 := by rw [← ht22]; exact and255 _
  have L164 : ∀ (hh : Heap) (b10 : Addr) (z8 z9 : Int32) (n' : Nat) (g' : Nat → Int32), Old Z n0 hh → n0 ≤ hh.size → Ari Z hh b1 .char 3 gi → Ari Z hh b10 .char n' g' → n0 ≤ b10 → b1 ≠ b10 → 1 ≤ n' → n' ≤ 3 → Lat n' g' → ((t20 < 2 ∧ Same 3 n' gi g') ∨ (¬ t20 < 2 ∧ ¬ Same 3 n' gi g')) → WP C Z code maxLocals "com/example/labwire/labwire/check/FieldPathWithinPinLaw" ret "law" room_1 n0 (fun v _ => v = some (.int 1)) 2 6 hh 164 #[.val (.int x0), .val (.int x1), .val (.int x2), .val (.int x3), .val (.int x4), .val (.int x5), .val (.ref b1), .val (.int t20), .val (.int z8), .val (.int z9), .val (.ref b10), .unset, .unset, .unset, .unset, .unset, .unset, .unset, .unset, .unset] [] := by
    intro hh b10 z8 z9 n' g' O1 Z1 A6 A10 ge10 ne10 hn1 hn3 lat10 hsm
    refine WP.iload (pc' := 166) at_164 rfl rfl ?_
    refine WP.iconst (pc' := 167) at_166 rfl (z := 3) rfl ?_
    refine WP.iand (pc' := 168) at_167 rfl ?_
    generalize ht23 : (x4 &&& (3 : Int32)) = t23
    refine WP.istore (pc' := 170) at_168 rfl (Ls' := #[.val (.int x0), .val (.int x1), .val (.int x2), .val (.int x3), .val (.int x4), .val (.int x5), .val (.ref b1), .val (.int t20), .val (.int z8), .val (.int z9), .val (.ref b10), .val (.int t23), .unset, .unset, .unset, .unset, .unset, .unset, .unset, .unset]) rfl ?_
    refine WP.iload (pc' := 172) at_170 rfl rfl ?_
    refine WP.iconst (pc' := 173) at_172 rfl (z := 2) rfl ?_
    refine WP.iushr (pc' := 174) at_173 rfl ?_
    refine WP.iconst (pc' := 175) at_174 rfl (z := 3) rfl ?_
    refine WP.iand (pc' := 176) at_175 rfl ?_
    generalize ht24 : (((x4.toUInt32 >>> ((2 : Int32) &&& 31).toUInt32).toInt32) &&& (3 : Int32)) = t24
    refine WP.istore (pc' := 178) at_176 rfl (Ls' := #[.val (.int x0), .val (.int x1), .val (.int x2), .val (.int x3), .val (.int x4), .val (.int x5), .val (.ref b1), .val (.int t20), .val (.int z8), .val (.int z9), .val (.ref b10), .val (.int t23), .val (.int t24), .unset, .unset, .unset, .unset, .unset, .unset, .unset]) rfl ?_
    refine WP.iload (pc' := 180) at_178 rfl rfl ?_
    refine WP.iconst (pc' := 181) at_180 rfl (z := 4) rfl ?_
    refine WP.iushr (pc' := 182) at_181 rfl ?_
    refine WP.iconst (pc' := 183) at_182 rfl (z := 3) rfl ?_
    refine WP.iand (pc' := 184) at_183 rfl ?_
    generalize ht25 : (((x4.toUInt32 >>> ((4 : Int32) &&& 31).toUInt32).toInt32) &&& (3 : Int32)) = t25
    refine WP.istore (pc' := 186) at_184 rfl (Ls' := #[.val (.int x0), .val (.int x1), .val (.int x2), .val (.int x3), .val (.int x4), .val (.int x5), .val (.ref b1), .val (.int t20), .val (.int z8), .val (.int z9), .val (.ref b10), .val (.int t23), .val (.int t24), .val (.int t25), .unset, .unset, .unset, .unset, .unset, .unset]) rfl ?_
    refine WP.iload (pc' := 188) at_186 rfl rfl ?_
    refine WP.iconst (pc' := 189) at_188 rfl (z := 1) rfl ?_
    refine WP.ior (pc' := 190) at_189 rfl ?_
    generalize ht26 : (x5 ||| (1 : Int32)) = t26
    refine WP.istore (pc' := 192) at_190 rfl (Ls' := #[.val (.int x0), .val (.int x1), .val (.int x2), .val (.int x3), .val (.int x4), .val (.int x5), .val (.ref b1), .val (.int t20), .val (.int z8), .val (.int z9), .val (.ref b10), .val (.int t23), .val (.int t24), .val (.int t25), .val (.int t26), .unset, .unset, .unset, .unset, .unset]) rfl ?_
    refine WP.iload (pc' := 194) at_192 rfl rfl ?_
    refine WP.iconst (pc' := 195) at_194 rfl (z := 3) rfl ?_
    refine WP.imul (pc' := 196) at_195 rfl ?_
    refine WP.iconst (pc' := 197) at_196 rfl (z := 1) rfl ?_
    refine WP.ior (pc' := 198) at_197 rfl ?_
    generalize ht27 : ((x5 * (3 : Int32)) ||| (1 : Int32)) = t27
    refine WP.istore (pc' := 200) at_198 rfl (Ls' := #[.val (.int x0), .val (.int x1), .val (.int x2), .val (.int x3), .val (.int x4), .val (.int x5), .val (.ref b1), .val (.int t20), .val (.int z8), .val (.int z9), .val (.ref b10), .val (.int t23), .val (.int t24), .val (.int t25), .val (.int t26), .val (.int t27), .unset, .unset, .unset, .unset]) rfl ?_
    refine WP.iload (pc' := 202) at_200 rfl rfl ?_
    refine WP.iconst (pc' := 203) at_202 rfl (z := 5) rfl ?_
    refine WP.imul (pc' := 204) at_203 rfl ?_
    refine WP.iconst (pc' := 205) at_204 rfl (z := 1) rfl ?_
    refine WP.ior (pc' := 206) at_205 rfl ?_
    generalize ht28 : ((x5 * (5 : Int32)) ||| (1 : Int32)) = t28
    refine WP.istore (pc' := 208) at_206 rfl (Ls' := #[.val (.int x0), .val (.int x1), .val (.int x2), .val (.int x3), .val (.int x4), .val (.int x5), .val (.ref b1), .val (.int t20), .val (.int z8), .val (.int z9), .val (.ref b10), .val (.int t23), .val (.int t24), .val (.int t25), .val (.int t26), .val (.int t27), .val (.int t28), .unset, .unset, .unset]) rfl ?_
    refine WP.newO (cl' := 3) (sl' := 10) (pc' := 211) at_208 rfl (wd1 hw) (wd2 hw) (wd3 hw) rfl rfl (by decide) (by decide) ?_
    intro h29 b29 g29 E29 A29 D29
    have ge30 : n0 ≤ b29 := by rw [g29]; exact Z1
    have ne31 : b1 ≠ b29 := by rw [g29]; exact Nat.ne_of_lt A6.lt
    have ne32 : b10 ≠ b29 := by rw [g29]; exact Nat.ne_of_lt A10.lt
    have V33 := A6.ext E29
    have V34 := A10.ext E29
    have O35 := O1.ext E29
    have Z36 : n0 ≤ h29.size := Nat.le_trans Z1 E29.1
    have F37 : Fld Z h29 b29 "com/example/labwire/labwire/check/FieldPath" "segment" "Ljava/lang/String;" .null := D29 (Or.inr (wd43 hw)) (ty := (.object "java/lang/String")) (by decide)
    have F38 : Fld Z h29 b29 "com/example/labwire/labwire/check/FieldPath" "field" "I" (.int (0 : Int32)) := D29 (Or.inr (wd45 hw)) (ty := .int) (by decide)
    have F39 : Fld Z h29 b29 "com/example/labwire/labwire/check/FieldPath" "component" "I" (.int (0 : Int32)) := D29 (Or.inr (wd47 hw)) (ty := .int) (by decide)
    have F40 : Fld Z h29 b29 "com/example/labwire/labwire/check/FieldPath" "subcomponent" "I" (.int (0 : Int32)) := D29 (Or.inr (wd49 hw)) (ty := .int) (by decide)
    refine WP.dup (pc' := 212) at_211 rfl rfl ?_
    refine WP.newO (cl' := 4) (sl' := 14) (pc' := 215) at_212 rfl (wd4 hw) (wd5 hw) (wd6 hw) rfl rfl (by decide) (by decide) ?_
    intro h41 b41 g41 E41 A41 D41
    have ge42 : n0 ≤ b41 := by rw [g41]; exact Z36
    have ne43 : b1 ≠ b41 := by rw [g41]; exact Nat.ne_of_lt V33.lt
    have ne44 : b10 ≠ b41 := by rw [g41]; exact Nat.ne_of_lt V34.lt
    have ne45 : b29 ≠ b41 := by rw [g41]; exact Nat.ne_of_lt A29.lt
    have V46 := V33.ext E41
    have V47 := V34.ext E41
    have E48 := A29.ext E41
    have F49 := F37.ext E41
    have F50 := F38.ext E41
    have F51 := F39.ext E41
    have F52 := F40.ext E41
    have O53 := O35.ext E41
    have Z54 : n0 ≤ h41.size := Nat.le_trans Z36 E41.1
    have F55 : Fld Z h41 b41 "java/lang/String" "coder" "B" (.int (0 : Int32)) := D41 (Or.inr (wd30 hw)) (ty := .byte) (by decide)
    have F56 : Fld Z h41 b41 "java/lang/String" "value" "[B" .null := D41 (Or.inr (wd32 hw)) (ty := (.array .byte)) (by decide)
    refine WP.dup (pc' := 216) at_215 rfl rfl ?_
    refine WP.aload (pc' := 218) at_216 rfl rfl rfl ?_
    refine WP.callI (a := b41) (argsL := [(.ref b1)]) (rest := [(.ref b41), (.ref b29), (.ref b29)]) (wd := 3) (cl' := 5) (sl' := 17) (pc' := 221) at_218 rfl rfl (wd7 hw) (wd8 hw) (wd6 hw) (wd9 hw) (by decide) (s_si hw b41 b1 h41 n0 Z54 ge42 A41 F56 F55 cs (S_CS.ext O53.2) hcs 3 gi V46 (by omega) (by omega) (by omega) lat6 ne43) pd_7 rfl rfl rfl (Nat.le_of_eq rfl) (by decide) (by decide) rfl rfl (by decide) (by decide) ?_
    rintro v h57 ⟨rfl, c57, K57, ge57, sz57, E57, Fv57, Fc57, B57⟩
    have ne58 : b1 ≠ c57 := Nat.ne_of_lt (Nat.lt_of_lt_of_le V46.lt sz57)
    have ne59 : b10 ≠ c57 := Nat.ne_of_lt (Nat.lt_of_lt_of_le V47.lt sz57)
    have ne60 : b29 ≠ c57 := Nat.ne_of_lt (Nat.lt_of_lt_of_le E48.lt sz57)
    have ne61 : b41 ≠ c57 := Nat.ne_of_lt (Nat.lt_of_lt_of_le A41.lt sz57)
    have V62 := V46.keep K57 (ninS ne43 nin0)
    have V63 := V47.keep K57 (ninS ne44 nin0)
    have E64 := E48.keep K57
    have F65 := F49.keep K57 (ninS ne45 nin0)
    have F66 := F50.keep K57 (ninS ne45 nin0)
    have F67 := F51.keep K57 (ninS ne45 nin0)
    have F68 := F52.keep K57 (ninS ne45 nin0)
    have E69 := A41.keep K57
    have O70 := O53.keep K57 (allS ge42 all0)
    have Z71 : n0 ≤ h57.size := Nat.le_trans Z54 K57.1
    refine WP.castS (st' := [(.ref b41), (.ref b29), (.ref b29)]) rfl ?_
    refine WP.iloadN (pc' := 222) at_221 rfl rfl ?_
    refine WP.iloadN (pc' := 223) at_222 rfl rfl ?_
    refine WP.iloadN (pc' := 224) at_223 rfl rfl ?_
    refine WP.callI (a := b29) (argsL := [(.ref b41), (.int x1), (.int x2), (.int x3)]) (rest := [(.ref b29)]) (wd := 1) (cl' := 5) (sl' := 17) (pc' := 227) at_224 rfl rfl (wd33 hw) (wd34 hw) (wd3 hw) (wd35 hw) (by decide) (m_fi hw b29 b41 x1 x2 x3 h57 n0 E64 ge30 F65 F66 F67 F68) pd_8 rfl rfl rfl (Nat.le_of_eq rfl) (by decide) (by decide) rfl rfl (by decide) (by decide) ?_
    rintro v h72 ⟨rfl, K72, E72, F72_segment, F72_field, F72_component, F72_subcomponent⟩
    have V73 := V62.keep K72 (ninS ne31 nin0)
    have V74 := V63.keep K72 (ninS ne32 nin0)
    have E75 := E64.keep K72
    have E76 := E57.keep K72
    have F77 := Fv57.keep K72 (ninS (Ne.symm ne45) nin0)
    have F78 := Fc57.keep K72 (ninS (Ne.symm ne45) nin0)
    have V79 := B57.keep K72 (ninS (Ne.symm ne60) nin0)
    have O80 := O70.keep K72 (allS ge30 all0)
    have Z81 : n0 ≤ h72.size := Nat.le_trans Z71 K72.1
    refine WP.castS (st' := [(.ref b29)]) rfl ?_
    refine WP.astore (pc' := 229) at_227 rfl rfl (Ls' := #[.val (.int x0), .val (.int x1), .val (.int x2), .val (.int x3), .val (.int x4), .val (.int x5), .val (.ref b1), .val (.int t20), .val (.int z8), .val (.int z9), .val (.ref b10), .val (.int t23), .val (.int t24), .val (.int t25), .val (.int t26), .val (.int t27), .val (.int t28), .val (.ref b29), .unset, .unset]) rfl ?_
    refine WP.newO (cl' := 6) (sl' := 21) (pc' := 232) at_229 rfl (wd1 hw) (wd2 hw) (wd3 hw) rfl rfl (by decide) (by decide) ?_
    intro h82 b82 g82 E82 A82 D82
    have ge83 : n0 ≤ b82 := by rw [g82]; exact Z81
    have ne84 : b1 ≠ b82 := by rw [g82]; exact Nat.ne_of_lt V73.lt
    have ne85 : b10 ≠ b82 := by rw [g82]; exact Nat.ne_of_lt V74.lt
    have ne86 : b29 ≠ b82 := by rw [g82]; exact Nat.ne_of_lt E72.lt
    have ne87 : b41 ≠ b82 := by rw [g82]; exact Nat.ne_of_lt E76.lt
    have ne88 : c57 ≠ b82 := by rw [g82]; exact Nat.ne_of_lt V79.lt
    have V89 := V73.ext E82
    have V90 := V74.ext E82
    have E91 := E72.ext E82
    have E92 := E76.ext E82
    have F93 := F77.ext E82
    have F94 := F78.ext E82
    have V95 := V79.ext E82
    have F96 := F72_segment.ext E82
    have F97 := F72_field.ext E82
    have F98 := F72_component.ext E82
    have F99 := F72_subcomponent.ext E82
    have O100 := O80.ext E82
    have Z101 : n0 ≤ h82.size := Nat.le_trans Z81 E82.1
    have F102 : Fld Z h82 b82 "com/example/labwire/labwire/check/FieldPath" "segment" "Ljava/lang/String;" .null := D82 (Or.inr (wd43 hw)) (ty := (.object "java/lang/String")) (by decide)
    have F103 : Fld Z h82 b82 "com/example/labwire/labwire/check/FieldPath" "field" "I" (.int (0 : Int32)) := D82 (Or.inr (wd45 hw)) (ty := .int) (by decide)
    have F104 : Fld Z h82 b82 "com/example/labwire/labwire/check/FieldPath" "component" "I" (.int (0 : Int32)) := D82 (Or.inr (wd47 hw)) (ty := .int) (by decide)
    have F105 : Fld Z h82 b82 "com/example/labwire/labwire/check/FieldPath" "subcomponent" "I" (.int (0 : Int32)) := D82 (Or.inr (wd49 hw)) (ty := .int) (by decide)
    refine WP.dup (pc' := 233) at_232 rfl rfl ?_
    refine WP.newO (cl' := 7) (sl' := 25) (pc' := 236) at_233 rfl (wd4 hw) (wd5 hw) (wd6 hw) rfl rfl (by decide) (by decide) ?_
    intro h106 b106 g106 E106 A106 D106
    have ge107 : n0 ≤ b106 := by rw [g106]; exact Z101
    have ne108 : b1 ≠ b106 := by rw [g106]; exact Nat.ne_of_lt V89.lt
    have ne109 : b10 ≠ b106 := by rw [g106]; exact Nat.ne_of_lt V90.lt
    have ne110 : b29 ≠ b106 := by rw [g106]; exact Nat.ne_of_lt E91.lt
    have ne111 : b41 ≠ b106 := by rw [g106]; exact Nat.ne_of_lt E92.lt
    have ne112 : c57 ≠ b106 := by rw [g106]; exact Nat.ne_of_lt V95.lt
    have ne113 : b82 ≠ b106 := by rw [g106]; exact Nat.ne_of_lt A82.lt
    have V114 := V89.ext E106
    have V115 := V90.ext E106
    have E116 := E91.ext E106
    have E117 := E92.ext E106
    have F118 := F93.ext E106
    have F119 := F94.ext E106
    have V120 := V95.ext E106
    have F121 := F96.ext E106
    have F122 := F97.ext E106
    have F123 := F98.ext E106
    have F124 := F99.ext E106
    have E125 := A82.ext E106
    have F126 := F102.ext E106
    have F127 := F103.ext E106
    have F128 := F104.ext E106
    have F129 := F105.ext E106
    have O130 := O100.ext E106
    have Z131 : n0 ≤ h106.size := Nat.le_trans Z101 E106.1
    have F132 : Fld Z h106 b106 "java/lang/String" "coder" "B" (.int (0 : Int32)) := D106 (Or.inr (wd30 hw)) (ty := .byte) (by decide)
    have F133 : Fld Z h106 b106 "java/lang/String" "value" "[B" .null := D106 (Or.inr (wd32 hw)) (ty := (.array .byte)) (by decide)
    refine WP.dup (pc' := 237) at_236 rfl rfl ?_
    refine WP.aload (pc' := 239) at_237 rfl rfl rfl ?_
    refine WP.callI (a := b106) (argsL := [(.ref b10)]) (rest := [(.ref b106), (.ref b82), (.ref b82)]) (wd := 3) (cl' := 8) (sl' := 28) (pc' := 242) at_239 rfl rfl (wd7 hw) (wd8 hw) (wd6 hw) (wd9 hw) (by decide) (s_si hw b106 b10 h106 n0 Z131 ge107 A106 F133 F132 cs (S_CS.ext O130.2) hcs n' g' V115 (by omega) (by omega) (by omega) lat10 ne109) pd_7 rfl rfl rfl (Nat.le_of_eq rfl) (by decide) (by decide) rfl rfl (by decide) (by decide) ?_
    rintro v h134 ⟨rfl, c134, K134, ge134, sz134, E134, Fv134, Fc134, B134⟩
    have ne135 : b1 ≠ c134 := Nat.ne_of_lt (Nat.lt_of_lt_of_le V114.lt sz134)
    have ne136 : b10 ≠ c134 := Nat.ne_of_lt (Nat.lt_of_lt_of_le V115.lt sz134)
    have ne137 : b29 ≠ c134 := Nat.ne_of_lt (Nat.lt_of_lt_of_le E116.lt sz134)
    have ne138 : b41 ≠ c134 := Nat.ne_of_lt (Nat.lt_of_lt_of_le E117.lt sz134)
    have ne139 : c57 ≠ c134 := Nat.ne_of_lt (Nat.lt_of_lt_of_le V120.lt sz134)
    have ne140 : b82 ≠ c134 := Nat.ne_of_lt (Nat.lt_of_lt_of_le E125.lt sz134)
    have ne141 : b106 ≠ c134 := Nat.ne_of_lt (Nat.lt_of_lt_of_le A106.lt sz134)
    have V142 := V114.keep K134 (ninS ne108 nin0)
    have V143 := V115.keep K134 (ninS ne109 nin0)
    have E144 := E116.keep K134
    have E145 := E117.keep K134
    have F146 := F118.keep K134 (ninS ne111 nin0)
    have F147 := F119.keep K134 (ninS ne111 nin0)
    have V148 := V120.keep K134 (ninS ne112 nin0)
    have F149 := F121.keep K134 (ninS ne110 nin0)
    have F150 := F122.keep K134 (ninS ne110 nin0)
    have F151 := F123.keep K134 (ninS ne110 nin0)
    have F152 := F124.keep K134 (ninS ne110 nin0)
    have E153 := E125.keep K134
    have F154 := F126.keep K134 (ninS ne113 nin0)
    have F155 := F127.keep K134 (ninS ne113 nin0)
    have F156 := F128.keep K134 (ninS ne113 nin0)
    have F157 := F129.keep K134 (ninS ne113 nin0)
    have E158 := A106.keep K134
    have O159 := O130.keep K134 (allS ge107 all0)
    have Z160 : n0 ≤ h134.size := Nat.le_trans Z131 K134.1
    refine WP.castS (st' := [(.ref b106), (.ref b82), (.ref b82)]) rfl ?_
    refine WP.iload (pc' := 244) at_242 rfl rfl ?_
    refine WP.iloadN (pc' := 245) at_244 rfl rfl ?_
    refine WP.iload (pc' := 247) at_245 rfl rfl ?_
    refine WP.callS (argsL := [(.int t23), (.int x1), (.int t26)]) (rest := [(.ref b106), (.ref b82), (.ref b82)]) (wd := 3) (cl' := 8) (sl' := 28) (pc' := 250) at_247 rfl (wd50 hw) (wd51 hw) (wd52 hw) (wd53 hw) (by decide) (m_ov hw t23 x1 t26 h134 n0) pd_9 rfl rfl rfl (Nat.le_of_eq rfl) (by decide) (by decide) rfl rfl (by decide) (by decide) ?_
    rintro v hh161 ⟨rfl, he161⟩
    rw [he161]
    refine WP.castS (st' := [(.int (ov t23 x1 t26)), (.ref b106), (.ref b82), (.ref b82)]) rfl ?_
    refine WP.iload (pc' := 252) at_250 rfl rfl ?_
    refine WP.iloadN (pc' := 253) at_252 rfl rfl ?_
    refine WP.iload (pc' := 255) at_253 rfl rfl ?_
    refine WP.callS (argsL := [(.int t24), (.int x2), (.int t27)]) (rest := [(.int (ov t23 x1 t26)), (.ref b106), (.ref b82), (.ref b82)]) (wd := 4) (cl' := 8) (sl' := 28) (pc' := 258) at_255 rfl (wd50 hw) (wd51 hw) (wd52 hw) (wd53 hw) (by decide) (m_ov hw t24 x2 t27 h134 n0) pd_9 rfl rfl rfl (Nat.le_of_eq rfl) (by decide) (by decide) rfl rfl (by decide) (by decide) ?_
    rintro v hh162 ⟨rfl, he162⟩
    rw [he162]
    refine WP.castS (st' := [(.int (ov t24 x2 t27)), (.int (ov t23 x1 t26)), (.ref b106), (.ref b82), (.ref b82)]) rfl ?_
    refine WP.iload (pc' := 260) at_258 rfl rfl ?_
    refine WP.iloadN (pc' := 261) at_260 rfl rfl ?_
    refine WP.iload (pc' := 263) at_261 rfl rfl ?_
    refine WP.callS (argsL := [(.int t25), (.int x3), (.int t28)]) (rest := [(.int (ov t24 x2 t27)), (.int (ov t23 x1 t26)), (.ref b106), (.ref b82), (.ref b82)]) (wd := 5) (cl' := 8) (sl' := 28) (pc' := 266) at_263 rfl (wd50 hw) (wd51 hw) (wd52 hw) (wd53 hw) (by decide) (m_ov hw t25 x3 t28 h134 n0) pd_9 rfl rfl rfl (Nat.le_of_eq rfl) (by decide) (by decide) rfl rfl (by decide) (by decide) ?_
    rintro v hh163 ⟨rfl, he163⟩
    rw [he163]
    refine WP.castS (st' := [(.int (ov t25 x3 t28)), (.int (ov t24 x2 t27)), (.int (ov t23 x1 t26)), (.ref b106), (.ref b82), (.ref b82)]) rfl ?_
    refine WP.callI (a := b82) (argsL := [(.ref b106), (.int (ov t23 x1 t26)), (.int (ov t24 x2 t27)), (.int (ov t25 x3 t28))]) (rest := [(.ref b82)]) (wd := 1) (cl' := 8) (sl' := 28) (pc' := 269) at_266 rfl rfl (wd33 hw) (wd34 hw) (wd3 hw) (wd35 hw) (by decide) (m_fi hw b82 b106 (ov t23 x1 t26) (ov t24 x2 t27) (ov t25 x3 t28) h134 n0 E153 ge83 F154 F155 F156 F157) pd_8 rfl rfl rfl (Nat.le_of_eq rfl) (by decide) (by decide) rfl rfl (by decide) (by decide) ?_
    rintro v h164 ⟨rfl, K164, E164, F164_segment, F164_field, F164_component, F164_subcomponent⟩
    have V165 := V142.keep K164 (ninS ne84 nin0)
    have V166 := V143.keep K164 (ninS ne85 nin0)
    have E167 := E144.keep K164
    have E168 := E145.keep K164
    have F169 := F146.keep K164 (ninS ne87 nin0)
    have F170 := F147.keep K164 (ninS ne87 nin0)
    have V171 := V148.keep K164 (ninS ne88 nin0)
    have F172 := F149.keep K164 (ninS ne86 nin0)
    have F173 := F150.keep K164 (ninS ne86 nin0)
    have F174 := F151.keep K164 (ninS ne86 nin0)
    have F175 := F152.keep K164 (ninS ne86 nin0)
    have E176 := E153.keep K164
    have E177 := E134.keep K164
    have F178 := Fv134.keep K164 (ninS (Ne.symm ne113) nin0)
    have F179 := Fc134.keep K164 (ninS (Ne.symm ne113) nin0)
    have V180 := B134.keep K164 (ninS (Ne.symm ne140) nin0)
    have O181 := O159.keep K164 (allS ge83 all0)
    have Z182 : n0 ≤ h164.size := Nat.le_trans Z160 K164.1
    refine WP.castS (st' := [(.ref b82)]) rfl ?_
    refine WP.astore (pc' := 271) at_269 rfl rfl (Ls' := #[.val (.int x0), .val (.int x1), .val (.int x2), .val (.int x3), .val (.int x4), .val (.int x5), .val (.ref b1), .val (.int t20), .val (.int z8), .val (.int z9), .val (.ref b10), .val (.int t23), .val (.int t24), .val (.int t25), .val (.int t26), .val (.int t27), .val (.int t28), .val (.ref b29), .val (.ref b82), .unset]) rfl ?_
    rcases hsm with ⟨h7, hs⟩ | ⟨h7, hs⟩
    · skip
      refine WP.iload (pc' := 273) at_271 rfl rfl ?_
      refine WP.iconst (pc' := 274) at_273 rfl (z := 2) rfl ?_
      have hc274 : t20 < (2 : Int32) := h7
      refine WP.icmp_ge (pc1 := 314) (pc2 := 277) at_274 (by decide) (by decide) rfl (fun k => absurd hc274 k) (fun _ => ?_)
      refine WP.iload (pc' := 279) at_277 rfl rfl ?_
      refine WP.iloadN (pc' := 280) at_279 rfl rfl ?_
      refine WP.iload (pc' := 282) at_280 rfl rfl ?_
      refine WP.callS (argsL := [(.int t23), (.int x1), (.int t26)]) (rest := []) (wd := 0) (cl' := 8) (sl' := 28) (pc' := 285) at_282 rfl (wd54 hw) (wd55 hw) (wd52 hw) (wd56 hw) (by decide) (m_fn hw t23 x1 t26 h164 n0) pd_10 rfl rfl rfl (Nat.le_of_eq rfl) (by decide) (by decide) rfl rfl (by decide) (by decide) ?_
      rintro v hh183 ⟨⟨rfl, f1⟩ | ⟨rfl, f1⟩, he183⟩ <;> rw [he183]
      · skip
        refine WP.castS (st' := [(.int (1 : Int32))]) rfl ?_
        have hc285 : ¬ (1 : Int32) = (0 : Int32) := by decide
        refine WP.ifc_eq (pc1 := 314) (pc2 := 288) at_285 (by decide) (by decide) rfl (fun k => absurd k hc285) (fun _ => ?_)
        refine WP.iload (pc' := 290) at_288 rfl rfl ?_
        refine WP.iloadN (pc' := 291) at_290 rfl rfl ?_
        refine WP.iload (pc' := 293) at_291 rfl rfl ?_
        refine WP.callS (argsL := [(.int t24), (.int x2), (.int t27)]) (rest := []) (wd := 0) (cl' := 8) (sl' := 28) (pc' := 296) at_293 rfl (wd54 hw) (wd55 hw) (wd52 hw) (wd56 hw) (by decide) (m_fn hw t24 x2 t27 h164 n0) pd_10 rfl rfl rfl (Nat.le_of_eq rfl) (by decide) (by decide) rfl rfl (by decide) (by decide) ?_
        rintro v hh184 ⟨⟨rfl, f2⟩ | ⟨rfl, f2⟩, he184⟩ <;> rw [he184]
        · skip
          refine WP.castS (st' := [(.int (1 : Int32))]) rfl ?_
          have hc296 : ¬ (1 : Int32) = (0 : Int32) := by decide
          refine WP.ifc_eq (pc1 := 314) (pc2 := 299) at_296 (by decide) (by decide) rfl (fun k => absurd k hc296) (fun _ => ?_)
          refine WP.iload (pc' := 301) at_299 rfl rfl ?_
          refine WP.iloadN (pc' := 302) at_301 rfl rfl ?_
          refine WP.iload (pc' := 304) at_302 rfl rfl ?_
          refine WP.callS (argsL := [(.int t25), (.int x3), (.int t28)]) (rest := []) (wd := 0) (cl' := 8) (sl' := 28) (pc' := 307) at_304 rfl (wd54 hw) (wd55 hw) (wd52 hw) (wd56 hw) (by decide) (m_fn hw t25 x3 t28 h164 n0) pd_10 rfl rfl rfl (Nat.le_of_eq rfl) (by decide) (by decide) rfl rfl (by decide) (by decide) ?_
          rintro v hh185 ⟨⟨rfl, f3⟩ | ⟨rfl, f3⟩, he185⟩ <;> rw [he185]
          · skip
            refine WP.castS (st' := [(.int (1 : Int32))]) rfl ?_
            have hc307 : ¬ (1 : Int32) = (0 : Int32) := by decide
            refine WP.ifc_eq (pc1 := 314) (pc2 := 310) at_307 (by decide) (by decide) rfl (fun k => absurd k hc307) (fun _ => ?_)
            refine WP.iconst (pc' := 311) at_310 rfl (z := 1) rfl ?_
            refine WP.goto (pc' := 315) at_311 (by decide) (by decide) ?_
            refine WP.istore (pc' := 317) at_315 rfl (Ls' := #[.val (.int x0), .val (.int x1), .val (.int x2), .val (.int x3), .val (.int x4), .val (.int x5), .val (.ref b1), .val (.int t20), .val (.int z8), .val (.int z9), .val (.ref b10), .val (.int t23), .val (.int t24), .val (.int t25), .val (.int t26), .val (.int t27), .val (.int t28), .val (.ref b29), .val (.ref b82), .val (.int (1 : Int32))]) rfl ?_
            refine WP.aload (pc' := 319) at_317 rfl rfl rfl ?_
            refine WP.aload (pc' := 321) at_319 rfl rfl rfl ?_
            refine WP.callV (a := b29) (K := "com/example/labwire/labwire/check/FieldPath") (argsL := [(.ref b82)]) (rest := []) (wd := 0) (cl' := 8) (sl' := 28) (pc' := 324) at_321 rfl (wd57 hw) (wd58 hw) (nfS (wd60 hw) rfl) (wd60 hw) (wd59 hw) (wd3 hw) (wd61 hw) (by decide) E167 (m_wi hw b29 b82 h164 n0 b41 b106 c57 c134 3 n' (fun i => cv (gi i)) (fun i => cv (g' i)) x1 x2 x3 (ov t23 x1 t26) (ov t24 x2 t27) (ov t25 x3 t28) F172 F173 F174 F175 E168 F169 F170 V171 F164_segment F164_field F164_component F164_subcomponent E177 F178 F179 V180 (by omega) (by omega) ne111 cs (S_CS.ext O181.2) hcs) pd_11 rfl rfl rfl (Nat.le_of_eq rfl) (by decide) (by decide) rfl rfl (by decide) (by decide) ?_
            rintro v hh186 ⟨⟨rfl, p⟩ | ⟨rfl, p⟩, he186⟩ <;> rw [he186]
            · skip
              refine WP.castS (st' := [(.int (1 : Int32))]) rfl ?_
              refine WP.iload (pc' := 326) at_324 rfl rfl ?_
              have hc326 : (1 : Int32) = (1 : Int32) := by decide
              refine WP.icmp_ne (pc1 := 333) (pc2 := 329) at_326 (by decide) (by decide) rfl (fun k => absurd hc326 k) (fun _ => ?_)
              refine WP.iconst (pc' := 330) at_329 rfl (z := 1) rfl ?_
              refine WP.goto (pc' := 334) at_330 (by decide) (by decide) ?_
              refine WP.nret (t := .boolean) at_334 rfl (by simp) rfl (by decide) (by decide) rfl
            · exact absurd ⟨(cv_same lat6 lat10).mpr hs, ovP f1, ovP f2, ovP f3⟩ p
          · skip
            refine WP.castS (st' := [(.int (0 : Int32))]) rfl ?_
            have hc307 : (0 : Int32) = (0 : Int32) := by decide
            refine WP.ifc_eq (pc1 := 314) (pc2 := 310) at_307 (by decide) (by decide) rfl (fun _ => ?_) (fun k => absurd hc307 k)
            refine WP.iconst (pc' := 315) at_314 rfl (z := 0) rfl ?_
            refine WP.istore (pc' := 317) at_315 rfl (Ls' := #[.val (.int x0), .val (.int x1), .val (.int x2), .val (.int x3), .val (.int x4), .val (.int x5), .val (.ref b1), .val (.int t20), .val (.int z8), .val (.int z9), .val (.ref b10), .val (.int t23), .val (.int t24), .val (.int t25), .val (.int t26), .val (.int t27), .val (.int t28), .val (.ref b29), .val (.ref b82), .val (.int (0 : Int32))]) rfl ?_
            refine WP.aload (pc' := 319) at_317 rfl rfl rfl ?_
            refine WP.aload (pc' := 321) at_319 rfl rfl rfl ?_
            refine WP.callV (a := b29) (K := "com/example/labwire/labwire/check/FieldPath") (argsL := [(.ref b82)]) (rest := []) (wd := 0) (cl' := 8) (sl' := 28) (pc' := 324) at_321 rfl (wd57 hw) (wd58 hw) (nfS (wd60 hw) rfl) (wd60 hw) (wd59 hw) (wd3 hw) (wd61 hw) (by decide) E167 (m_wi hw b29 b82 h164 n0 b41 b106 c57 c134 3 n' (fun i => cv (gi i)) (fun i => cv (g' i)) x1 x2 x3 (ov t23 x1 t26) (ov t24 x2 t27) (ov t25 x3 t28) F172 F173 F174 F175 E168 F169 F170 V171 F164_segment F164_field F164_component F164_subcomponent E177 F178 F179 V180 (by omega) (by omega) ne111 cs (S_CS.ext O181.2) hcs) pd_11 rfl rfl rfl (Nat.le_of_eq rfl) (by decide) (by decide) rfl rfl (by decide) (by decide) ?_
            rintro v hh187 ⟨⟨rfl, p⟩ | ⟨rfl, p⟩, he187⟩ <;> rw [he187]
            · exact absurd p.2.2.2 (ovN (by rw [← ht28]; exact or1 _) f3)
            · skip
              refine WP.castS (st' := [(.int (0 : Int32))]) rfl ?_
              refine WP.iload (pc' := 326) at_324 rfl rfl ?_
              have hc326 : (0 : Int32) = (0 : Int32) := by decide
              refine WP.icmp_ne (pc1 := 333) (pc2 := 329) at_326 (by decide) (by decide) rfl (fun k => absurd hc326 k) (fun _ => ?_)
              refine WP.iconst (pc' := 330) at_329 rfl (z := 1) rfl ?_
              refine WP.goto (pc' := 334) at_330 (by decide) (by decide) ?_
              refine WP.nret (t := .boolean) at_334 rfl (by simp) rfl (by decide) (by decide) rfl
        · skip
          refine WP.castS (st' := [(.int (0 : Int32))]) rfl ?_
          have hc296 : (0 : Int32) = (0 : Int32) := by decide
          refine WP.ifc_eq (pc1 := 314) (pc2 := 299) at_296 (by decide) (by decide) rfl (fun _ => ?_) (fun k => absurd hc296 k)
          refine WP.iconst (pc' := 315) at_314 rfl (z := 0) rfl ?_
          refine WP.istore (pc' := 317) at_315 rfl (Ls' := #[.val (.int x0), .val (.int x1), .val (.int x2), .val (.int x3), .val (.int x4), .val (.int x5), .val (.ref b1), .val (.int t20), .val (.int z8), .val (.int z9), .val (.ref b10), .val (.int t23), .val (.int t24), .val (.int t25), .val (.int t26), .val (.int t27), .val (.int t28), .val (.ref b29), .val (.ref b82), .val (.int (0 : Int32))]) rfl ?_
          refine WP.aload (pc' := 319) at_317 rfl rfl rfl ?_
          refine WP.aload (pc' := 321) at_319 rfl rfl rfl ?_
          refine WP.callV (a := b29) (K := "com/example/labwire/labwire/check/FieldPath") (argsL := [(.ref b82)]) (rest := []) (wd := 0) (cl' := 8) (sl' := 28) (pc' := 324) at_321 rfl (wd57 hw) (wd58 hw) (nfS (wd60 hw) rfl) (wd60 hw) (wd59 hw) (wd3 hw) (wd61 hw) (by decide) E167 (m_wi hw b29 b82 h164 n0 b41 b106 c57 c134 3 n' (fun i => cv (gi i)) (fun i => cv (g' i)) x1 x2 x3 (ov t23 x1 t26) (ov t24 x2 t27) (ov t25 x3 t28) F172 F173 F174 F175 E168 F169 F170 V171 F164_segment F164_field F164_component F164_subcomponent E177 F178 F179 V180 (by omega) (by omega) ne111 cs (S_CS.ext O181.2) hcs) pd_11 rfl rfl rfl (Nat.le_of_eq rfl) (by decide) (by decide) rfl rfl (by decide) (by decide) ?_
          rintro v hh188 ⟨⟨rfl, p⟩ | ⟨rfl, p⟩, he188⟩ <;> rw [he188]
          · exact absurd p.2.2.1 (ovN (by rw [← ht27]; exact or1 _) f2)
          · skip
            refine WP.castS (st' := [(.int (0 : Int32))]) rfl ?_
            refine WP.iload (pc' := 326) at_324 rfl rfl ?_
            have hc326 : (0 : Int32) = (0 : Int32) := by decide
            refine WP.icmp_ne (pc1 := 333) (pc2 := 329) at_326 (by decide) (by decide) rfl (fun k => absurd hc326 k) (fun _ => ?_)
            refine WP.iconst (pc' := 330) at_329 rfl (z := 1) rfl ?_
            refine WP.goto (pc' := 334) at_330 (by decide) (by decide) ?_
            refine WP.nret (t := .boolean) at_334 rfl (by simp) rfl (by decide) (by decide) rfl
      · skip
        refine WP.castS (st' := [(.int (0 : Int32))]) rfl ?_
        have hc285 : (0 : Int32) = (0 : Int32) := by decide
        refine WP.ifc_eq (pc1 := 314) (pc2 := 288) at_285 (by decide) (by decide) rfl (fun _ => ?_) (fun k => absurd hc285 k)
        refine WP.iconst (pc' := 315) at_314 rfl (z := 0) rfl ?_
        refine WP.istore (pc' := 317) at_315 rfl (Ls' := #[.val (.int x0), .val (.int x1), .val (.int x2), .val (.int x3), .val (.int x4), .val (.int x5), .val (.ref b1), .val (.int t20), .val (.int z8), .val (.int z9), .val (.ref b10), .val (.int t23), .val (.int t24), .val (.int t25), .val (.int t26), .val (.int t27), .val (.int t28), .val (.ref b29), .val (.ref b82), .val (.int (0 : Int32))]) rfl ?_
        refine WP.aload (pc' := 319) at_317 rfl rfl rfl ?_
        refine WP.aload (pc' := 321) at_319 rfl rfl rfl ?_
        refine WP.callV (a := b29) (K := "com/example/labwire/labwire/check/FieldPath") (argsL := [(.ref b82)]) (rest := []) (wd := 0) (cl' := 8) (sl' := 28) (pc' := 324) at_321 rfl (wd57 hw) (wd58 hw) (nfS (wd60 hw) rfl) (wd60 hw) (wd59 hw) (wd3 hw) (wd61 hw) (by decide) E167 (m_wi hw b29 b82 h164 n0 b41 b106 c57 c134 3 n' (fun i => cv (gi i)) (fun i => cv (g' i)) x1 x2 x3 (ov t23 x1 t26) (ov t24 x2 t27) (ov t25 x3 t28) F172 F173 F174 F175 E168 F169 F170 V171 F164_segment F164_field F164_component F164_subcomponent E177 F178 F179 V180 (by omega) (by omega) ne111 cs (S_CS.ext O181.2) hcs) pd_11 rfl rfl rfl (Nat.le_of_eq rfl) (by decide) (by decide) rfl rfl (by decide) (by decide) ?_
        rintro v hh189 ⟨⟨rfl, p⟩ | ⟨rfl, p⟩, he189⟩ <;> rw [he189]
        · exact absurd p.2.1 (ovN (by rw [← ht26]; exact or1 _) f1)
        · skip
          refine WP.castS (st' := [(.int (0 : Int32))]) rfl ?_
          refine WP.iload (pc' := 326) at_324 rfl rfl ?_
          have hc326 : (0 : Int32) = (0 : Int32) := by decide
          refine WP.icmp_ne (pc1 := 333) (pc2 := 329) at_326 (by decide) (by decide) rfl (fun k => absurd hc326 k) (fun _ => ?_)
          refine WP.iconst (pc' := 330) at_329 rfl (z := 1) rfl ?_
          refine WP.goto (pc' := 334) at_330 (by decide) (by decide) ?_
          refine WP.nret (t := .boolean) at_334 rfl (by simp) rfl (by decide) (by decide) rfl
    · skip
      refine WP.iload (pc' := 273) at_271 rfl rfl ?_
      refine WP.iconst (pc' := 274) at_273 rfl (z := 2) rfl ?_
      have hc274 : ¬ t20 < (2 : Int32) := h7
      refine WP.icmp_ge (pc1 := 314) (pc2 := 277) at_274 (by decide) (by decide) rfl (fun _ => ?_) (fun k => absurd k hc274)
      refine WP.iconst (pc' := 315) at_314 rfl (z := 0) rfl ?_
      refine WP.istore (pc' := 317) at_315 rfl (Ls' := #[.val (.int x0), .val (.int x1), .val (.int x2), .val (.int x3), .val (.int x4), .val (.int x5), .val (.ref b1), .val (.int t20), .val (.int z8), .val (.int z9), .val (.ref b10), .val (.int t23), .val (.int t24), .val (.int t25), .val (.int t26), .val (.int t27), .val (.int t28), .val (.ref b29), .val (.ref b82), .val (.int (0 : Int32))]) rfl ?_
      refine WP.aload (pc' := 319) at_317 rfl rfl rfl ?_
      refine WP.aload (pc' := 321) at_319 rfl rfl rfl ?_
      refine WP.callV (a := b29) (K := "com/example/labwire/labwire/check/FieldPath") (argsL := [(.ref b82)]) (rest := []) (wd := 0) (cl' := 8) (sl' := 28) (pc' := 324) at_321 rfl (wd57 hw) (wd58 hw) (nfS (wd60 hw) rfl) (wd60 hw) (wd59 hw) (wd3 hw) (wd61 hw) (by decide) E167 (m_wi hw b29 b82 h164 n0 b41 b106 c57 c134 3 n' (fun i => cv (gi i)) (fun i => cv (g' i)) x1 x2 x3 (ov t23 x1 t26) (ov t24 x2 t27) (ov t25 x3 t28) F172 F173 F174 F175 E168 F169 F170 V171 F164_segment F164_field F164_component F164_subcomponent E177 F178 F179 V180 (by omega) (by omega) ne111 cs (S_CS.ext O181.2) hcs) pd_11 rfl rfl rfl (Nat.le_of_eq rfl) (by decide) (by decide) rfl rfl (by decide) (by decide) ?_
      rintro v hh190 ⟨⟨rfl, p⟩ | ⟨rfl, p⟩, he190⟩ <;> rw [he190]
      · exact absurd ((cv_same lat6 lat10).mp p.1) hs
      · skip
        refine WP.castS (st' := [(.int (0 : Int32))]) rfl ?_
        refine WP.iload (pc' := 326) at_324 rfl rfl ?_
        have hc326 : (0 : Int32) = (0 : Int32) := by decide
        refine WP.icmp_ne (pc1 := 333) (pc2 := 329) at_326 (by decide) (by decide) rfl (fun k => absurd hc326 k) (fun _ => ?_)
        refine WP.iconst (pc' := 330) at_329 rfl (z := 1) rfl ?_
        refine WP.goto (pc' := 334) at_330 (by decide) (by decide) ?_
        refine WP.nret (t := .boolean) at_334 rfl (by simp) rfl (by decide) (by decide) rfl
  refine WP.iload (pc' := 75) at_73 rfl rfl ?_
  refine WP.ifc_ne (pc1 := 81) (pc2 := 78) at_75 (by decide) (by decide) rfl ?_ ?_
  · intro hc75
    refine WP.iload (pc' := 83) at_81 rfl rfl ?_
    refine WP.iconst (pc' := 84) at_83 rfl (z := 3) rfl ?_
    refine WP.icmp_ne (pc1 := 111) (pc2 := 87) at_84 (by decide) (by decide) rfl ?_ ?_
    · intro hc84
      refine WP.iconst (pc' := 112) at_111 rfl (z := 3) rfl ?_
      refine WP.newPI (ty := .char) (n := 3) (cap := 3) (cl' := 2) (sl' := 6) (pc' := 114) at_112 rfl rfl rfl (wd0 hw) (by decide) (by decide) (by decide) rfl rfl (by decide) (by decide) ?_
      intro h191 b191 g191 E191 A191
      have ge192 : n0 ≤ b191 := by rw [g191]; exact Z19
      have ne193 : b1 ≠ b191 := by rw [g191]; exact Nat.ne_of_lt A17.lt
      have V194 := A17.ext E191
      have O195 := O18.ext E191
      have Z196 : n0 ≤ h191.size := Nat.le_trans Z19 E191.1
      refine WP.astore (pc' := 116) at_114 rfl rfl (Ls' := #[.val (.int x0), .val (.int x1), .val (.int x2), .val (.int x3), .val (.int x4), .val (.int x5), .val (.ref b1), .val (.int t20), .val (.int t21), .val (.int t22), .val (.ref b191), .unset, .unset, .unset, .unset, .unset, .unset, .unset, .unset, .unset]) rfl ?_
      refine WP.aload (pc' := 118) at_116 rfl rfl rfl ?_
      refine WP.iconst (pc' := 119) at_118 rfl (z := 0) rfl ?_
      refine WP.aload (pc' := 121) at_119 rfl rfl rfl ?_
      refine WP.iconst (pc' := 122) at_121 rfl (z := 0) rfl ?_
      refine WP.caloadI (0) (pc' := 123) at_122 rfl V194 (by decide) (by decide) rfl ?_
      refine WP.castoreI (x' := (gi 0)) (0) (pc' := 124) at_123 rfl A191 (by decide) (by decide) ge192 (nar_lat (lat6 _ (by omega))) ?_
      intro h197 K198 A199
      have V200 := V194.keep K198 (ninS ne193 nin0)
      have O201 := O195.keep K198 (allS ge192 all0)
      have Z202 : n0 ≤ h197.size := Nat.le_trans Z196 K198.1
      refine WP.aload (pc' := 126) at_124 rfl rfl rfl ?_
      refine WP.iconst (pc' := 127) at_126 rfl (z := 1) rfl ?_
      refine WP.aload (pc' := 129) at_127 rfl rfl rfl ?_
      refine WP.iconst (pc' := 130) at_129 rfl (z := 1) rfl ?_
      refine WP.caloadI (1) (pc' := 131) at_130 rfl V200 (by decide) (by decide) rfl ?_
      refine WP.castoreI (x' := (gi 1)) (1) (pc' := 132) at_131 rfl A199 (by decide) (by decide) ge192 (nar_lat (lat6 _ (by omega))) ?_
      intro h203 K204 A205
      have V206 := V200.keep K204 (ninS ne193 nin0)
      have O207 := O201.keep K204 (allS ge192 all0)
      have Z208 : n0 ≤ h203.size := Nat.le_trans Z202 K204.1
      refine WP.aload (pc' := 134) at_132 rfl rfl rfl ?_
      refine WP.iconst (pc' := 135) at_134 rfl (z := 2) rfl ?_
      refine WP.aload (pc' := 137) at_135 rfl rfl rfl ?_
      refine WP.iconst (pc' := 138) at_137 rfl (z := 2) rfl ?_
      refine WP.caloadI (2) (pc' := 139) at_138 rfl V206 (by decide) (by decide) rfl ?_
      refine WP.castoreI (x' := (gi 2)) (2) (pc' := 140) at_139 rfl A205 (by decide) (by decide) ge192 (nar_lat (lat6 _ (by omega))) ?_
      intro h209 K210 A211
      have V212 := V206.keep K210 (ninS ne193 nin0)
      have O213 := O207.keep K210 (allS ge192 all0)
      have Z214 : n0 ≤ h209.size := Nat.le_trans Z208 K210.1
      refine WP.iload (pc' := 142) at_140 rfl rfl ?_
      refine WP.iconst (pc' := 143) at_142 rfl (z := 2) rfl ?_
      refine WP.icmp_ne (pc1 := 164) (pc2 := 146) at_143 (by decide) (by decide) rfl ?_ ?_
      · intro hc143
        refine WP.more (cl' := 2) (sl' := 6) (by decide) (by decide) ?_
        exact L164 _ _ _ _ 3 _ O213 Z214 V212 A211 ge192 ne193 (by decide) (by decide) (lat_upd (lat_upd (lat_upd lat0 (lat6 0 (by omega))) (lat6 1 (by omega))) (lat6 2 (by omega))) (Or.inl ⟨by rw [Int32.lt_iff_toInt_lt]; rw [← Int32.toInt_inj] at hc84 hc143; have e3 : (3 : Int32).toInt = 3 := rfl; have e2 : (2 : Int32).toInt = 2 := rfl; omega, rfl, fun i hi => (i3 hi).elim (fun q => by subst q; rfl) fun q => q.elim (fun q => by subst q; rfl) (fun q => by subst q; rfl)⟩)
      · intro hc143
        have l8 : t21.toInt.toNat < 3 := by omega
        have w9 : 1 ≤ t22.toInt ∧ t22.toInt ≤ 255 := by rw [← Int32.toInt_inj] at hc75; have e0 : (0 : Int32).toInt = 0 := rfl; omega
        refine WP.aload (pc' := 148) at_146 rfl rfl rfl ?_
        refine WP.iload (pc' := 150) at_148 rfl rfl ?_
        refine WP.aload (pc' := 152) at_150 rfl rfl rfl ?_
        refine WP.iload (pc' := 154) at_152 rfl rfl ?_
        refine WP.caloadI (t21.toInt.toNat) (pc' := 155) at_154 rfl V212 (by omega) l8 rfl ?_
        refine WP.iload (pc' := 157) at_155 rfl rfl ?_
        refine WP.ixor (pc' := 158) at_157 rfl ?_
        refine WP.sipush (pc' := 161) at_158 rfl (z := 255) rfl ?_
        refine WP.iand (pc' := 162) at_161 rfl ?_
        refine WP.i2c (pc' := 163) at_162 rfl ?_
        refine WP.castoreI (x' := (((gi (t21.toInt.toNat)) ^^^ t22) &&& 255)) (t21.toInt.toNat) (pc' := 164) at_163 rfl A211 (by omega) l8 ge192 (latV ((gi (t21.toInt.toNat)) ^^^ t22)).1 ?_
        intro h215 K216 A217
        have V218 := V212.keep K216 (ninS ne193 nin0)
        have O219 := O213.keep K216 (allS ge192 all0)
        have Z220 : n0 ≤ h215.size := Nat.le_trans Z214 K216.1
        refine WP.more (cl' := 2) (sl' := 6) (by decide) (by decide) ?_
        exact L164 _ _ _ _ 3 _ O219 Z220 V218 A217 ge192 ne193 (by decide) (by decide) (lat_upd (lat_upd (lat_upd (lat_upd lat0 (lat6 0 (by omega))) (lat6 1 (by omega))) (lat6 2 (by omega))) (and255 _)) (Or.inr ⟨by rw [hc143]; decide, fun z => xr (lat6 _ l8) w9 ((z.2 _ l8).trans (upd_at _ _ _)).symm⟩)
    · intro hc84
      refine WP.iconst (pc' := 88) at_87 rfl (z := 2) rfl ?_
      refine WP.newPI (ty := .char) (n := 2) (cap := 2) (cl' := 2) (sl' := 5) (pc' := 90) at_88 rfl rfl rfl (wd0 hw) (by decide) (by decide) (by decide) rfl rfl (by decide) (by decide) ?_
      intro h221 b221 g221 E221 A221
      have ge222 : n0 ≤ b221 := by rw [g221]; exact Z19
      have ne223 : b1 ≠ b221 := by rw [g221]; exact Nat.ne_of_lt A17.lt
      have V224 := A17.ext E221
      have O225 := O18.ext E221
      have Z226 : n0 ≤ h221.size := Nat.le_trans Z19 E221.1
      refine WP.astore (pc' := 92) at_90 rfl rfl (Ls' := #[.val (.int x0), .val (.int x1), .val (.int x2), .val (.int x3), .val (.int x4), .val (.int x5), .val (.ref b1), .val (.int t20), .val (.int t21), .val (.int t22), .val (.ref b221), .unset, .unset, .unset, .unset, .unset, .unset, .unset, .unset, .unset]) rfl ?_
      refine WP.aload (pc' := 94) at_92 rfl rfl rfl ?_
      refine WP.iconst (pc' := 95) at_94 rfl (z := 0) rfl ?_
      refine WP.aload (pc' := 97) at_95 rfl rfl rfl ?_
      refine WP.iconst (pc' := 98) at_97 rfl (z := 0) rfl ?_
      refine WP.caloadI (0) (pc' := 99) at_98 rfl V224 (by decide) (by decide) rfl ?_
      refine WP.castoreI (x' := (gi 0)) (0) (pc' := 100) at_99 rfl A221 (by decide) (by decide) ge222 (nar_lat (lat6 _ (by omega))) ?_
      intro h227 K228 A229
      have V230 := V224.keep K228 (ninS ne223 nin0)
      have O231 := O225.keep K228 (allS ge222 all0)
      have Z232 : n0 ≤ h227.size := Nat.le_trans Z226 K228.1
      refine WP.aload (pc' := 102) at_100 rfl rfl rfl ?_
      refine WP.iconst (pc' := 103) at_102 rfl (z := 1) rfl ?_
      refine WP.aload (pc' := 105) at_103 rfl rfl rfl ?_
      refine WP.iconst (pc' := 106) at_105 rfl (z := 1) rfl ?_
      refine WP.caloadI (1) (pc' := 107) at_106 rfl V230 (by decide) (by decide) rfl ?_
      refine WP.castoreI (x' := (gi 1)) (1) (pc' := 108) at_107 rfl A229 (by decide) (by decide) ge222 (nar_lat (lat6 _ (by omega))) ?_
      intro h233 K234 A235
      have V236 := V230.keep K234 (ninS ne223 nin0)
      have O237 := O231.keep K234 (allS ge222 all0)
      have Z238 : n0 ≤ h233.size := Nat.le_trans Z232 K234.1
      refine WP.goto (pc' := 164) at_108 (by decide) (by decide) ?_
      refine WP.more (cl' := 2) (sl' := 6) (by decide) (by decide) ?_
      exact L164 _ _ _ _ 2 _ O237 Z238 V236 A235 ge222 ne223 (by decide) (by decide) (lat_upd (lat_upd lat0 (by have := lat6 0 (by omega); exact this)) (by have := lat6 1 (by omega); exact this)) (Or.inr ⟨by rw [hc84]; decide, fun z => absurd z.1 (by decide)⟩)
  · intro hc75
    refine WP.iconst (pc' := 79) at_78 rfl (z := 1) rfl ?_
    refine WP.istore (pc' := 81) at_79 rfl (Ls' := #[.val (.int x0), .val (.int x1), .val (.int x2), .val (.int x3), .val (.int x4), .val (.int x5), .val (.ref b1), .val (.int t20), .val (.int t21), .val (.int (1 : Int32)), .unset, .unset, .unset, .unset, .unset, .unset, .unset, .unset, .unset, .unset]) rfl ?_
    refine WP.iload (pc' := 83) at_81 rfl rfl ?_
    refine WP.iconst (pc' := 84) at_83 rfl (z := 3) rfl ?_
    refine WP.icmp_ne (pc1 := 111) (pc2 := 87) at_84 (by decide) (by decide) rfl ?_ ?_
    · intro hc84
      refine WP.iconst (pc' := 112) at_111 rfl (z := 3) rfl ?_
      refine WP.newPI (ty := .char) (n := 3) (cap := 3) (cl' := 2) (sl' := 6) (pc' := 114) at_112 rfl rfl rfl (wd0 hw) (by decide) (by decide) (by decide) rfl rfl (by decide) (by decide) ?_
      intro h239 b239 g239 E239 A239
      have ge240 : n0 ≤ b239 := by rw [g239]; exact Z19
      have ne241 : b1 ≠ b239 := by rw [g239]; exact Nat.ne_of_lt A17.lt
      have V242 := A17.ext E239
      have O243 := O18.ext E239
      have Z244 : n0 ≤ h239.size := Nat.le_trans Z19 E239.1
      refine WP.astore (pc' := 116) at_114 rfl rfl (Ls' := #[.val (.int x0), .val (.int x1), .val (.int x2), .val (.int x3), .val (.int x4), .val (.int x5), .val (.ref b1), .val (.int t20), .val (.int t21), .val (.int (1 : Int32)), .val (.ref b239), .unset, .unset, .unset, .unset, .unset, .unset, .unset, .unset, .unset]) rfl ?_
      refine WP.aload (pc' := 118) at_116 rfl rfl rfl ?_
      refine WP.iconst (pc' := 119) at_118 rfl (z := 0) rfl ?_
      refine WP.aload (pc' := 121) at_119 rfl rfl rfl ?_
      refine WP.iconst (pc' := 122) at_121 rfl (z := 0) rfl ?_
      refine WP.caloadI (0) (pc' := 123) at_122 rfl V242 (by decide) (by decide) rfl ?_
      refine WP.castoreI (x' := (gi 0)) (0) (pc' := 124) at_123 rfl A239 (by decide) (by decide) ge240 (nar_lat (lat6 _ (by omega))) ?_
      intro h245 K246 A247
      have V248 := V242.keep K246 (ninS ne241 nin0)
      have O249 := O243.keep K246 (allS ge240 all0)
      have Z250 : n0 ≤ h245.size := Nat.le_trans Z244 K246.1
      refine WP.aload (pc' := 126) at_124 rfl rfl rfl ?_
      refine WP.iconst (pc' := 127) at_126 rfl (z := 1) rfl ?_
      refine WP.aload (pc' := 129) at_127 rfl rfl rfl ?_
      refine WP.iconst (pc' := 130) at_129 rfl (z := 1) rfl ?_
      refine WP.caloadI (1) (pc' := 131) at_130 rfl V248 (by decide) (by decide) rfl ?_
      refine WP.castoreI (x' := (gi 1)) (1) (pc' := 132) at_131 rfl A247 (by decide) (by decide) ge240 (nar_lat (lat6 _ (by omega))) ?_
      intro h251 K252 A253
      have V254 := V248.keep K252 (ninS ne241 nin0)
      have O255 := O249.keep K252 (allS ge240 all0)
      have Z256 : n0 ≤ h251.size := Nat.le_trans Z250 K252.1
      refine WP.aload (pc' := 134) at_132 rfl rfl rfl ?_
      refine WP.iconst (pc' := 135) at_134 rfl (z := 2) rfl ?_
      refine WP.aload (pc' := 137) at_135 rfl rfl rfl ?_
      refine WP.iconst (pc' := 138) at_137 rfl (z := 2) rfl ?_
      refine WP.caloadI (2) (pc' := 139) at_138 rfl V254 (by decide) (by decide) rfl ?_
      refine WP.castoreI (x' := (gi 2)) (2) (pc' := 140) at_139 rfl A253 (by decide) (by decide) ge240 (nar_lat (lat6 _ (by omega))) ?_
      intro h257 K258 A259
      have V260 := V254.keep K258 (ninS ne241 nin0)
      have O261 := O255.keep K258 (allS ge240 all0)
      have Z262 : n0 ≤ h257.size := Nat.le_trans Z256 K258.1
      refine WP.iload (pc' := 142) at_140 rfl rfl ?_
      refine WP.iconst (pc' := 143) at_142 rfl (z := 2) rfl ?_
      refine WP.icmp_ne (pc1 := 164) (pc2 := 146) at_143 (by decide) (by decide) rfl ?_ ?_
      · intro hc143
        refine WP.more (cl' := 2) (sl' := 6) (by decide) (by decide) ?_
        exact L164 _ _ _ _ 3 _ O261 Z262 V260 A259 ge240 ne241 (by decide) (by decide) (lat_upd (lat_upd (lat_upd lat0 (lat6 0 (by omega))) (lat6 1 (by omega))) (lat6 2 (by omega))) (Or.inl ⟨by rw [Int32.lt_iff_toInt_lt]; rw [← Int32.toInt_inj] at hc84 hc143; have e3 : (3 : Int32).toInt = 3 := rfl; have e2 : (2 : Int32).toInt = 2 := rfl; omega, rfl, fun i hi => (i3 hi).elim (fun q => by subst q; rfl) fun q => q.elim (fun q => by subst q; rfl) (fun q => by subst q; rfl)⟩)
      · intro hc143
        have l8 : t21.toInt.toNat < 3 := by omega
        have w9 : 1 ≤ (1 : Int32).toInt ∧ (1 : Int32).toInt ≤ 255 := by decide
        refine WP.aload (pc' := 148) at_146 rfl rfl rfl ?_
        refine WP.iload (pc' := 150) at_148 rfl rfl ?_
        refine WP.aload (pc' := 152) at_150 rfl rfl rfl ?_
        refine WP.iload (pc' := 154) at_152 rfl rfl ?_
        refine WP.caloadI (t21.toInt.toNat) (pc' := 155) at_154 rfl V260 (by omega) l8 rfl ?_
        refine WP.iload (pc' := 157) at_155 rfl rfl ?_
        refine WP.ixor (pc' := 158) at_157 rfl ?_
        refine WP.sipush (pc' := 161) at_158 rfl (z := 255) rfl ?_
        refine WP.iand (pc' := 162) at_161 rfl ?_
        refine WP.i2c (pc' := 163) at_162 rfl ?_
        refine WP.castoreI (x' := (((gi (t21.toInt.toNat)) ^^^ (1 : Int32)) &&& 255)) (t21.toInt.toNat) (pc' := 164) at_163 rfl A259 (by omega) l8 ge240 (latV ((gi (t21.toInt.toNat)) ^^^ (1 : Int32))).1 ?_
        intro h263 K264 A265
        have V266 := V260.keep K264 (ninS ne241 nin0)
        have O267 := O261.keep K264 (allS ge240 all0)
        have Z268 : n0 ≤ h263.size := Nat.le_trans Z262 K264.1
        refine WP.more (cl' := 2) (sl' := 6) (by decide) (by decide) ?_
        exact L164 _ _ _ _ 3 _ O267 Z268 V266 A265 ge240 ne241 (by decide) (by decide) (lat_upd (lat_upd (lat_upd (lat_upd lat0 (lat6 0 (by omega))) (lat6 1 (by omega))) (lat6 2 (by omega))) (and255 _)) (Or.inr ⟨by rw [hc143]; decide, fun z => xr (lat6 _ l8) w9 ((z.2 _ l8).trans (upd_at _ _ _)).symm⟩)
    · intro hc84
      refine WP.iconst (pc' := 88) at_87 rfl (z := 2) rfl ?_
      refine WP.newPI (ty := .char) (n := 2) (cap := 2) (cl' := 2) (sl' := 5) (pc' := 90) at_88 rfl rfl rfl (wd0 hw) (by decide) (by decide) (by decide) rfl rfl (by decide) (by decide) ?_
      intro h269 b269 g269 E269 A269
      have ge270 : n0 ≤ b269 := by rw [g269]; exact Z19
      have ne271 : b1 ≠ b269 := by rw [g269]; exact Nat.ne_of_lt A17.lt
      have V272 := A17.ext E269
      have O273 := O18.ext E269
      have Z274 : n0 ≤ h269.size := Nat.le_trans Z19 E269.1
      refine WP.astore (pc' := 92) at_90 rfl rfl (Ls' := #[.val (.int x0), .val (.int x1), .val (.int x2), .val (.int x3), .val (.int x4), .val (.int x5), .val (.ref b1), .val (.int t20), .val (.int t21), .val (.int (1 : Int32)), .val (.ref b269), .unset, .unset, .unset, .unset, .unset, .unset, .unset, .unset, .unset]) rfl ?_
      refine WP.aload (pc' := 94) at_92 rfl rfl rfl ?_
      refine WP.iconst (pc' := 95) at_94 rfl (z := 0) rfl ?_
      refine WP.aload (pc' := 97) at_95 rfl rfl rfl ?_
      refine WP.iconst (pc' := 98) at_97 rfl (z := 0) rfl ?_
      refine WP.caloadI (0) (pc' := 99) at_98 rfl V272 (by decide) (by decide) rfl ?_
      refine WP.castoreI (x' := (gi 0)) (0) (pc' := 100) at_99 rfl A269 (by decide) (by decide) ge270 (nar_lat (lat6 _ (by omega))) ?_
      intro h275 K276 A277
      have V278 := V272.keep K276 (ninS ne271 nin0)
      have O279 := O273.keep K276 (allS ge270 all0)
      have Z280 : n0 ≤ h275.size := Nat.le_trans Z274 K276.1
      refine WP.aload (pc' := 102) at_100 rfl rfl rfl ?_
      refine WP.iconst (pc' := 103) at_102 rfl (z := 1) rfl ?_
      refine WP.aload (pc' := 105) at_103 rfl rfl rfl ?_
      refine WP.iconst (pc' := 106) at_105 rfl (z := 1) rfl ?_
      refine WP.caloadI (1) (pc' := 107) at_106 rfl V278 (by decide) (by decide) rfl ?_
      refine WP.castoreI (x' := (gi 1)) (1) (pc' := 108) at_107 rfl A277 (by decide) (by decide) ge270 (nar_lat (lat6 _ (by omega))) ?_
      intro h281 K282 A283
      have V284 := V278.keep K282 (ninS ne271 nin0)
      have O285 := O279.keep K282 (allS ge270 all0)
      have Z286 : n0 ≤ h281.size := Nat.le_trans Z280 K282.1
      refine WP.goto (pc' := 164) at_108 (by decide) (by decide) ?_
      refine WP.more (cl' := 2) (sl' := 6) (by decide) (by decide) ?_
      exact L164 _ _ _ _ 2 _ O285 Z286 V284 A283 ge270 ne271 (by decide) (by decide) (lat_upd (lat_upd lat0 (by have := lat6 0 (by omega); exact this)) (by have := lat6 1 (by omega); exact this)) (Or.inr ⟨by rw [hc84]; decide, fun z => absurd z.1 (by decide)⟩)
set_option maxRecDepth 65536 in
set_option maxHeartbeats 40000000 in
theorem comes_1 {Post : Tables → Env → Array Value → State → Outcome → State → Prop} (hpost : ∀ tb e args s v u, (limb_1_1.after args s (.returned v) u = true ∧ limb_1_2.after args s (.returned v) u = true ∧ True) → FrameEnd s (.returned v) u (Jvm.fieldLocs frame_1_writes args s ++ Jvm.arrayLocs frame_1_arrays args s ++ Jvm.staticLocs frame_1_statics s) 24 128 → Post tb e args s (.returned v) u) :
    ArmFor flags0 classFile x code maxLocals ret World_1 tables_1 room_1 Calls_1 rest_1 Pre_1 Post := by
  intro l hfl _ _ p e ha hc hk s m args below hf hA hF happ hP
  obtain ⟨hcalls, hrest, hpre⟩ := hP
  obtain ⟨-, -, -, hnamed, -, -, -, hat⟩ := (Spec.applies_iff hf).mp happ
  obtain ⟨hg, hn⟩ := and_e (Cond.before_iff.mp (show (Jvm.Cond.and given_1 narrow_1).before args s = true from hpre))
  obtain ⟨g1, g2⟩ := and_e hg
  obtain ⟨g3, g4⟩ := and_e g2
  obtain ⟨g5, g6⟩ := and_e g4
  obtain ⟨g7, g8⟩ := and_e g6
  obtain ⟨g9, g10⟩ := and_e g8
  obtain ⟨g11, g12⟩ := and_e g10
  obtain ⟨w0, w1, w2, w3, w4, w5, rfl⟩ : ∃ w0 w1 w2 w3 w4 w5 : Value, args = #[w0, w1, w2, w3, w4, w5] := by
    have hs : args.size = 6 := by simpa [Cond.value, given_1] using g1
    obtain ⟨L⟩ := args
    match L, hs with
    | [w0, w1, w2, w3, w4, w5], _ => exact ⟨w0, w1, w2, w3, w4, w5, rfl⟩
  have hw := fun d (hd : d ∈ tables_1) => atoms_spec (ws := Jvm.Cond.code x code maxLocals ret :: tables_1) hat d (List.mem_cons_of_mem _ hd)
  have hfit : Fit s := fun {y c} hc i hi => by
    obtain ⟨ha, rfl⟩ := Array.getElem?_eq_some_iff.mp hc
    have q := List.all_eq_true.mp ((Array.all_eq_true_iff_forall_mem.mp hF) _ (Array.getElem_mem ha)) i (List.mem_range.mpr hi)
    simpa [Array.getElem?_eq_getElem hi] using q
  obtain ⟨hsets, hown0⟩ := atoms_of _ (rest_1_c_eq ▸ (show rest_1_c.before _ s = true from hrest))
  have hr0 := Cond.before_iff.mp hown0
  obtain ⟨i0, ei0⟩ := is_v g3
  obtain rfl : w0 = (.int i0) := Option.some.inj ei0
  obtain ⟨i1, ei1⟩ := is_v g5
  obtain rfl : w1 = (.int i1) := Option.some.inj ei1
  obtain ⟨i2, ei2⟩ := is_v g7
  obtain rfl : w2 = (.int i2) := Option.some.inj ei2
  obtain ⟨i3, ei3⟩ := is_v g9
  obtain rfl : w3 = (.int i3) := Option.some.inj ei3
  obtain ⟨i4, ei4⟩ := is_v g11
  obtain rfl : w4 = (.int i4) := Option.some.inj ei4
  obtain ⟨i5, ei5⟩ := is_v g12
  obtain rfl : w5 = (.int i5) := Option.some.inj ei5
  obtain ⟨cs, evS⟩ := is_v (Cond.before_iff.mp (hsets _ (List.mem_of_getElem? (i := 1) rfl)))
  have S_CS := Sta.start evS (Or.inl (hsets _ (List.mem_of_getElem? (i := 0) rfl)))
  have hcs : ¬ cs = 0 := fun q => by
    have z := not_v (Cond.before_iff.mp (hsets _ (List.mem_of_getElem? (i := 2) rfl)))
    rw [q] at evS
    rw [eq_i evS (Term.int_eval 0) rfl] at z
    exact absurd z (by decide)
  obtain ⟨n, o, h1, h2, h3, _, L, rfl, ⟨rfl, N⟩, hq⟩ := rm0 (Z := s) hw i0 i1 i2 i3 i4 i5 s.heap s.heap.size (Nat.le_refl _) (Old.start s) cs S_CS hcs l tables_1 p e ha hc hk s m _ below hf ((Spec.applies_iff_loose hf).mp happ).1 ⟨rfl, State.Warmed39.refl s, rfl⟩ trivial
  refine ⟨n, _, h1, h2, h3, hpost _ _ _ _ _ _ ⟨Cond.after_iff.mpr rfl, Cond.after_iff.mpr (eq_i res_at (Term.int_eval (1)) rfl), trivial⟩ ⟨hq.1, hq.2.1, (hq.2.2.sift fun y hy => Or.inr (N y hy)).mono (by decide) (by decide)⟩⟩
theorem main_1_1 : Claimed_1_1 := comes_1 fun _ _ _ _ _ _ h hF => ⟨h.1, hF⟩
theorem main_1_2 : Claimed_1_2 := comes_1 fun _ _ _ _ _ _ h hF => ⟨h.2.1, hF⟩
end Jvm.Pilot.@@N@@
namespace Jvm.Pilot.@@N@@
open Jvm Jvm.ClassFile Sem Op Lib Jvm.Free Jvm.Stand Jvm.Pilot.@@N@@.Jvm.D
/-! MADE BY PROGRAM (witnessworld.py) out of the Statement's table words and the real class files: 21 classes; the members and pool entries that the words name. The judged class is class 1, her method 3. -/
namespace start1
open Jvm.ClassFile
def u (s : String) : CpInfo := .utf8 (stringToUtf16 s)
/-- a pool by its gaps: so many unusable entries, then the entry; so many at the end -/
def gap : Nat → List CpInfo → List CpInfo
  | 0, r => r
  | n + 1, r => .unusable :: gap n r
def poolList (es : List (Nat × CpInfo)) (last : Nat) : List CpInfo := es.foldr (fun e r => gap e.1 (e.2 :: r)) (gap last [])
def pool (es : List (Nat × CpInfo)) (last : Nat) : Array CpInfo := ⟨poolList es last⟩
def fileOf (pool : Array CpInfo) (this : Nat) (attrs : Array Attribute := #[]) (ms : Array MethodInfo := #[]) (fl : Nat := 33) (sup : Nat := 0) (ifs : Array Nat := #[]) (fds : Array FieldInfo := #[]) : ClassFile where
  minorVersion := 0
  majorVersion := 65
  constantPool := pool
  accessFlags := fl
  thisClass := this
  superClass := sup
  interfaces := ifs
  fields := fds
  methods := ms
  attributes := attrs
def plain (name : String) (sup : Option ClassId) : Class where
  name := name
  kind := .ordinary
  loader := none
  accessFlags := 33
  super := sup
  interfaces := #[]
  cf := none
  fields := #[]
  methods := #[]
  instanceTypes := #[]
  staticTypes := #[]
  resolved := #[]
  callSites := []
  init := .initialized
  statics := none
  mirror := none

def pool0 : Array CpInfo := pool [(5, u "<init>"), (0, u "()V"), (1, .class_ 10), (1, u "java/lang/Object")] 113

def k0c0 : Code := { maxStack := 0, maxLocals := 1, code := object_method_1_code, exceptionTable := #[], attributes := #[] }
def k0m0 : Method := { name := "<init>", desc := "()V", sig := { parameters := [], returnType := none }, accessFlags := 1, code := some k0c0 }
/-- java/lang/Object -/
def k0 : Class := { plain "java/lang/Object" none with
  accessFlags := 33
  interfaces := #[]
  cf := some (fileOf pool0 8 #[] #[{ accessFlags := 1, nameIndex := 5, descriptorIndex := 6, attributes := #[] }] 33 0 #[] #[])
  fields := #[]
  methods := #[k0m0]
  instanceTypes := #[]
  staticTypes := #[]
  resolved := Array.replicate 124 none
  statics := none }

def pool1 : Array CpInfo := pool [(2, .class_ 4), (1, u "java/lang/Object"), (0, u "<init>"), (0, u "()V"), (0, .class_ 8), (0, u "com/example/labwire/labwire/check/FieldPath"), (0, .class_ 10), (0, u "java/lang/String"), (0, .methodref 9 12), (0, .nameAndType 5 13), (0, u "([C)V"), (0, .methodref 7 15), (0, .nameAndType 5 16), (0, u "(Ljava/lang/String;III)V"), (0, .methodref 18 19), (0, .class_ 20), (0, .nameAndType 21 22), (0, u "com/example/labwire/labwire/check/FieldPathWithinPinLaw"), (0, u "outerValue"), (0, u "(III)I"), (0, .methodref 18 24), (0, .nameAndType 25 26), (0, u "fine"), (0, u "(III)Z"), (0, .methodref 7 28), (0, .nameAndType 29 30), (0, u "within"), (0, u "(Lcom/example/labwire/labwire/check/FieldPath;)Z"), (3, u "law"), (0, u "(IIIIII)Z")] 4

def k1m0 : Method := { name := "<init>", desc := "()V", sig := { parameters := [], returnType := none }, accessFlags := 1, code := none }
def k1c1 : Code := { maxStack := 2, maxLocals := 3, code := method_2_code, exceptionTable := #[], attributes := #[] }
def k1m1 : Method := { name := "outerValue", desc := "(III)I", sig := { parameters := [.int, .int, .int], returnType := some .int }, accessFlags := 10, code := some k1c1 }
def k1c2 : Code := { maxStack := 2, maxLocals := 3, code := method_3_code, exceptionTable := #[], attributes := #[] }
def k1m2 : Method := { name := "fine", desc := "(III)Z", sig := { parameters := [.int, .int, .int], returnType := some .boolean }, accessFlags := 10, code := some k1c2 }
def k1c3 : Code := { maxStack := 8, maxLocals := 20, code := code, exceptionTable := #[], attributes := #[] }
def k1m3 : Method := { name := "law", desc := "(IIIIII)Z", sig := { parameters := [.int, .int, .int, .int, .int, .int], returnType := some .boolean }, accessFlags := 9, code := some k1c3 }
/-- com/example/labwire/labwire/check/FieldPathWithinPinLaw -/
def k1 : Class := { plain "com/example/labwire/labwire/check/FieldPathWithinPinLaw" (some 0) with
  accessFlags := 49
  interfaces := #[]
  cf := some (fileOf pool1 18 #[] #[{ accessFlags := 1, nameIndex := 5, descriptorIndex := 6, attributes := #[] }, { accessFlags := 10, nameIndex := 21, descriptorIndex := 22, attributes := #[] }, { accessFlags := 10, nameIndex := 25, descriptorIndex := 26, attributes := #[] }, { accessFlags := 9, nameIndex := 34, descriptorIndex := 35, attributes := #[] }] 49 2 #[] #[])
  fields := #[]
  methods := #[k1m0, k1m1, k1m2, k1m3]
  instanceTypes := #[]
  staticTypes := #[]
  resolved := Array.replicate 40 none
  statics := none }

def pool2 : Array CpInfo := pool [(1, .methodref 2 3), (0, .class_ 4), (0, .nameAndType 5 6), (0, u "java/lang/Object"), (0, u "<init>"), (0, u "()V"), (0, .class_ 8), (0, u "java/lang/Record")] 13

def k2c0 : Code := { maxStack := 1, maxLocals := 1, code := jdk_30_method_1_code, exceptionTable := #[], attributes := #[] }
def k2m0 : Method := { name := "<init>", desc := "()V", sig := { parameters := [], returnType := none }, accessFlags := 4, code := some k2c0 }
/-- java/lang/Record -/
def k2 : Class := { plain "java/lang/Record" (some 0) with
  accessFlags := 1057
  interfaces := #[]
  cf := some (fileOf pool2 7 #[] #[{ accessFlags := 4, nameIndex := 5, descriptorIndex := 6, attributes := #[] }] 1057 2 #[] #[])
  fields := #[]
  methods := #[k2m0]
  instanceTypes := #[]
  staticTypes := #[]
  resolved := Array.replicate 22 none
  statics := none }

def pool3 : Array CpInfo := pool [(1, .methodref 2 3), (0, .class_ 4), (0, .nameAndType 5 6), (0, u "java/lang/Record"), (0, u "<init>"), (0, u "()V"), (0, .fieldref 8 9), (0, .class_ 10), (0, .nameAndType 11 12), (0, u "com/example/labwire/labwire/check/FieldPath"), (0, u "segment"), (0, u "Ljava/lang/String;"), (0, .fieldref 8 14), (0, .nameAndType 15 16), (0, u "field"), (0, u "I"), (0, .fieldref 8 18), (0, .nameAndType 19 16), (0, u "component"), (0, .fieldref 8 21), (0, .nameAndType 22 16), (0, u "subcomponent"), (2, u "EVERY_LINE"), (0, u "Lcom/example/labwire/labwire/check/FieldPath;"), (3, .methodref 31 32), (0, .class_ 33), (0, .nameAndType 34 35), (0, u "java/lang/String"), (0, u "equals"), (0, u "(Ljava/lang/Object;)Z"), (2, u "SYNTAX"), (0, u "Ljava/util/regex/Pattern;"), (37, u "(Ljava/lang/String;III)V"), (61, u "within"), (0, u "(Lcom/example/labwire/labwire/check/FieldPath;)Z")] 42

def k3c0 : Code := { maxStack := 2, maxLocals := 5, code := prog_43_method_1_code, exceptionTable := #[], attributes := #[] }
def k3m0 : Method := { name := "<init>", desc := "(Ljava/lang/String;III)V", sig := { parameters := [(.object "java/lang/String"), .int, .int, .int], returnType := none }, accessFlags := 1, code := some k3c0 }
def k3c1 : Code := { maxStack := 2, maxLocals := 2, code := prog_43_method_5_code, exceptionTable := #[], attributes := #[] }
def k3m1 : Method := { name := "within", desc := "(Lcom/example/labwire/labwire/check/FieldPath;)Z", sig := { parameters := [(.object "com/example/labwire/labwire/check/FieldPath")], returnType := some .boolean }, accessFlags := 0, code := some k3c1 }
/-- com/example/labwire/labwire/check/FieldPath -/
def k3 : Class := { plain "com/example/labwire/labwire/check/FieldPath" (some 2) with
  accessFlags := 49
  interfaces := #[]
  cf := some (fileOf pool3 8 #[] #[{ accessFlags := 1, nameIndex := 5, descriptorIndex := 77, attributes := #[] }, { accessFlags := 0, nameIndex := 139, descriptorIndex := 140, attributes := #[] }] 49 2 #[] #[{ accessFlags := 18, nameIndex := 11, descriptorIndex := 12, attributes := #[] }, { accessFlags := 18, nameIndex := 15, descriptorIndex := 16, attributes := #[] }, { accessFlags := 18, nameIndex := 19, descriptorIndex := 16, attributes := #[] }, { accessFlags := 18, nameIndex := 22, descriptorIndex := 16, attributes := #[] }, { accessFlags := 24, nameIndex := 25, descriptorIndex := 26, attributes := #[] }, { accessFlags := 26, nameIndex := 38, descriptorIndex := 39, attributes := #[] }])
  fields := #[{ name := "segment", type := (.object "java/lang/String"), accessFlags := 18, slot := 0, constantValue := 0 }, { name := "field", type := .int, accessFlags := 18, slot := 1, constantValue := 0 }, { name := "component", type := .int, accessFlags := 18, slot := 2, constantValue := 0 }, { name := "subcomponent", type := .int, accessFlags := 18, slot := 3, constantValue := 0 }, { name := "EVERY_LINE", type := (.object "com/example/labwire/labwire/check/FieldPath"), accessFlags := 24, slot := 0, constantValue := 0 }, { name := "SYNTAX", type := (.object "java/util/regex/Pattern"), accessFlags := 26, slot := 1, constantValue := 0 }]
  methods := #[k3m0, k3m1]
  instanceTypes := #[(.object "java/lang/String"), .int, .int, .int]
  staticTypes := #[(.object "com/example/labwire/labwire/check/FieldPath"), (.object "java/util/regex/Pattern")]
  resolved := Array.replicate 183 none
  statics := none }

def pool4 : Array CpInfo := pool [(1, .class_ 2), (0, u "java/io/Serializable"), (0, .class_ 4), (0, u "java/lang/Object")] 2

/-- java/io/Serializable -/
def k4 : Class := { plain "java/io/Serializable" (some 0) with
  accessFlags := 1537
  interfaces := #[]
  cf := some (fileOf pool4 1 #[] #[] 1537 3 #[] #[])
  fields := #[]
  methods := #[]
  instanceTypes := #[]
  staticTypes := #[]
  resolved := Array.replicate 7 none
  statics := none }

def pool5 : Array CpInfo := pool [(1, .class_ 2), (0, u "java/lang/Comparable"), (0, .class_ 4), (0, u "java/lang/Object")] 7

/-- java/lang/Comparable -/
def k5 : Class := { plain "java/lang/Comparable" (some 0) with
  accessFlags := 1537
  interfaces := #[]
  cf := some (fileOf pool5 1 #[] #[] 1537 3 #[] #[])
  fields := #[]
  methods := #[]
  instanceTypes := #[]
  staticTypes := #[]
  resolved := Array.replicate 12 none
  statics := none }

def pool6 : Array CpInfo := pool [(2, .class_ 4), (1, u "java/lang/CharSequence"), (42, .class_ 48), (0, u "java/lang/CharSequence$1CodePointIterator"), (10, .class_ 60), (0, u "java/lang/CharSequence$1CharIterator"), (5, .class_ 67), (0, u "java/lang/Object")] 63

/-- java/lang/CharSequence -/
def k6 : Class := { plain "java/lang/CharSequence" (some 0) with
  accessFlags := 1537
  interfaces := #[]
  cf := some (fileOf pool6 2 #[.nestMembers #[47, 59]] #[] 1537 66 #[] #[])
  fields := #[]
  methods := #[]
  instanceTypes := #[]
  staticTypes := #[]
  resolved := Array.replicate 131 none
  statics := none }

def pool7 : Array CpInfo := pool [(1, .class_ 2), (0, u "java/lang/constant/Constable"), (0, .class_ 4), (0, u "java/lang/Object")] 6

/-- java/lang/constant/Constable -/
def k7 : Class := { plain "java/lang/constant/Constable" (some 0) with
  accessFlags := 1537
  interfaces := #[]
  cf := some (fileOf pool7 1 #[] #[] 1537 3 #[] #[])
  fields := #[]
  methods := #[]
  instanceTypes := #[]
  staticTypes := #[]
  resolved := Array.replicate 11 none
  statics := none }

def pool8 : Array CpInfo := pool [(1, .class_ 2), (0, u "java/lang/constant/ConstantDesc"), (0, .class_ 4), (0, u "java/lang/Object")] 32

/-- java/lang/constant/ConstantDesc -/
def k8 : Class := { plain "java/lang/constant/ConstantDesc" (some 0) with
  accessFlags := 1537
  interfaces := #[]
  cf := some (fileOf pool8 1 #[] #[] 1537 3 #[] #[])
  fields := #[]
  methods := #[]
  instanceTypes := #[]
  staticTypes := #[]
  resolved := Array.replicate 37 none
  statics := none }

def pool9 : Array CpInfo := pool [(1, .methodref 2 3), (0, .class_ 4), (0, .nameAndType 5 6), (0, u "java/lang/Object"), (0, u "<init>"), (0, u "()V"), (2, .fieldref 10 11), (0, .class_ 12), (0, .nameAndType 13 14), (0, u "java/lang/String"), (0, u "value"), (0, u "[B"), (0, .fieldref 10 16), (0, .nameAndType 17 18), (0, u "coder"), (0, u "B"), (2, u "hash"), (0, u "I"), (2, u "hashIsZero"), (0, u "Z"), (0, .methodref 10 28), (0, .nameAndType 5 29), (0, u "([CIILjava/lang/Void;)V"), (8, .fieldref 10 39), (0, .nameAndType 40 26), (0, u "COMPACT_STRINGS"), (1, .class_ 44), (1, u "java/lang/StringUTF16"), (0, u "compress"), (1, .methodref 42 48), (0, .nameAndType 49 50), (0, u "coderFromArrayLen"), (0, u "([BI)B"), (56, .class_ 109), (1, u "java/lang/StringLatin1"), (67, .methodref 42 178), (0, .nameAndType 45 179), (0, u "([CII)[B"), (361, .methodref 107 542), (0, .nameAndType 543 544), (0, u "equals"), (0, u "([B[B)Z"), (28, u "(Ljava/lang/Object;)Z"), (1, .class_ 576), (0, u "java/lang/CharSequence"), (22, u "CASE_INSENSITIVE_ORDER"), (0, u "Ljava/util/Comparator;"), (409, u "([C)V"), (90, u "serialPersistentFields"), (0, u "[Ljava/io/ObjectStreamField;"), (0, .class_ 1104), (0, u "java/lang/String$CaseInsensitiveComparator"), (1, .class_ 1107), (0, u "java/io/Serializable"), (0, .class_ 1109), (0, u "java/lang/Comparable"), (0, .class_ 1111), (0, u "java/lang/constant/Constable"), (0, .class_ 1113), (0, u "java/lang/constant/ConstantDesc"), (2, u "serialVersionUID"), (0, u "J"), (3, u "REPL"), (0, u "C"), (2, u "LATIN1"), (1, u "UTF16")] 323

def k9m0 : Method := { name := "<init>", desc := "()V", sig := { parameters := [], returnType := none }, accessFlags := 1, code := none }
def k9c1 : Code := { maxStack := 5, maxLocals := 2, code := jdk_42_method_3_code, exceptionTable := #[], attributes := #[] }
def k9m1 : Method := { name := "<init>", desc := "([C)V", sig := { parameters := [(.array .char)], returnType := none }, accessFlags := 1, code := some k9c1 }
def k9c2 : Code := { maxStack := 2, maxLocals := 3, code := jdk_42_method_66_code, exceptionTable := #[], attributes := #[] }
def k9m2 : Method := { name := "equals", desc := "(Ljava/lang/Object;)Z", sig := { parameters := [(.object "java/lang/Object")], returnType := some .boolean }, accessFlags := 1, code := some k9c2 }
def k9c3 : Code := { maxStack := 4, maxLocals := 6, code := jdk_42_method_149_code, exceptionTable := #[], attributes := #[] }
def k9m3 : Method := { name := "<init>", desc := "([CIILjava/lang/Void;)V", sig := { parameters := [(.array .char), .int, .int, (.object "java/lang/Void")], returnType := none }, accessFlags := 2, code := some k9c3 }
/-- java/lang/String -/
def k9 : Class := { plain "java/lang/String" (some 0) with
  accessFlags := 49
  interfaces := #[4, 5, 6, 7, 8]
  cf := some (fileOf pool9 10 #[.nestMembers #[1103]] #[{ accessFlags := 1, nameIndex := 5, descriptorIndex := 6, attributes := #[] }, { accessFlags := 1, nameIndex := 5, descriptorIndex := 1010, attributes := #[] }, { accessFlags := 1, nameIndex := 543, descriptorIndex := 573, attributes := #[] }, { accessFlags := 2, nameIndex := 5, descriptorIndex := 29, attributes := #[] }] 49 2 #[1106, 1108, 575, 1110, 1112] #[{ accessFlags := 18, nameIndex := 13, descriptorIndex := 14, attributes := #[] }, { accessFlags := 18, nameIndex := 17, descriptorIndex := 18, attributes := #[] }, { accessFlags := 2, nameIndex := 21, descriptorIndex := 22, attributes := #[] }, { accessFlags := 2, nameIndex := 25, descriptorIndex := 26, attributes := #[] }, { accessFlags := 26, nameIndex := 1116, descriptorIndex := 1117, attributes := #[] }, { accessFlags := 24, nameIndex := 40, descriptorIndex := 26, attributes := #[] }, { accessFlags := 26, nameIndex := 1101, descriptorIndex := 1102, attributes := #[] }, { accessFlags := 26, nameIndex := 1121, descriptorIndex := 1122, attributes := #[] }, { accessFlags := 25, nameIndex := 599, descriptorIndex := 600, attributes := #[] }, { accessFlags := 24, nameIndex := 1125, descriptorIndex := 18, attributes := #[] }, { accessFlags := 24, nameIndex := 1127, descriptorIndex := 18, attributes := #[] }])
  fields := #[{ name := "value", type := (.array .byte), accessFlags := 18, slot := 0, constantValue := 0 }, { name := "coder", type := .byte, accessFlags := 18, slot := 1, constantValue := 0 }, { name := "hash", type := .int, accessFlags := 2, slot := 2, constantValue := 0 }, { name := "hashIsZero", type := .boolean, accessFlags := 2, slot := 3, constantValue := 0 }, { name := "serialVersionUID", type := .long, accessFlags := 26, slot := 0, constantValue := 0 }, { name := "COMPACT_STRINGS", type := .boolean, accessFlags := 24, slot := 1, constantValue := 0 }, { name := "serialPersistentFields", type := (.array (.object "java/io/ObjectStreamField")), accessFlags := 26, slot := 2, constantValue := 0 }, { name := "REPL", type := .char, accessFlags := 26, slot := 3, constantValue := 0 }, { name := "CASE_INSENSITIVE_ORDER", type := (.object "java/util/Comparator"), accessFlags := 25, slot := 4, constantValue := 0 }, { name := "LATIN1", type := .byte, accessFlags := 24, slot := 5, constantValue := 0 }, { name := "UTF16", type := .byte, accessFlags := 24, slot := 6, constantValue := 0 }]
  methods := #[k9m0, k9m1, k9m2, k9m3]
  instanceTypes := #[(.array .byte), .byte, .int, .boolean]
  staticTypes := #[.long, .boolean, (.array (.object "java/io/ObjectStreamField")), .char, (.object "java/util/Comparator"), .byte, .byte]
  resolved := Array.replicate 1451 none
  statics := some 0 }

def pool10 : Array CpInfo := pool [(6, .class_ 8), (1, u "java/lang/Object"), (0, u "<init>"), (0, u "()V"), (1, .class_ 14), (1, u "java/lang/StringUTF16"), (31, u "$assertionsDisabled"), (0, u "Z"), (13, u "HI_BYTE_SHIFT"), (0, u "I"), (2, u "LO_BYTE_SHIFT"), (49, .methodref 12 116), (0, .nameAndType 117 118), (0, u "compress"), (0, u "([CI[BII)I"), (3, u "([CII)[B"), (138, u "coderFromArrayLen"), (0, u "([BI)B"), (106, .class_ 371), (1, u "java/lang/StringUTF16$LinesSpliterator"), (58, u "MAX_LENGTH"), (196, .class_ 628), (0, u "java/lang/StringUTF16$CodePointsSpliterator"), (0, .class_ 630), (0, u "java/lang/StringUTF16$CharsSpliterator")] 4

def k10m0 : Method := { name := "<init>", desc := "()V", sig := { parameters := [], returnType := none }, accessFlags := 0, code := none }
def k10c1 : Code := { maxStack := 2, maxLocals := 2, code := jdk_52_method_15_code, exceptionTable := #[], attributes := #[] }
def k10m1 : Method := { name := "coderFromArrayLen", desc := "([BI)B", sig := { parameters := [(.array .byte), .int], returnType := some .byte }, accessFlags := 8, code := some k10c1 }
def k10c2 : Code := { maxStack := 5, maxLocals := 6, code := jdk_52_method_16_code, exceptionTable := #[], attributes := #[] }
def k10m2 : Method := { name := "compress", desc := "([CII)[B", sig := { parameters := [(.array .char), .int, .int], returnType := some (.array .byte) }, accessFlags := 9, code := some k10c2 }
def k10c3 : Code := { maxStack := 3, maxLocals := 7, code := jdk_52_method_21_code, exceptionTable := #[], attributes := #[] }
def k10m3 : Method := { name := "compress", desc := "([CI[BII)I", sig := { parameters := [(.array .char), .int, (.array .byte), .int, .int], returnType := some .int }, accessFlags := 9, code := some k10c3 }
/-- java/lang/StringUTF16 -/
def k10 : Class := { plain "java/lang/StringUTF16" (some 0) with
  accessFlags := 48
  interfaces := #[]
  cf := some (fileOf pool10 12 #[.nestMembers #[627, 629, 369]] #[{ accessFlags := 0, nameIndex := 9, descriptorIndex := 10, attributes := #[] }, { accessFlags := 8, nameIndex := 261, descriptorIndex := 262, attributes := #[] }, { accessFlags := 9, nameIndex := 117, descriptorIndex := 122, attributes := #[] }, { accessFlags := 9, nameIndex := 117, descriptorIndex := 118, attributes := #[] }] 48 6 #[] #[{ accessFlags := 26, nameIndex := 61, descriptorIndex := 62, attributes := #[] }, { accessFlags := 26, nameIndex := 65, descriptorIndex := 62, attributes := #[] }, { accessFlags := 24, nameIndex := 430, descriptorIndex := 62, attributes := #[] }, { accessFlags := 4120, nameIndex := 46, descriptorIndex := 47, attributes := #[] }])
  fields := #[{ name := "HI_BYTE_SHIFT", type := .int, accessFlags := 26, slot := 0, constantValue := 0 }, { name := "LO_BYTE_SHIFT", type := .int, accessFlags := 26, slot := 1, constantValue := 0 }, { name := "MAX_LENGTH", type := .int, accessFlags := 24, slot := 2, constantValue := 0 }, { name := "$assertionsDisabled", type := .boolean, accessFlags := 4120, slot := 3, constantValue := 0 }]
  methods := #[k10m0, k10m1, k10m2, k10m3]
  instanceTypes := #[]
  staticTypes := #[.int, .int, .int, .boolean]
  resolved := Array.replicate 635 none
  statics := none }

def pool11 : Array CpInfo := pool [(4, .class_ 6), (1, u "java/lang/Object"), (0, u "<init>"), (0, u "()V"), (5, .class_ 16), (1, u "java/lang/StringLatin1"), (104, u "$assertionsDisabled"), (0, u "Z"), (98, .class_ 223), (1, u "java/lang/StringLatin1$LinesSpliterator"), (57, u "equals"), (0, u "([B[B)Z"), (107, .class_ 391), (0, u "java/lang/StringLatin1$CharsSpliterator")] 3

def k11m0 : Method := { name := "<init>", desc := "()V", sig := { parameters := [], returnType := none }, accessFlags := 0, code := none }
def k11c1 : Code := { maxStack := 3, maxLocals := 3, code := jdk_43_method_13_code, exceptionTable := #[], attributes := #[] }
def k11m1 : Method := { name := "equals", desc := "([B[B)Z", sig := { parameters := [(.array .byte), (.array .byte)], returnType := some .boolean }, accessFlags := 9, code := some k11c1 }
/-- java/lang/StringLatin1 -/
def k11 : Class := { plain "java/lang/StringLatin1" (some 0) with
  accessFlags := 48
  interfaces := #[]
  cf := some (fileOf pool11 14 #[.nestMembers #[390, 221]] #[{ accessFlags := 0, nameIndex := 7, descriptorIndex := 8, attributes := #[] }, { accessFlags := 9, nameIndex := 281, descriptorIndex := 282, attributes := #[] }] 48 4 #[] #[{ accessFlags := 4120, nameIndex := 121, descriptorIndex := 122, attributes := #[] }])
  fields := #[{ name := "$assertionsDisabled", type := .boolean, accessFlags := 4120, slot := 0, constantValue := 0 }]
  methods := #[k11m0, k11m1]
  instanceTypes := #[]
  staticTypes := #[.boolean]
  resolved := Array.replicate 395 none
  statics := none }

def pool12 : Array CpInfo := pool [(2, .class_ 4), (1, u "java/lang/Object"), (0, u "<init>"), (0, u "()V"), (17, .class_ 26), (1, u "jdk/internal/util/Preconditions"), (28, .class_ 56), (0, u "jdk/internal/util/Preconditions$4"), (57, .class_ 115), (0, u "jdk/internal/util/Preconditions$1"), (7, u "SIOOBE_FORMATTER"), (0, u "Ljava/util/function/BiFunction;"), (0, .class_ 126), (0, u "jdk/internal/util/Preconditions$2"), (3, u "AIOOBE_FORMATTER"), (0, .class_ 132), (0, u "jdk/internal/util/Preconditions$3"), (3, u "IOOBE_FORMATTER")] 57

def k12m0 : Method := { name := "<init>", desc := "()V", sig := { parameters := [], returnType := none }, accessFlags := 1, code := none }
/-- jdk/internal/util/Preconditions -/
def k12 : Class := { plain "jdk/internal/util/Preconditions" (some 0) with
  accessFlags := 33
  interfaces := #[]
  cf := some (fileOf pool12 24 #[.nestMembers #[55, 131, 125, 114]] #[{ accessFlags := 1, nameIndex := 5, descriptorIndex := 6, attributes := #[] }] 33 2 #[] #[{ accessFlags := 25, nameIndex := 123, descriptorIndex := 124, attributes := #[] }, { accessFlags := 25, nameIndex := 130, descriptorIndex := 124, attributes := #[] }, { accessFlags := 25, nameIndex := 136, descriptorIndex := 124, attributes := #[] }])
  fields := #[{ name := "SIOOBE_FORMATTER", type := (.object "java/util/function/BiFunction"), accessFlags := 25, slot := 0, constantValue := 0 }, { name := "AIOOBE_FORMATTER", type := (.object "java/util/function/BiFunction"), accessFlags := 25, slot := 1, constantValue := 0 }, { name := "IOOBE_FORMATTER", type := (.object "java/util/function/BiFunction"), accessFlags := 25, slot := 2, constantValue := 0 }]
  methods := #[k12m0]
  instanceTypes := #[]
  staticTypes := #[(.object "java/util/function/BiFunction"), (.object "java/util/function/BiFunction"), (.object "java/util/function/BiFunction")]
  resolved := Array.replicate 194 none
  statics := some 1 }

def pool13 : Array CpInfo := pool [(9, u "<init>"), (6, .class_ 18), (1, u "java/lang/Object"), (0, u "()V"), (1, .class_ 23), (1, u "jdk/internal/util/ArraysSupport"), (0, u "LOG2_ARRAY_LONG_INDEX_SCALE"), (0, u "I"), (2, u "U"), (0, u "Ljdk/internal/misc/Unsafe;"), (8, u "BIG_ENDIAN"), (0, u "Z"), (8, u "LOG2_BYTE_BIT_SIZE"), (4, u "LOG2_ARRAY_INT_INDEX_SCALE"), (54, u "JLA"), (0, u "Ljdk/internal/access/JavaLangAccess;"), (11, u "LOG2_ARRAY_BOOLEAN_INDEX_SCALE"), (9, u "LOG2_ARRAY_BYTE_INDEX_SCALE"), (5, u "LOG2_ARRAY_CHAR_INDEX_SCALE"), (5, u "LOG2_ARRAY_SHORT_INDEX_SCALE"), (18, u "LOG2_ARRAY_FLOAT_INDEX_SCALE"), (24, u "LOG2_ARRAY_DOUBLE_INDEX_SCALE"), (89, u "T_BOOLEAN"), (2, u "T_CHAR"), (1, u "T_FLOAT"), (1, u "T_DOUBLE"), (1, u "T_BYTE"), (1, u "T_SHORT"), (1, u "T_INT"), (1, u "T_LONG"), (1, u "SOFT_MAX_ARRAY_LENGTH")] 83

def k13m0 : Method := { name := "<init>", desc := "()V", sig := { parameters := [], returnType := none }, accessFlags := 2, code := none }
/-- jdk/internal/util/ArraysSupport -/
def k13 : Class := { plain "jdk/internal/util/ArraysSupport" (some 0) with
  accessFlags := 33
  interfaces := #[]
  cf := some (fileOf pool13 21 #[] #[{ accessFlags := 2, nameIndex := 9, descriptorIndex := 19, attributes := #[] }] 33 16 #[] #[{ accessFlags := 24, nameIndex := 28, descriptorIndex := 29, attributes := #[] }, { accessFlags := 26, nameIndex := 38, descriptorIndex := 39, attributes := #[] }, { accessFlags := 25, nameIndex := 121, descriptorIndex := 25, attributes := #[] }, { accessFlags := 25, nameIndex := 131, descriptorIndex := 25, attributes := #[] }, { accessFlags := 25, nameIndex := 137, descriptorIndex := 25, attributes := #[] }, { accessFlags := 25, nameIndex := 143, descriptorIndex := 25, attributes := #[] }, { accessFlags := 25, nameIndex := 53, descriptorIndex := 25, attributes := #[] }, { accessFlags := 25, nameIndex := 24, descriptorIndex := 25, attributes := #[] }, { accessFlags := 25, nameIndex := 162, descriptorIndex := 25, attributes := #[] }, { accessFlags := 25, nameIndex := 187, descriptorIndex := 25, attributes := #[] }, { accessFlags := 26, nameIndex := 48, descriptorIndex := 25, attributes := #[] }, { accessFlags := 25, nameIndex := 277, descriptorIndex := 25, attributes := #[] }, { accessFlags := 25, nameIndex := 280, descriptorIndex := 25, attributes := #[] }, { accessFlags := 25, nameIndex := 282, descriptorIndex := 25, attributes := #[] }, { accessFlags := 25, nameIndex := 284, descriptorIndex := 25, attributes := #[] }, { accessFlags := 25, nameIndex := 286, descriptorIndex := 25, attributes := #[] }, { accessFlags := 25, nameIndex := 288, descriptorIndex := 25, attributes := #[] }, { accessFlags := 25, nameIndex := 290, descriptorIndex := 25, attributes := #[] }, { accessFlags := 25, nameIndex := 292, descriptorIndex := 25, attributes := #[] }, { accessFlags := 26, nameIndex := 108, descriptorIndex := 109, attributes := #[] }, { accessFlags := 25, nameIndex := 294, descriptorIndex := 25, attributes := #[] }])
  fields := #[{ name := "U", type := (.object "jdk/internal/misc/Unsafe"), accessFlags := 24, slot := 0, constantValue := 0 }, { name := "BIG_ENDIAN", type := .boolean, accessFlags := 26, slot := 1, constantValue := 0 }, { name := "LOG2_ARRAY_BOOLEAN_INDEX_SCALE", type := .int, accessFlags := 25, slot := 2, constantValue := 0 }, { name := "LOG2_ARRAY_BYTE_INDEX_SCALE", type := .int, accessFlags := 25, slot := 3, constantValue := 0 }, { name := "LOG2_ARRAY_CHAR_INDEX_SCALE", type := .int, accessFlags := 25, slot := 4, constantValue := 0 }, { name := "LOG2_ARRAY_SHORT_INDEX_SCALE", type := .int, accessFlags := 25, slot := 5, constantValue := 0 }, { name := "LOG2_ARRAY_INT_INDEX_SCALE", type := .int, accessFlags := 25, slot := 6, constantValue := 0 }, { name := "LOG2_ARRAY_LONG_INDEX_SCALE", type := .int, accessFlags := 25, slot := 7, constantValue := 0 }, { name := "LOG2_ARRAY_FLOAT_INDEX_SCALE", type := .int, accessFlags := 25, slot := 8, constantValue := 0 }, { name := "LOG2_ARRAY_DOUBLE_INDEX_SCALE", type := .int, accessFlags := 25, slot := 9, constantValue := 0 }, { name := "LOG2_BYTE_BIT_SIZE", type := .int, accessFlags := 26, slot := 10, constantValue := 0 }, { name := "T_BOOLEAN", type := .int, accessFlags := 25, slot := 11, constantValue := 0 }, { name := "T_CHAR", type := .int, accessFlags := 25, slot := 12, constantValue := 0 }, { name := "T_FLOAT", type := .int, accessFlags := 25, slot := 13, constantValue := 0 }, { name := "T_DOUBLE", type := .int, accessFlags := 25, slot := 14, constantValue := 0 }, { name := "T_BYTE", type := .int, accessFlags := 25, slot := 15, constantValue := 0 }, { name := "T_SHORT", type := .int, accessFlags := 25, slot := 16, constantValue := 0 }, { name := "T_INT", type := .int, accessFlags := 25, slot := 17, constantValue := 0 }, { name := "T_LONG", type := .int, accessFlags := 25, slot := 18, constantValue := 0 }, { name := "JLA", type := (.object "jdk/internal/access/JavaLangAccess"), accessFlags := 26, slot := 19, constantValue := 0 }, { name := "SOFT_MAX_ARRAY_LENGTH", type := .int, accessFlags := 25, slot := 20, constantValue := 0 }]
  methods := #[k13m0]
  instanceTypes := #[]
  staticTypes := #[(.object "jdk/internal/misc/Unsafe"), .boolean, .int, .int, .int, .int, .int, .int, .int, .int, .int, .int, .int, .int, .int, .int, .int, .int, .int, (.object "jdk/internal/access/JavaLangAccess"), .int]
  resolved := Array.replicate 378 none
  statics := none }

def pool14 : Array CpInfo := pool [(1, u "java/lang/Cloneable"), (0, .class_ 1), (0, u "java/lang/Object"), (0, .class_ 3)] 3

/-- java/lang/Cloneable -/
def k14 : Class := { plain "java/lang/Cloneable" (some 0) with
  accessFlags := 1537
  interfaces := #[]
  cf := some (fileOf pool14 2 #[] #[] 1537 4 #[] #[])
  fields := #[]
  methods := #[]
  instanceTypes := #[]
  staticTypes := #[]
  resolved := Array.replicate 8 none
  statics := none }

/-- the primitive byte -/
def k15 : Class := { plain "byte" none with kind := .primitive 'B', accessFlags := 0x411 }
/-- [B -/
def k16 : Class := { plain "[B" (some 0) with kind := .array 15 .byte, interfaces := #[14, 4], accessFlags := 1041 }

/-- the primitive char -/
def k17 : Class := { plain "char" none with kind := .primitive 'C', accessFlags := 0x411 }
/-- [C -/
def k18 : Class := { plain "[C" (some 0) with kind := .array 17 .char, interfaces := #[14, 4], accessFlags := 1041 }

/-- the primitive int -/
def k19 : Class := { plain "int" none with kind := .primitive 'I', accessFlags := 0x411 }
/-- [I -/
def k20 : Class := { plain "[I" (some 0) with kind := .array 19 .int, interfaces := #[14, 4], accessFlags := 1041 }

def heap : Heap := #[{ cls := 9, slots := #[.long 0, .int 1, .null, .int 0, .null, .int 0, .int 0], vm := .statics 9 },
  { cls := 12, slots := #[.null, .null, .null], vm := .statics 12 }]
def classes : Array Class := #[k0, k1, k2, k3, k4, k5, k6, k7, k8, k9, k10, k11, k12, k13, k14, k15, k16, k17, k18, k19, k20]
def interned : List (Array UInt16 × Addr) := []
def slotsUsed : Nat := 10
def theMethod : MethodId := ⟨1, 3⟩
def args0 : Array Value := #[.int 5, .int 5, .int 5, .int 5, .int 5, .int 5]
def aboutOver (below : List Frame) : State where
  vm := { classes := classes, interned := interned.toArray }
  heap := heap
  slotsUsed := slotsUsed
  threads := #[{ frames := .invoking theMethod args0 :: below }]
def below0 : List Frame := [.native { method := ⟨0, 0⟩, args := #[] }]
def about1 : State := aboutOver below0
def p0 : Program := .bare "" "" ""
def e0 : Env := launch0.env 0 0 0
theorem w_frames : about1.frames = Frame.invoking theMethod args0 :: below0 := rfl
set_option maxRecDepth 65536 in
theorem w_args : argsFit about1.vm theMethod args0 = true := by decide +kernel
set_option maxRecDepth 65536 in
theorem w_heap : heapFits about1 = true := by decide +kernel
set_option maxRecDepth 65536 in
theorem w_runnable : about1.curStatus? = some .runnable := by decide +kernel
set_option maxRecDepth 65536 in
theorem w_alone : about1.alone = true := by decide +kernel
set_option maxRecDepth 65536 in
theorem w_named : about1.methodNamed? x = some theMethod := by decide +kernel
set_option maxRecDepth 65536 in
theorem w_hears : about1.hears theMethod below0 = true := by decide +kernel
set_option maxRecDepth 65536 in
theorem w_ripe : about1.ripe theMethod args0 below0 = true := by decide +kernel
theorem w_running : about1.status = .running := rfl
set_option maxRecDepth 65536 in
theorem w_room : about1.hasRoom e0.platform room_1 = true :=
  launch0.hasRoom_least _ room_1 (by decide +kernel) (by decide +kernel) (by decide +kernel) (by decide +kernel) (by decide +kernel) (by decide +kernel)
theorem allAtoms_all (ts : List Jvm.Cond) (a : Array Jvm.Value) (st : Jvm.State) : (allAtoms ts).before a st = ts.all (fun c => c.before a st) := by
  induction ts with
  | nil => rfl
  | cons c t ih =>
    show (Jvm.Cond.and c (allAtoms t)).before a st = _
    rw [Jvm.Cond.before_and, ih, List.all_cons]
def words1 : List Jvm.Cond := Jvm.Cond.code x code maxLocals ret :: tables_1
/-- a 'code' word, met by the world's own term for the bytes: nothing is compared byte by byte -/
theorem code_word {y : MethodName} {bytes : ByteArray} {mx : Nat} {rt : Option FieldType} {a : Array Value} {s : State} {m : MethodId} {meth : Method} {c : Code} (h1 : s.methodNamed? y = some m) (h2 : s.vm.method? m = some meth) (h3 : meth.code = some c) (h4 : c.code = bytes)
    (h5 : (c.maxLocals == mx && c.exceptionTable.isEmpty && decide (c.maxStack ≤ mostOperands) && decide (meth.sig.returnType = rt) && !meth.locks && decide (parseMethodDescriptor y.desc = some meth.sig)) = true) : (Jvm.Cond.code y bytes mx rt).before a s = true := by
  simp only [Bool.and_eq_true, beq_iff_eq, Bool.not_eq_true', decide_eq_true_eq] at h5
  obtain ⟨⟨⟨⟨⟨g1, g2⟩, g3⟩, g4⟩, g5⟩, g6⟩ := h5
  simp [Cond.before, Cond.holds, Cond.value, h1, h2, h3, h4, g1, g2, g3, g4, g5, g6]
def isCode : Jvm.Cond → Bool
  | .code _ _ _ _ => true
  | _ => false
theorem all_split {L : List Jvm.Cond} {P : Jvm.Cond → Bool} (h1 : L.all (fun c => isCode c || P c) = true) (h2 : ∀ c ∈ L.filter isCode, P c = true) : L.all P = true := by
  refine List.all_eq_true.mpr fun c hc => ?_
  have h := List.all_eq_true.mp h1 c hc
  rcases Bool.eq_false_or_eq_true (isCode c) with hi | hi
  · exact h2 c (List.mem_filter.mpr ⟨hc, hi⟩)
  · simpa [hi] using h
set_option maxRecDepth 65536 in
theorem w_c0 : (Jvm.Cond.code x code maxLocals ret).before args0 about1 = true := code_word (m := ⟨1, 3⟩) (meth := k1m3) (c := k1c3) (by decide +kernel) rfl rfl rfl (by decide +kernel)
set_option maxRecDepth 65536 in
theorem w_c1 : (Jvm.Cond.code ({ cls := "java/lang/String", name := "<init>", desc := "([C)V" } : Jvm.MethodName) jdk_42_method_3_code (2 : Nat) (Option.none : Option Jvm.ClassFile.FieldType)).before args0 about1 = true := code_word (m := ⟨9, 1⟩) (meth := k9m1) (c := k9c1) (by decide +kernel) rfl rfl rfl (by decide +kernel)
set_option maxRecDepth 65536 in
theorem w_c2 : (Jvm.Cond.code ({ cls := "java/lang/String", name := "<init>", desc := "([CIILjava/lang/Void;)V" } : Jvm.MethodName) jdk_42_method_149_code (6 : Nat) (Option.none : Option Jvm.ClassFile.FieldType)).before args0 about1 = true := code_word (m := ⟨9, 3⟩) (meth := k9m3) (c := k9c3) (by decide +kernel) rfl rfl rfl (by decide +kernel)
set_option maxRecDepth 65536 in
theorem w_c3 : (Jvm.Cond.code ({ cls := "java/lang/Object", name := "<init>", desc := "()V" } : Jvm.MethodName) object_method_1_code (1 : Nat) (Option.none : Option Jvm.ClassFile.FieldType)).before args0 about1 = true := code_word (m := ⟨0, 0⟩) (meth := k0m0) (c := k0c0) (by decide +kernel) rfl rfl rfl (by decide +kernel)
set_option maxRecDepth 65536 in
theorem w_c4 : (Jvm.Cond.code ({ cls := "java/lang/StringUTF16", name := "compress", desc := "([CII)[B" } : Jvm.MethodName) jdk_52_method_16_code (6 : Nat) (Option.some (Jvm.ClassFile.FieldType.array Jvm.ClassFile.FieldType.byte))).before args0 about1 = true := code_word (m := ⟨10, 2⟩) (meth := k10m2) (c := k10c2) (by decide +kernel) rfl rfl rfl (by decide +kernel)
set_option maxRecDepth 65536 in
theorem w_c5 : (Jvm.Cond.code ({ cls := "java/lang/StringUTF16", name := "compress", desc := "([CI[BII)I" } : Jvm.MethodName) jdk_52_method_21_code (7 : Nat) (Option.some Jvm.ClassFile.FieldType.int)).before args0 about1 = true := code_word (m := ⟨10, 3⟩) (meth := k10m3) (c := k10c3) (by decide +kernel) rfl rfl rfl (by decide +kernel)
set_option maxRecDepth 65536 in
theorem w_c6 : (Jvm.Cond.code ({ cls := "java/lang/StringUTF16", name := "coderFromArrayLen", desc := "([BI)B" } : Jvm.MethodName) jdk_52_method_15_code (2 : Nat) (Option.some Jvm.ClassFile.FieldType.byte)).before args0 about1 = true := code_word (m := ⟨10, 1⟩) (meth := k10m1) (c := k10c1) (by decide +kernel) rfl rfl rfl (by decide +kernel)
set_option maxRecDepth 65536 in
theorem w_c7 : (Jvm.Cond.code ({ cls := "com/example/labwire/labwire/check/FieldPath", name := "<init>", desc := "(Ljava/lang/String;III)V" } : Jvm.MethodName) prog_43_method_1_code (5 : Nat) (Option.none : Option Jvm.ClassFile.FieldType)).before args0 about1 = true := code_word (m := ⟨3, 0⟩) (meth := k3m0) (c := k3c0) (by decide +kernel) rfl rfl rfl (by decide +kernel)
set_option maxRecDepth 65536 in
theorem w_c8 : (Jvm.Cond.code ({ cls := "java/lang/Record", name := "<init>", desc := "()V" } : Jvm.MethodName) jdk_30_method_1_code (1 : Nat) (Option.none : Option Jvm.ClassFile.FieldType)).before args0 about1 = true := code_word (m := ⟨2, 0⟩) (meth := k2m0) (c := k2c0) (by decide +kernel) rfl rfl rfl (by decide +kernel)
set_option maxRecDepth 65536 in
theorem w_c9 : (Jvm.Cond.code ({ cls := "com/example/labwire/labwire/check/FieldPathWithinPinLaw", name := "outerValue", desc := "(III)I" } : Jvm.MethodName) method_2_code (3 : Nat) (Option.some Jvm.ClassFile.FieldType.int)).before args0 about1 = true := code_word (m := ⟨1, 1⟩) (meth := k1m1) (c := k1c1) (by decide +kernel) rfl rfl rfl (by decide +kernel)
set_option maxRecDepth 65536 in
theorem w_c10 : (Jvm.Cond.code ({ cls := "com/example/labwire/labwire/check/FieldPathWithinPinLaw", name := "fine", desc := "(III)Z" } : Jvm.MethodName) method_3_code (3 : Nat) (Option.some Jvm.ClassFile.FieldType.boolean)).before args0 about1 = true := code_word (m := ⟨1, 2⟩) (meth := k1m2) (c := k1c2) (by decide +kernel) rfl rfl rfl (by decide +kernel)
set_option maxRecDepth 65536 in
theorem w_c11 : (Jvm.Cond.code ({ cls := "com/example/labwire/labwire/check/FieldPath", name := "within", desc := "(Lcom/example/labwire/labwire/check/FieldPath;)Z" } : Jvm.MethodName) prog_43_method_5_code (2 : Nat) (Option.some Jvm.ClassFile.FieldType.boolean)).before args0 about1 = true := code_word (m := ⟨3, 1⟩) (meth := k3m1) (c := k3c1) (by decide +kernel) rfl rfl rfl (by decide +kernel)
set_option maxRecDepth 65536 in
theorem w_c12 : (Jvm.Cond.code ({ cls := "java/lang/String", name := "equals", desc := "(Ljava/lang/Object;)Z" } : Jvm.MethodName) jdk_42_method_66_code (3 : Nat) (Option.some Jvm.ClassFile.FieldType.boolean)).before args0 about1 = true := code_word (m := ⟨9, 2⟩) (meth := k9m2) (c := k9c2) (by decide +kernel) rfl rfl rfl (by decide +kernel)
set_option maxRecDepth 65536 in
theorem w_c13 : (Jvm.Cond.code ({ cls := "java/lang/StringLatin1", name := "equals", desc := "([B[B)Z" } : Jvm.MethodName) jdk_43_method_13_code (3 : Nat) (Option.some Jvm.ClassFile.FieldType.boolean)).before args0 about1 = true := code_word (m := ⟨11, 1⟩) (meth := k11m1) (c := k11c1) (by decide +kernel) rfl rfl rfl (by decide +kernel)
def codes1 : List Jvm.Cond := [Jvm.Cond.code x code maxLocals ret, Jvm.Cond.code ({ cls := "java/lang/String", name := "<init>", desc := "([C)V" } : Jvm.MethodName) jdk_42_method_3_code (2 : Nat) (Option.none : Option Jvm.ClassFile.FieldType), Jvm.Cond.code ({ cls := "java/lang/String", name := "<init>", desc := "([CIILjava/lang/Void;)V" } : Jvm.MethodName) jdk_42_method_149_code (6 : Nat) (Option.none : Option Jvm.ClassFile.FieldType), Jvm.Cond.code ({ cls := "java/lang/Object", name := "<init>", desc := "()V" } : Jvm.MethodName) object_method_1_code (1 : Nat) (Option.none : Option Jvm.ClassFile.FieldType), Jvm.Cond.code ({ cls := "java/lang/StringUTF16", name := "compress", desc := "([CII)[B" } : Jvm.MethodName) jdk_52_method_16_code (6 : Nat) (Option.some (Jvm.ClassFile.FieldType.array Jvm.ClassFile.FieldType.byte)), Jvm.Cond.code ({ cls := "java/lang/StringUTF16", name := "compress", desc := "([CI[BII)I" } : Jvm.MethodName) jdk_52_method_21_code (7 : Nat) (Option.some Jvm.ClassFile.FieldType.int), Jvm.Cond.code ({ cls := "java/lang/StringUTF16", name := "coderFromArrayLen", desc := "([BI)B" } : Jvm.MethodName) jdk_52_method_15_code (2 : Nat) (Option.some Jvm.ClassFile.FieldType.byte), Jvm.Cond.code ({ cls := "com/example/labwire/labwire/check/FieldPath", name := "<init>", desc := "(Ljava/lang/String;III)V" } : Jvm.MethodName) prog_43_method_1_code (5 : Nat) (Option.none : Option Jvm.ClassFile.FieldType), Jvm.Cond.code ({ cls := "java/lang/Record", name := "<init>", desc := "()V" } : Jvm.MethodName) jdk_30_method_1_code (1 : Nat) (Option.none : Option Jvm.ClassFile.FieldType), Jvm.Cond.code ({ cls := "com/example/labwire/labwire/check/FieldPathWithinPinLaw", name := "outerValue", desc := "(III)I" } : Jvm.MethodName) method_2_code (3 : Nat) (Option.some Jvm.ClassFile.FieldType.int), Jvm.Cond.code ({ cls := "com/example/labwire/labwire/check/FieldPathWithinPinLaw", name := "fine", desc := "(III)Z" } : Jvm.MethodName) method_3_code (3 : Nat) (Option.some Jvm.ClassFile.FieldType.boolean), Jvm.Cond.code ({ cls := "com/example/labwire/labwire/check/FieldPath", name := "within", desc := "(Lcom/example/labwire/labwire/check/FieldPath;)Z" } : Jvm.MethodName) prog_43_method_5_code (2 : Nat) (Option.some Jvm.ClassFile.FieldType.boolean), Jvm.Cond.code ({ cls := "java/lang/String", name := "equals", desc := "(Ljava/lang/Object;)Z" } : Jvm.MethodName) jdk_42_method_66_code (3 : Nat) (Option.some Jvm.ClassFile.FieldType.boolean), Jvm.Cond.code ({ cls := "java/lang/StringLatin1", name := "equals", desc := "([B[B)Z" } : Jvm.MethodName) jdk_43_method_13_code (3 : Nat) (Option.some Jvm.ClassFile.FieldType.boolean)]
set_option maxRecDepth 65536 in
theorem codes_eq : words1.filter isCode = codes1 := rfl
theorem w_codes : ∀ c ∈ words1.filter isCode, c.before args0 about1 = true := by
  rw [codes_eq]
  intro c hc
  simp only [codes1, List.mem_cons, List.not_mem_nil, or_false] at hc
  rcases hc with rfl | rfl | rfl | rfl | rfl | rfl | rfl | rfl | rfl | rfl | rfl | rfl | rfl | rfl
  · exact w_c0
  · exact w_c1
  · exact w_c2
  · exact w_c3
  · exact w_c4
  · exact w_c5
  · exact w_c6
  · exact w_c7
  · exact w_c8
  · exact w_c9
  · exact w_c10
  · exact w_c11
  · exact w_c12
  · exact w_c13
set_option maxRecDepth 65536 in
theorem w_t1 : (words1.take 24).all (fun c => isCode c || c.before args0 about1) = true := by decide +kernel
set_option maxRecDepth 65536 in
theorem w_t2 : ((words1.drop 24).take 24).all (fun c => isCode c || c.before args0 about1) = true := by decide +kernel
set_option maxRecDepth 65536 in
theorem w_t3 : (((words1.drop 24).drop 24).take 24).all (fun c => isCode c || c.before args0 about1) = true := by decide +kernel
set_option maxRecDepth 65536 in
theorem w_t4 : (((words1.drop 24).drop 24).drop 24).all (fun c => isCode c || c.before args0 about1) = true := by decide +kernel
theorem w_tables : (allAtoms (Jvm.Cond.code x code maxLocals ret :: tables_1)).before args0 about1 = true := by
  rw [allAtoms_all]
  show words1.all (fun c => c.before args0 about1) = true
  refine all_split ?_ w_codes
  rw [← List.take_append_drop 24 words1, List.all_append, w_t1, ← List.take_append_drop 24 (words1.drop 24), List.all_append, w_t2, ← List.take_append_drop 24 ((words1.drop 24).drop 24), List.all_append, w_t3, w_t4]
  rfl
set_option maxRecDepth 65536 in
theorem w_rest : rest_1_c.before args0 about1 = true := by decide +kernel
set_option maxRecDepth 65536 in
theorem w_case : (Jvm.Cond.and given_1 narrow_1).before args0 about1 = true := by decide +kernel
theorem w_applies : (headSpec (Jvm.Cond.code x code maxLocals ret :: tables_1) room_1).applies x e0.platform about1 = true :=
  (Spec.applies_iff w_frames).mpr ⟨w_running, w_runnable, w_alone, w_named, w_hears, w_ripe, w_room, w_tables⟩
theorem atStart : AtStart classFile x code maxLocals ret World_1 tables_1 room_1 Calls_1 rest_1 Pre_1 launch0 p0 e0 about1 theMethod args0 below0 :=
  ⟨lists_1, trivial, launch0.admits_env _ _ _, launch0.least_env, fairChoices_fair.cas, fairChoices_fair.clock, w_frames, w_args, w_heap, w_applies, trivial, w_rest, w_case⟩
end start1
theorem witness_1 : WitnessClaimed_1 := ⟨start1.p0, start1.e0, start1.about1, start1.theMethod, start1.args0, start1.below0, start1.atStart⟩
end Jvm.Pilot.@@N@@
