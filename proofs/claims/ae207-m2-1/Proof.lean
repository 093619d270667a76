import JvmDerived
import JvmDerived.Pilot.@@N@@Statement
import JvmDerived.Pilot.@@N@@Code
set_option linter.unusedVariables false
set_option linter.unusedSimpArgs false
namespace Jvm.WK
open Jvm Sem ClassFile Op Lib Jvm.Free Jvm.Stand Jvm.LawKit Jvm.RoadKit
/-- the fixed surroundings of a walk: program, launch, environment, first state, method, arguments, frames below, method record, code record -/
abbrev Cx := Program × Launch × Env × State × MethodId × Array Value × List Frame × Method × Code
/-- FROM HERE THE BODY RUNS TO ITS RETURN, AND WHAT IT LEAVES MEETS Q: h the heap here, pc, Ls, st the top frame; cl, sl: what was made so far; only cells from n0 on are written. -/
def WPG (C : Cx) (Z : State) (code : ByteArray) (ml : Nat) (own : String) (rt : Option FieldType) (nm : String) (R : Room) (n0 : Nat) (G : State → Option Value → List Loc → Prop) (cl sl : Nat) (h : Heap) (pc : Nat) (Ls : Array Slot) (st : List Value) : Prop :=
  C.1.tables.exec = Jvm.exec → C.2.2.2.2.2.2.2.2.code = code → C.2.2.2.2.2.2.2.2.maxLocals = ml → C.2.2.2.1.vm.findClass own = some C.2.2.2.2.1.cls → Z.Warmed39 C.2.2.2.1.vm → C.2.2.2.2.2.2.2.1.sig.returnType = rt → C.2.2.2.2.2.2.2.1.locks = false → C.2.2.2.2.2.2.2.1.name = nm →
  ∀ (T : State) (locs : List Loc), Stand C.1 C.2.1 C.2.2.1 R C.2.2.2.1 C.2.2.2.2.1 C.2.2.2.2.2.1 C.2.2.2.2.2.2.1 C.2.2.2.2.2.2.2.1 C.2.2.2.2.2.2.2.2 T locs cl sl → T.heap = h → Fr n0 locs →
    ∃ (s₂ : State) (v : Option Value) (L : List Loc), Steps C.1.tables C.2.2.1 C.2.2.2.2.2.2.1 (T.setTop (mkF C.2.2.2.2.1 pc Ls st)) s₂ ∧ s₂.status = .running ∧ Ended s₂ C.2.2.2.2.2.2.1 (.returned v) ∧ G s₂ v L
/-- the plain end: Q of what it leaves; the tables warmer, the frame kept -/
abbrev EndF (C : Cx) (R : Room) (n0 : Nat) (Q : Option Value → Heap → Prop) : State → Option Value → List Loc → Prop := fun s₂ v L => Q v s₂.heap ∧ Fr n0 L ∧ FrameEnd C.2.2.2.1 (.returned v) s₂ L R.cells R.slots
abbrev WP (C : Cx) (Z : State) (code : ByteArray) (ml : Nat) (own : String) (rt : Option FieldType) (nm : String) (R : Room) (n0 : Nat) (Q : Option Value → Heap → Prop) (cl sl : Nat) (h : Heap) (pc : Nat) (Ls : Array Slot) (st : List Value) : Prop :=
  WPG C Z code ml own rt nm R n0 (EndF C R n0 Q) cl sl h pc Ls st
/-- WHAT A METHOD DOES FROM THE HEAP h0 WITH THE ARGUMENTS a -/
def Does (l : Launch) (Z : State) (y : MethodName) (code : ByteArray) (ml : Nat) (rt : Option FieldType) (R : Room) (n0 : Nat) (as' : Array Value) (h0 : Heap) (Q : Option Value → Heap → Prop) : Prop :=
  ∀ ws : List Jvm.Cond, MetFree l y (head1 (Jvm.Cond.code y code ml rt :: ws) R) (fun a U => a = as' ∧ Z.Warmed39 U.vm ∧ U.heap = h0) (fun _ _ _ _ _ => True)
    (fun _ U o U' => ∃ v L, o = .returned v ∧ (Q v U'.heap ∧ Fr n0 L) ∧ FrameEnd U o U' L R.cells R.slots)
theorem Does.of_wp {l : Launch} {Z : State} {y : MethodName} {code : ByteArray} {ml : Nat} {rt : Option FieldType} {R : Room} {n0 : Nat} {as' : Array Value} {h0 : Heap} {Q : Option Value → Heap → Prop} (hpl : plainFor y = true) {Ls : Array Slot} (hef : ∀ m, entryFrame m as' ml = mkF m 0 Ls [])
    (hW : ∀ C : Cx, WP C Z code ml y.cls rt y.name R n0 Q 0 0 h0 0 Ls []) : Does l Z y code ml rt R n0 as' h0 Q := by
  intro ws
  refine MetFree.of_bodySF hpl hisR ?_
  intro p e s m args below meth c s₁ Bd hml0 hP hK
  obtain ⟨rfl, hZ, hh⟩ := hP
  have X0 : Stand p l e R s m args below meth c s₁ [] 0 0 := Stand.of_body Bd
  have e0 : s₁.heap = h0 := by rw [← hh, Bd.state]; rfl
  obtain ⟨s₂, v, L, h1, h2, h3, h4, h5, h6⟩ := hW (p, l, e, s, m, args, below, meth, c) Bd.exec Bd.bytes hml0 (findClass_of_methodNamed Bd.named) hZ Bd.returns Bd.notSynchronized (name_of_methodNamed Bd.named Bd.method).1 s₁ [] X0 e0 (Fr.nil n0)
  exact ⟨s₂, _, castTop (hef m) h1, h2, h3, v, L, rfl, ⟨h4, h5⟩, h6⟩
section Rules
variable {C : Cx} {Z : State} {code : ByteArray} {ml : Nat} {own : String} {rt : Option FieldType} {nm : String} {R : Room} {n0 : Nat} {Q : Option Value → Heap → Prop} {G : State → Option Value → List Loc → Prop} {cl sl : Nat} {h : Heap} {pc pc' : Nat} {Ls Ls' : Array Slot} {st st' : List Value} {a0 : Array Value}
theorem WPG.step {cl' sl' : Nat} {h' : Heap} (f : ∀ {p : Program} {l : Launch} {e : Env} {s : State} {m : MethodId} {args : Array Value} {below : List Frame} {meth : Method} {c : Code} {T : State} {locs : List Loc}, Stand p l e R s m args below meth c T locs cl sl → p.tables.exec = Jvm.exec → c.code = code → c.maxLocals = ml → s.vm.findClass own = some m.cls → Z.Warmed39 s.vm → meth.name = nm → T.heap = h → Fr n0 locs →
      ∃ T' locs', Stand p l e R s m args below meth c T' locs' cl' sl' ∧ T'.heap = h' ∧ Fr n0 locs' ∧ ∀ t, Steps p.tables e below (T'.setTop (mkF m pc' Ls' st')) t → Steps p.tables e below (T.setTop (mkF m pc Ls st)) t)
    (hr : WPG C Z code ml own rt nm R n0 G cl' sl' h' pc' Ls' st') : WPG C Z code ml own rt nm R n0 G cl sl h pc Ls st := by
  intro k1 k2 k3 k4 k5 k6 k7 k8 T locs X e N
  obtain ⟨T', locs', X', e', N', k⟩ := f X k1 k2 k3 k4 k5 k8 e N
  obtain ⟨s₂, v, L, h1, h2⟩ := hr k1 k2 k3 k4 k5 k6 k7 k8 T' locs' X' e' N'
  exact ⟨s₂, v, L, k _ h1, h2⟩
theorem WPG.pure (f : ∀ {p : Program} {l : Launch} {e : Env} {s : State} {m : MethodId} {args : Array Value} {below : List Frame} {meth : Method} {c : Code} {T : State} {locs : List Loc}, Stand p l e R s m args below meth c T locs cl sl → p.tables.exec = Jvm.exec → c.code = code → s.vm.findClass own = some m.cls → Z.Warmed39 s.vm → T.heap = h →
      ∀ t, Steps p.tables e below (T.setTop (mkF m pc' Ls' st')) t → Steps p.tables e below (T.setTop (mkF m pc Ls st)) t)
    (hr : WPG C Z code ml own rt nm R n0 G cl sl h pc' Ls' st') : WPG C Z code ml own rt nm R n0 G cl sl h pc Ls st :=
  WPG.step (fun X hx hc _ ho hZ _ e N => ⟨_, _, X, e, N, f X hx hc ho hZ e⟩) hr
/-- the heap's name may be turned -/
theorem WP.cast {h' : Heap} (e : h = h') (hr : WPG C Z code ml own rt nm R n0 G cl sl h' pc Ls st) : WPG C Z code ml own rt nm R n0 G cl sl h pc Ls st := e ▸ hr
theorem WP.castS (e : st = st') (hr : WPG C Z code ml own rt nm R n0 G cl sl h pc Ls st') : WPG C Z code ml own rt nm R n0 G cl sl h pc Ls st := e ▸ hr
theorem WP.castL (e : Ls = Ls') (hr : WPG C Z code ml own rt nm R n0 G cl sl h pc Ls' st) : WPG C Z code ml own rt nm R n0 G cl sl h pc Ls st := e ▸ hr
theorem WP.more {cl' sl' : Nat} (h1 : cl ≤ cl') (h2 : sl ≤ sl') (hr : WPG C Z code ml own rt nm R n0 G cl' sl' h pc Ls st) : WPG C Z code ml own rt nm R n0 G cl sl h pc Ls st := by
  intro k1 k2 k3 k4 k5 k6 k7 k8 T locs X e N
  exact hr k1 k2 k3 k4 k5 k6 k7 k8 T locs ⟨X.admits, X.cas, X.clock, X.frames, X.room, X.hears, X.method, X.code, X.here, X.tail, X.warmed, X.limits, X.bytes, X.same.mono h1 h2⟩ e N
theorem WP.iloadN {k : Fin 4} {v : Int32} (hd : decode code pc = .ok (.iload_n k, 1)) (hp : pc + 1 = pc') (hl : Ls[k.val]? = some (.val (.int v))) (hr : WPG C Z code ml own rt nm R n0 G cl sl h pc' Ls (.int v :: st)) : WPG C Z code ml own rt nm R n0 G cl sl h pc Ls st := by
  subst hp
  exact hr.pure fun X hx hby hown hZ eT t q => XS.iloadN X.here hx rfl (hb hby hd) hl q
theorem WP.iload {k : Nat} {v : Int32} (hd : decode code pc = .ok (.iload k, 2)) (hp : pc + 2 = pc') (hl : Ls[k]? = some (.val (.int v))) (hr : WPG C Z code ml own rt nm R n0 G cl sl h pc' Ls (.int v :: st)) : WPG C Z code ml own rt nm R n0 G cl sl h pc Ls st := by
  subst hp
  exact hr.pure fun X hx hby hown hZ eT t q => XS.iload X.here hx rfl (hb hby hd) hl q
theorem WP.lloadN {k : Fin 4} {v : Int64} (hd : decode code pc = .ok (.lload_n k, 1)) (hp : pc + 1 = pc') (hl : Ls[k.val]? = some (.val (.long v))) (hr : WPG C Z code ml own rt nm R n0 G cl sl h pc' Ls (.long v :: st)) : WPG C Z code ml own rt nm R n0 G cl sl h pc Ls st := by
  subst hp
  exact hr.pure fun X hx hby hown hZ eT t q => XS.lloadN X.here hx rfl (hb hby hd) hl q
theorem WP.lload {k : Nat} {v : Int64} (hd : decode code pc = .ok (.lload k, 2)) (hp : pc + 2 = pc') (hl : Ls[k]? = some (.val (.long v))) (hr : WPG C Z code ml own rt nm R n0 G cl sl h pc' Ls (.long v :: st)) : WPG C Z code ml own rt nm R n0 G cl sl h pc Ls st := by
  subst hp
  exact hr.pure fun X hx hby hown hZ eT t q => XS.lload X.here hx rfl (hb hby hd) hl q
theorem WP.dloadN {k : Fin 4} {v : UInt64} (hd : decode code pc = .ok (.dload_n k, 1)) (hp : pc + 1 = pc') (hl : Ls[k.val]? = some (.val (.double v))) (hr : WPG C Z code ml own rt nm R n0 G cl sl h pc' Ls (.double v :: st)) : WPG C Z code ml own rt nm R n0 G cl sl h pc Ls st := by
  subst hp
  exact hr.pure fun X hx hby hown hZ eT t q => XS.dloadN X.here hx rfl (hb hby hd) hl q
theorem WP.dload {k : Nat} {v : UInt64} (hd : decode code pc = .ok (.dload k, 2)) (hp : pc + 2 = pc') (hl : Ls[k]? = some (.val (.double v))) (hr : WPG C Z code ml own rt nm R n0 G cl sl h pc' Ls (.double v :: st)) : WPG C Z code ml own rt nm R n0 G cl sl h pc Ls st := by
  subst hp
  exact hr.pure fun X hx hby hown hZ eT t q => XS.dload X.here hx rfl (hb hby hd) hl q
theorem WP.aloadN {k : Fin 4} {v : Value} (hd : decode code pc = .ok (.aload_n k, 1)) (hp : pc + 1 = pc') (hl : Ls[k.val]? = some (.val v)) (hv : v.isRef = true) (hr : WPG C Z code ml own rt nm R n0 G cl sl h pc' Ls (v :: st)) : WPG C Z code ml own rt nm R n0 G cl sl h pc Ls st := by
  subst hp
  exact hr.pure fun X hx hby hown hZ eT t q => XS.aloadN X.here hx rfl (hb hby hd) hl hv q
theorem WP.aload {k : Nat} {v : Value} (hd : decode code pc = .ok (.aload k, 2)) (hp : pc + 2 = pc') (hl : Ls[k]? = some (.val v)) (hv : v.isRef = true) (hr : WPG C Z code ml own rt nm R n0 G cl sl h pc' Ls (v :: st)) : WPG C Z code ml own rt nm R n0 G cl sl h pc Ls st := by
  subst hp
  exact hr.pure fun X hx hby hown hZ eT t q => XS.aload X.here hx rfl (hb hby hd) hl hv q
theorem WP.istoreN {k : Fin 4} {v : Int32} (hd : decode code pc = .ok (.istore_n k, 1)) (hp : pc + 1 = pc') (hl : storeLocals Ls k.val (.int v) = some Ls') (hr : WPG C Z code ml own rt nm R n0 G cl sl h pc' Ls' st) : WPG C Z code ml own rt nm R n0 G cl sl h pc Ls (.int v :: st) := by
  subst hp
  exact hr.pure fun X hx hby hown hZ eT t q => XS.istoreN X.here hx rfl (hb hby hd) rfl hl q
theorem WP.istore {k : Nat} {v : Int32} (hd : decode code pc = .ok (.istore k, 2)) (hp : pc + 2 = pc') (hl : storeLocals Ls k (.int v) = some Ls') (hr : WPG C Z code ml own rt nm R n0 G cl sl h pc' Ls' st) : WPG C Z code ml own rt nm R n0 G cl sl h pc Ls (.int v :: st) := by
  subst hp
  exact hr.pure fun X hx hby hown hZ eT t q => XS.istore X.here hx rfl (hb hby hd) rfl hl q
theorem WP.lstoreN {k : Fin 4} {v : Int64} (hd : decode code pc = .ok (.lstore_n k, 1)) (hp : pc + 1 = pc') (hl : storeLocals Ls k.val (.long v) = some Ls') (hr : WPG C Z code ml own rt nm R n0 G cl sl h pc' Ls' st) : WPG C Z code ml own rt nm R n0 G cl sl h pc Ls (.long v :: st) := by
  subst hp
  exact hr.pure fun X hx hby hown hZ eT t q => XS.lstoreN X.here hx rfl (hb hby hd) rfl hl q
theorem WP.lstore {k : Nat} {v : Int64} (hd : decode code pc = .ok (.lstore k, 2)) (hp : pc + 2 = pc') (hl : storeLocals Ls k (.long v) = some Ls') (hr : WPG C Z code ml own rt nm R n0 G cl sl h pc' Ls' st) : WPG C Z code ml own rt nm R n0 G cl sl h pc Ls (.long v :: st) := by
  subst hp
  exact hr.pure fun X hx hby hown hZ eT t q => XS.lstore X.here hx rfl (hb hby hd) rfl hl q
theorem WP.dstoreN {k : Fin 4} {v : UInt64} (hd : decode code pc = .ok (.dstore_n k, 1)) (hp : pc + 1 = pc') (hl : storeLocals Ls k.val (.double v) = some Ls') (hr : WPG C Z code ml own rt nm R n0 G cl sl h pc' Ls' st) : WPG C Z code ml own rt nm R n0 G cl sl h pc Ls (.double v :: st) := by
  subst hp
  exact hr.pure fun X hx hby hown hZ eT t q => XS.dstoreN X.here hx rfl (hb hby hd) rfl hl q
theorem WP.dstore {k : Nat} {v : UInt64} (hd : decode code pc = .ok (.dstore k, 2)) (hp : pc + 2 = pc') (hl : storeLocals Ls k (.double v) = some Ls') (hr : WPG C Z code ml own rt nm R n0 G cl sl h pc' Ls' st) : WPG C Z code ml own rt nm R n0 G cl sl h pc Ls (.double v :: st) := by
  subst hp
  exact hr.pure fun X hx hby hown hZ eT t q => XS.dstore X.here hx rfl (hb hby hd) rfl hl q
theorem WP.astoreN {k : Fin 4} {v : Value} (hd : decode code pc = .ok (.astore_n k, 1)) (hp : pc + 1 = pc') (hv : v.isRef = true) (hl : storeLocals Ls k.val v = some Ls') (hr : WPG C Z code ml own rt nm R n0 G cl sl h pc' Ls' st) : WPG C Z code ml own rt nm R n0 G cl sl h pc Ls (v :: st) := by
  subst hp
  exact hr.pure fun X hx hby hown hZ eT t q => XS.astoreN X.here hx rfl (hb hby hd) rfl hv hl q
theorem WP.astore {k : Nat} {v : Value} (hd : decode code pc = .ok (.astore k, 2)) (hp : pc + 2 = pc') (hv : v.isRef = true) (hl : storeLocals Ls k v = some Ls') (hr : WPG C Z code ml own rt nm R n0 G cl sl h pc' Ls' st) : WPG C Z code ml own rt nm R n0 G cl sl h pc Ls (v :: st) := by
  subst hp
  exact hr.pure fun X hx hby hown hZ eT t q => XS.astore X.here hx rfl (hb hby hd) rfl hv hl q
theorem WP.iconst {i : Int} {z : Int32} (hd : decode code pc = .ok (.iconst i, 1)) (hp : pc + 1 = pc') (hz : Int32.ofInt i = z) (hr : WPG C Z code ml own rt nm R n0 G cl sl h pc' Ls (.int z :: st)) : WPG C Z code ml own rt nm R n0 G cl sl h pc Ls st := by
  subst hp
  subst hz
  exact hr.pure fun X hx hby hown hZ eT t q => XS.iconst X.here hx rfl (hb hby hd) q
theorem WP.bipush {i : Int} {z : Int32} (hd : decode code pc = .ok (.bipush i, 2)) (hp : pc + 2 = pc') (hz : (Int8.ofInt i).toInt32 = z) (hr : WPG C Z code ml own rt nm R n0 G cl sl h pc' Ls (.int z :: st)) : WPG C Z code ml own rt nm R n0 G cl sl h pc Ls st := by
  subst hp
  subst hz
  exact hr.pure fun X hx hby hown hZ eT t q => XS.bipush X.here hx rfl (hb hby hd) q
theorem WP.sipush {i : Int} {z : Int32} (hd : decode code pc = .ok (.sipush i, 3)) (hp : pc + 3 = pc') (hz : (Int16.ofInt i).toInt32 = z) (hr : WPG C Z code ml own rt nm R n0 G cl sl h pc' Ls (.int z :: st)) : WPG C Z code ml own rt nm R n0 G cl sl h pc Ls st := by
  subst hp
  subst hz
  exact hr.pure fun X hx hby hown hZ eT t q => XS.sipush X.here hx rfl (hb hby hd) q
theorem WP.lconst {k : Fin 2} {z : Int64} (hd : decode code pc = .ok (.lconst k, 1)) (hp : pc + 1 = pc') (hz : Int64.ofNat k = z) (hr : WPG C Z code ml own rt nm R n0 G cl sl h pc' Ls (.long z :: st)) : WPG C Z code ml own rt nm R n0 G cl sl h pc Ls st := by
  subst hp
  subst hz
  exact hr.pure fun X hx hby hown hZ eT t q => XS.lconst X.here hx rfl (hb hby hd) q
theorem WP.aconstNull  (hd : decode code pc = .ok (.aconst_null, 1)) (hp : pc + 1 = pc') (hr : WPG C Z code ml own rt nm R n0 G cl sl h pc' Ls (.null :: st)) : WPG C Z code ml own rt nm R n0 G cl sl h pc Ls st := by
  subst hp
  exact hr.pure fun X hx hby hown hZ eT t q => XS.aconstNull X.here hx rfl (hb hby hd) q
theorem WP.ldcI {i : Nat} {v : Int32} (hd : decode code pc = .ok (.ldc i, 2)) (hp : pc + 2 = pc') (w : (Jvm.Cond.constant own i v).before a0 Z = true) (hr : WPG C Z code ml own rt nm R n0 G cl sl h pc' Ls (.int v :: st)) : WPG C Z code ml own rt nm R n0 G cl sl h pc Ls st := by
  subst hp
  exact hr.pure fun X hx hby hown hZ eT t q => X.ldcInt hx hown (mvT hZ w) (g := mkF _ pc Ls st) rfl (hb hby hd) t q
theorem WP.ldcWI {i : Nat} {v : Int32} (hd : decode code pc = .ok (.ldc_w i, 3)) (hp : pc + 3 = pc') (w : (Jvm.Cond.constant own i v).before a0 Z = true) (hr : WPG C Z code ml own rt nm R n0 G cl sl h pc' Ls (.int v :: st)) : WPG C Z code ml own rt nm R n0 G cl sl h pc Ls st := by
  subst hp
  exact hr.pure fun X hx hby hown hZ eT t q => X.ldcWInt hx hown (mvT hZ w) (g := mkF _ pc Ls st) rfl (hb hby hd) t q
theorem WP.ldc2J {i : Nat} {v : Int64} (hd : decode code pc = .ok (.ldc2_w i, 3)) (hp : pc + 3 = pc') (w : (Jvm.Cond.constantLong own i v).before a0 Z = true) (hr : WPG C Z code ml own rt nm R n0 G cl sl h pc' Ls (.long v :: st)) : WPG C Z code ml own rt nm R n0 G cl sl h pc Ls st := by
  subst hp
  exact hr.pure fun X hx hby hown hZ eT t q => X.ldc2Long hx hown (mvT hZ w) (g := mkF _ pc Ls st) rfl (hb hby hd) t q
theorem WP.iadd {x y : Int32} (hd : decode code pc = .ok (.iadd, 1)) (hp : pc + 1 = pc') (hr : WPG C Z code ml own rt nm R n0 G cl sl h pc' Ls (.int (x + y) :: st)) : WPG C Z code ml own rt nm R n0 G cl sl h pc Ls (.int y :: .int x :: st) := by
  subst hp
  exact hr.pure fun X hx hby hown hZ eT t q => XS.iadd X.here hx rfl (hb hby hd) rfl q
theorem WP.isub {x y : Int32} (hd : decode code pc = .ok (.isub, 1)) (hp : pc + 1 = pc') (hr : WPG C Z code ml own rt nm R n0 G cl sl h pc' Ls (.int (x - y) :: st)) : WPG C Z code ml own rt nm R n0 G cl sl h pc Ls (.int y :: .int x :: st) := by
  subst hp
  exact hr.pure fun X hx hby hown hZ eT t q => XS.isub X.here hx rfl (hb hby hd) rfl q
theorem WP.imul {x y : Int32} (hd : decode code pc = .ok (.imul, 1)) (hp : pc + 1 = pc') (hr : WPG C Z code ml own rt nm R n0 G cl sl h pc' Ls (.int (x * y) :: st)) : WPG C Z code ml own rt nm R n0 G cl sl h pc Ls (.int y :: .int x :: st) := by
  subst hp
  exact hr.pure fun X hx hby hown hZ eT t q => XS.imul X.here hx rfl (hb hby hd) rfl q
theorem WP.iand {x y : Int32} (hd : decode code pc = .ok (.iand, 1)) (hp : pc + 1 = pc') (hr : WPG C Z code ml own rt nm R n0 G cl sl h pc' Ls (.int (x &&& y) :: st)) : WPG C Z code ml own rt nm R n0 G cl sl h pc Ls (.int y :: .int x :: st) := by
  subst hp
  exact hr.pure fun X hx hby hown hZ eT t q => XS.iand X.here hx rfl (hb hby hd) rfl q
theorem WP.ior {x y : Int32} (hd : decode code pc = .ok (.ior, 1)) (hp : pc + 1 = pc') (hr : WPG C Z code ml own rt nm R n0 G cl sl h pc' Ls (.int (x ||| y) :: st)) : WPG C Z code ml own rt nm R n0 G cl sl h pc Ls (.int y :: .int x :: st) := by
  subst hp
  exact hr.pure fun X hx hby hown hZ eT t q => XS.ior X.here hx rfl (hb hby hd) rfl q
theorem WP.ixor {x y : Int32} (hd : decode code pc = .ok (.ixor, 1)) (hp : pc + 1 = pc') (hr : WPG C Z code ml own rt nm R n0 G cl sl h pc' Ls (.int (x ^^^ y) :: st)) : WPG C Z code ml own rt nm R n0 G cl sl h pc Ls (.int y :: .int x :: st) := by
  subst hp
  exact hr.pure fun X hx hby hown hZ eT t q => XS.ixor X.here hx rfl (hb hby hd) rfl q
theorem WP.ishl {x y : Int32} (hd : decode code pc = .ok (.ishl, 1)) (hp : pc + 1 = pc') (hr : WPG C Z code ml own rt nm R n0 G cl sl h pc' Ls (.int (x <<< (y &&& 31)) :: st)) : WPG C Z code ml own rt nm R n0 G cl sl h pc Ls (.int y :: .int x :: st) := by
  subst hp
  exact hr.pure fun X hx hby hown hZ eT t q => XS.ishl X.here hx rfl (hb hby hd) rfl q
theorem WP.ishr {x y : Int32} (hd : decode code pc = .ok (.ishr, 1)) (hp : pc + 1 = pc') (hr : WPG C Z code ml own rt nm R n0 G cl sl h pc' Ls (.int (x >>> (y &&& 31)) :: st)) : WPG C Z code ml own rt nm R n0 G cl sl h pc Ls (.int y :: .int x :: st) := by
  subst hp
  exact hr.pure fun X hx hby hown hZ eT t q => XS.ishr X.here hx rfl (hb hby hd) rfl q
theorem WP.iushr {x y : Int32} (hd : decode code pc = .ok (.iushr, 1)) (hp : pc + 1 = pc') (hr : WPG C Z code ml own rt nm R n0 G cl sl h pc' Ls (.int ((x.toUInt32 >>> (y &&& 31).toUInt32).toInt32) :: st)) : WPG C Z code ml own rt nm R n0 G cl sl h pc Ls (.int y :: .int x :: st) := by
  subst hp
  exact hr.pure fun X hx hby hown hZ eT t q => XS.iushr X.here hx rfl (hb hby hd) rfl q
theorem WP.ladd {x y : Int64} (hd : decode code pc = .ok (.ladd, 1)) (hp : pc + 1 = pc') (hr : WPG C Z code ml own rt nm R n0 G cl sl h pc' Ls (.long (x + y) :: st)) : WPG C Z code ml own rt nm R n0 G cl sl h pc Ls (.long y :: .long x :: st) := by
  subst hp
  exact hr.pure fun X hx hby hown hZ eT t q => XS.ladd X.here hx rfl (hb hby hd) rfl q
theorem WP.lsub {x y : Int64} (hd : decode code pc = .ok (.lsub, 1)) (hp : pc + 1 = pc') (hr : WPG C Z code ml own rt nm R n0 G cl sl h pc' Ls (.long (x - y) :: st)) : WPG C Z code ml own rt nm R n0 G cl sl h pc Ls (.long y :: .long x :: st) := by
  subst hp
  exact hr.pure fun X hx hby hown hZ eT t q => XS.lsub X.here hx rfl (hb hby hd) rfl q
theorem WP.lmul {x y : Int64} (hd : decode code pc = .ok (.lmul, 1)) (hp : pc + 1 = pc') (hr : WPG C Z code ml own rt nm R n0 G cl sl h pc' Ls (.long (x * y) :: st)) : WPG C Z code ml own rt nm R n0 G cl sl h pc Ls (.long y :: .long x :: st) := by
  subst hp
  exact hr.pure fun X hx hby hown hZ eT t q => XS.lmul X.here hx rfl (hb hby hd) rfl q
theorem WP.land {x y : Int64} (hd : decode code pc = .ok (.land, 1)) (hp : pc + 1 = pc') (hr : WPG C Z code ml own rt nm R n0 G cl sl h pc' Ls (.long (x &&& y) :: st)) : WPG C Z code ml own rt nm R n0 G cl sl h pc Ls (.long y :: .long x :: st) := by
  subst hp
  exact hr.pure fun X hx hby hown hZ eT t q => XS.land X.here hx rfl (hb hby hd) rfl q
theorem WP.lor {x y : Int64} (hd : decode code pc = .ok (.lor, 1)) (hp : pc + 1 = pc') (hr : WPG C Z code ml own rt nm R n0 G cl sl h pc' Ls (.long (x ||| y) :: st)) : WPG C Z code ml own rt nm R n0 G cl sl h pc Ls (.long y :: .long x :: st) := by
  subst hp
  exact hr.pure fun X hx hby hown hZ eT t q => XS.lor X.here hx rfl (hb hby hd) rfl q
theorem WP.lxor {x y : Int64} (hd : decode code pc = .ok (.lxor, 1)) (hp : pc + 1 = pc') (hr : WPG C Z code ml own rt nm R n0 G cl sl h pc' Ls (.long (x ^^^ y) :: st)) : WPG C Z code ml own rt nm R n0 G cl sl h pc Ls (.long y :: .long x :: st) := by
  subst hp
  exact hr.pure fun X hx hby hown hZ eT t q => XS.lxor X.here hx rfl (hb hby hd) rfl q
theorem WP.lshl {x : Int64} {y : Int32} (hd : decode code pc = .ok (.lshl, 1)) (hp : pc + 1 = pc') (hr : WPG C Z code ml own rt nm R n0 G cl sl h pc' Ls (.long (x <<< (y &&& 0x3f).toInt64) :: st)) : WPG C Z code ml own rt nm R n0 G cl sl h pc Ls (.int y :: .long x :: st) := by
  subst hp
  exact hr.pure fun X hx hby hown hZ eT t q => XS.lshl X.here hx rfl (hb hby hd) rfl q
theorem WP.lshr {x : Int64} {y : Int32} (hd : decode code pc = .ok (.lshr, 1)) (hp : pc + 1 = pc') (hr : WPG C Z code ml own rt nm R n0 G cl sl h pc' Ls (.long (x >>> (y &&& 0x3f).toInt64) :: st)) : WPG C Z code ml own rt nm R n0 G cl sl h pc Ls (.int y :: .long x :: st) := by
  subst hp
  exact hr.pure fun X hx hby hown hZ eT t q => XS.lshr X.here hx rfl (hb hby hd) rfl q
theorem WP.lushr {x : Int64} {y : Int32} (hd : decode code pc = .ok (.lushr, 1)) (hp : pc + 1 = pc') (hr : WPG C Z code ml own rt nm R n0 G cl sl h pc' Ls (.long ((x.toUInt64 >>> (y &&& 0x3f).toInt64.toUInt64).toInt64) :: st)) : WPG C Z code ml own rt nm R n0 G cl sl h pc Ls (.int y :: .long x :: st) := by
  subst hp
  exact hr.pure fun X hx hby hown hZ eT t q => XS.lushr X.here hx rfl (hb hby hd) rfl q
theorem WP.idiv {x y : Int32} (hd : decode code pc = .ok (.idiv, 1)) (hp : pc + 1 = pc') (hy : y ≠ 0) (hr : WPG C Z code ml own rt nm R n0 G cl sl h pc' Ls (.int (x / y) :: st)) : WPG C Z code ml own rt nm R n0 G cl sl h pc Ls (.int y :: .int x :: st) := by
  subst hp
  exact hr.pure fun X hx hby hown hZ eT t q => XS.idiv X.here hx rfl (hb hby hd) rfl hy q
theorem WP.irem {x y : Int32} (hd : decode code pc = .ok (.irem, 1)) (hp : pc + 1 = pc') (hy : y ≠ 0) (hr : WPG C Z code ml own rt nm R n0 G cl sl h pc' Ls (.int (x % y) :: st)) : WPG C Z code ml own rt nm R n0 G cl sl h pc Ls (.int y :: .int x :: st) := by
  subst hp
  exact hr.pure fun X hx hby hown hZ eT t q => iremM X hx rfl (hb hby hd) rfl hy q
theorem WP.ldiv {x y : Int64} (hd : decode code pc = .ok (.ldiv, 1)) (hp : pc + 1 = pc') (hy : y ≠ 0) (hr : WPG C Z code ml own rt nm R n0 G cl sl h pc' Ls (.long (x / y) :: st)) : WPG C Z code ml own rt nm R n0 G cl sl h pc Ls (.long y :: .long x :: st) := by
  subst hp
  exact hr.pure fun X hx hby hown hZ eT t q => XS.ldiv X.here hx rfl (hb hby hd) rfl hy q
theorem WP.lrem {x y : Int64} (hd : decode code pc = .ok (.lrem, 1)) (hp : pc + 1 = pc') (hy : y ≠ 0) (hr : WPG C Z code ml own rt nm R n0 G cl sl h pc' Ls (.long (x % y) :: st)) : WPG C Z code ml own rt nm R n0 G cl sl h pc Ls (.long y :: .long x :: st) := by
  subst hp
  exact hr.pure fun X hx hby hown hZ eT t q => XS.lrem X.here hx rfl (hb hby hd) rfl hy (by rw [lrem_mod]; exact q)
theorem WP.ineg {x : Int32} (hd : decode code pc = .ok (.ineg, 1)) (hp : pc + 1 = pc') (hr : WPG C Z code ml own rt nm R n0 G cl sl h pc' Ls (.int (-x) :: st)) : WPG C Z code ml own rt nm R n0 G cl sl h pc Ls (.int x :: st) := by
  subst hp
  exact hr.pure fun X hx hby hown hZ eT t q => XS.ineg X.here hx rfl (hb hby hd) rfl q
theorem WP.lneg {x : Int64} (hd : decode code pc = .ok (.lneg, 1)) (hp : pc + 1 = pc') (hr : WPG C Z code ml own rt nm R n0 G cl sl h pc' Ls (.long (-x) :: st)) : WPG C Z code ml own rt nm R n0 G cl sl h pc Ls (.long x :: st) := by
  subst hp
  exact hr.pure fun X hx hby hown hZ eT t q => XS.lneg X.here hx rfl (hb hby hd) rfl q
theorem WP.i2l {x : Int32} (hd : decode code pc = .ok (.i2l, 1)) (hp : pc + 1 = pc') (hr : WPG C Z code ml own rt nm R n0 G cl sl h pc' Ls (.long (x.toInt64) :: st)) : WPG C Z code ml own rt nm R n0 G cl sl h pc Ls (.int x :: st) := by
  subst hp
  exact hr.pure fun X hx hby hown hZ eT t q => XS.i2l X.here hx rfl (hb hby hd) rfl q
theorem WP.l2i {x : Int64} (hd : decode code pc = .ok (.l2i, 1)) (hp : pc + 1 = pc') (hr : WPG C Z code ml own rt nm R n0 G cl sl h pc' Ls (.int (x.toInt32) :: st)) : WPG C Z code ml own rt nm R n0 G cl sl h pc Ls (.long x :: st) := by
  subst hp
  exact hr.pure fun X hx hby hown hZ eT t q => XS.l2i X.here hx rfl (hb hby hd) rfl q
theorem WP.i2b {x : Int32} (hd : decode code pc = .ok (.i2b, 1)) (hp : pc + 1 = pc') (hr : WPG C Z code ml own rt nm R n0 G cl sl h pc' Ls (.int (x.toInt8.toInt32) :: st)) : WPG C Z code ml own rt nm R n0 G cl sl h pc Ls (.int x :: st) := by
  subst hp
  exact hr.pure fun X hx hby hown hZ eT t q => XS.i2b X.here hx rfl (hb hby hd) rfl q
theorem WP.i2c {x : Int32} (hd : decode code pc = .ok (.i2c, 1)) (hp : pc + 1 = pc') (hr : WPG C Z code ml own rt nm R n0 G cl sl h pc' Ls (.int (x.toUInt32.toUInt16.toUInt32.toInt32) :: st)) : WPG C Z code ml own rt nm R n0 G cl sl h pc Ls (.int x :: st) := by
  subst hp
  exact hr.pure fun X hx hby hown hZ eT t q => XS.i2c X.here hx rfl (hb hby hd) rfl q
theorem WP.i2s {x : Int32} (hd : decode code pc = .ok (.i2s, 1)) (hp : pc + 1 = pc') (hr : WPG C Z code ml own rt nm R n0 G cl sl h pc' Ls (.int (x.toInt16.toInt32) :: st)) : WPG C Z code ml own rt nm R n0 G cl sl h pc Ls (.int x :: st) := by
  subst hp
  exact hr.pure fun X hx hby hown hZ eT t q => XS.i2s X.here hx rfl (hb hby hd) rfl q
theorem WP.dup {x : Value} (hd : decode code pc = .ok (.dup, 1)) (hp : pc + 1 = pc') (hc : x.category = 1) (hr : WPG C Z code ml own rt nm R n0 G cl sl h pc' Ls (x :: x :: st)) : WPG C Z code ml own rt nm R n0 G cl sl h pc Ls (x :: st) := by
  subst hp
  exact hr.pure fun X hx hby hown hZ eT t q => XS.dup X.here hx rfl (hb hby hd) rfl hc q
theorem WP.pop {x : Value} (hd : decode code pc = .ok (.pop, 1)) (hp : pc + 1 = pc') (hc : x.category = 1) (hr : WPG C Z code ml own rt nm R n0 G cl sl h pc' Ls st) : WPG C Z code ml own rt nm R n0 G cl sl h pc Ls (x :: st) := by
  subst hp
  exact hr.pure fun X hx hby hown hZ eT t q => XS.pop X.here hx rfl (hb hby hd) rfl hc q
theorem WP.dupX1 {x y : Value} (hd : decode code pc = .ok (.dup_x1, 1)) (hp : pc + 1 = pc') (hc : x.category = 1) (hc' : y.category = 1) (hr : WPG C Z code ml own rt nm R n0 G cl sl h pc' Ls (x :: y :: x :: st)) : WPG C Z code ml own rt nm R n0 G cl sl h pc Ls (x :: y :: st) := by
  subst hp
  exact hr.pure fun X hx hby hown hZ eT t q => XS.dupX1 X.here hx rfl (hb hby hd) rfl hc hc' q
theorem WP.dup2 {x y : Value} (hd : decode code pc = .ok (.dup2, 1)) (hp : pc + 1 = pc') (hc : x.category = 1) (hc' : y.category = 1) (hr : WPG C Z code ml own rt nm R n0 G cl sl h pc' Ls (x :: y :: x :: y :: st)) : WPG C Z code ml own rt nm R n0 G cl sl h pc Ls (x :: y :: st) := by
  subst hp
  exact hr.pure fun X hx hby hown hZ eT t q => Jvm.Free.XT.dup2 X.here hx rfl (hb hby hd) rfl hc hc' q
theorem WP.dup2L {x : Int64} (hd : decode code pc = .ok (.dup2, 1)) (hp : pc + 1 = pc') (hr : WPG C Z code ml own rt nm R n0 G cl sl h pc' Ls (.long x :: .long x :: st)) : WPG C Z code ml own rt nm R n0 G cl sl h pc Ls (.long x :: st) := by
  subst hp
  exact hr.pure fun X hx hby hown hZ eT t q => Jvm.Free.XT.dup2L X.here hx rfl (hb hby hd) rfl q
theorem WP.iinc {k : Nat} {i : Int} {x z : Int32} (hd : decode code pc = .ok (.iinc k i, 3)) (hp : pc + 3 = pc') (hl : Ls[k]? = some (.val (.int x))) (hz : x + Int32.ofInt i = z) (hl' : storeLocals Ls k (.int z) = some Ls') (hr : WPG C Z code ml own rt nm R n0 G cl sl h pc' Ls' st) : WPG C Z code ml own rt nm R n0 G cl sl h pc Ls st := by
  subst hp
  subst hz
  exact hr.pure fun X hx hby hown hZ eT t q => XS.iinc X.here hx rfl (hb hby hd) hl hl' q
theorem WP.ldc2D {i : Nat} {v : UInt64} (hd : decode code pc = .ok (.ldc2_w i, 3)) (hp : pc + 3 = pc') (w : (Jvm.Cond.constantDouble own i v).before a0 Z = true) (hr : WPG C Z code ml own rt nm R n0 G cl sl h pc' Ls (.double v :: st)) : WPG C Z code ml own rt nm R n0 G cl sl h pc Ls st := by
  subst hp
  exact hr.pure fun X hx hby hown hZ eT t q => X.ldc2DoubleC hx hown (mvT hZ w) (g := mkF _ pc Ls st) rfl (hb hby hd) t q
theorem WP.dconst0 {v : UInt64} (hd : decode code pc = .ok (.dconst 0, 1)) (hp : pc + 1 = pc') (hv : FP.dconst0 = v) (hr : WPG C Z code ml own rt nm R n0 G cl sl h pc' Ls (.double v :: st)) : WPG C Z code ml own rt nm R n0 G cl sl h pc Ls st := by
  subst hp
  exact hr.pure fun X hx hby hown hZ eT t q => XS.dconst0 X.here hx rfl (hb hby hd) hv q
theorem WP.dconst1 {v : UInt64} (hd : decode code pc = .ok (.dconst 1, 1)) (hp : pc + 1 = pc') (hv : FP.dconst1 = v) (hr : WPG C Z code ml own rt nm R n0 G cl sl h pc' Ls (.double v :: st)) : WPG C Z code ml own rt nm R n0 G cl sl h pc Ls st := by
  subst hp
  exact hr.pure fun X hx hby hown hZ eT t q => XS.dconst1 X.here hx rfl (hb hby hd) hv q
theorem WP.i2d {x : Int32} {v : UInt64} (hd : decode code pc = .ok (.i2d, 1)) (hp : pc + 1 = pc') (hv : FP.i2d x = v) (hr : WPG C Z code ml own rt nm R n0 G cl sl h pc' Ls (.double v :: st)) : WPG C Z code ml own rt nm R n0 G cl sl h pc Ls (.int x :: st) := by
  subst hp
  exact hr.pure fun X hx hby hown hZ eT t q => XS.i2dS X.here hx rfl (hb hby hd) rfl hv q
theorem WP.l2d {x : Int64} {v : UInt64} (hd : decode code pc = .ok (.l2d, 1)) (hp : pc + 1 = pc') (hv : FP.l2d x = v) (hr : WPG C Z code ml own rt nm R n0 G cl sl h pc' Ls (.double v :: st)) : WPG C Z code ml own rt nm R n0 G cl sl h pc Ls (.long x :: st) := by
  subst hp
  exact hr.pure fun X hx hby hown hZ eT t q => XS.l2dS X.here hx rfl (hb hby hd) rfl hv q
theorem WP.dcmp {o : CmpOp} {x y : UInt64} {v : Int32} (hd : decode code pc = .ok (.dcmp o, 1)) (hp : pc + 1 = pc') (hv : cmpValue (FP.dcmp x y) o = v) (hr : WPG C Z code ml own rt nm R n0 G cl sl h pc' Ls (.int v :: st)) : WPG C Z code ml own rt nm R n0 G cl sl h pc Ls (.double y :: .double x :: st) := by
  subst hp
  exact hr.pure fun X hx hby hown hZ eT t q => XS.dcmpS X.here hx rfl (hb hby hd) rfl hv q
theorem WP.dadd {x y v : UInt64} (hd : decode code pc = .ok (.dadd, 1)) (hp : pc + 1 = pc') (hn : Jvm.Free.Fl.NoNaN64 (FP.dadd x y)) (hv : FP.dadd x y = v) (hr : WPG C Z code ml own rt nm R n0 G cl sl h pc' Ls (.double v :: st)) : WPG C Z code ml own rt nm R n0 G cl sl h pc Ls (.double y :: .double x :: st) := by
  subst hp
  exact hr.pure fun X hx hby hown hZ eT t q => XS.daddS X.here hx rfl (hb hby hd) rfl hn hv q
theorem WP.dsub {x y v : UInt64} (hd : decode code pc = .ok (.dsub, 1)) (hp : pc + 1 = pc') (hn : Jvm.Free.Fl.NoNaN64 (FP.dsub x y)) (hv : FP.dsub x y = v) (hr : WPG C Z code ml own rt nm R n0 G cl sl h pc' Ls (.double v :: st)) : WPG C Z code ml own rt nm R n0 G cl sl h pc Ls (.double y :: .double x :: st) := by
  subst hp
  exact hr.pure fun X hx hby hown hZ eT t q => XS.dsubS X.here hx rfl (hb hby hd) rfl hn hv q
theorem WP.dmul {x y v : UInt64} (hd : decode code pc = .ok (.dmul, 1)) (hp : pc + 1 = pc') (hn : Jvm.Free.Fl.NoNaN64 (FP.dmul x y)) (hv : FP.dmul x y = v) (hr : WPG C Z code ml own rt nm R n0 G cl sl h pc' Ls (.double v :: st)) : WPG C Z code ml own rt nm R n0 G cl sl h pc Ls (.double y :: .double x :: st) := by
  subst hp
  exact hr.pure fun X hx hby hown hZ eT t q => XS.dmulS X.here hx rfl (hb hby hd) rfl hn hv q
theorem WP.ddiv {x y v : UInt64} (hd : decode code pc = .ok (.ddiv, 1)) (hp : pc + 1 = pc') (hn : Jvm.Free.Fl.NoNaN64 (FP.ddiv x y)) (hv : FP.ddiv x y = v) (hr : WPG C Z code ml own rt nm R n0 G cl sl h pc' Ls (.double v :: st)) : WPG C Z code ml own rt nm R n0 G cl sl h pc Ls (.double y :: .double x :: st) := by
  subst hp
  exact hr.pure fun X hx hby hown hZ eT t q => XS.ddivS X.here hx rfl (hb hby hd) rfl hn hv q
theorem WP.lcmp {x y : Int64} (hd : decode code pc = .ok (.lcmp, 1)) (hp : pc + 1 = pc') (hr : WPG C Z code ml own rt nm R n0 G cl sl h pc' Ls (.int (lcmpW x y) :: st)) : WPG C Z code ml own rt nm R n0 G cl sl h pc Ls (.long y :: .long x :: st) := by
  subst hp
  exact hr.pure fun X hx hby hown hZ eT t q => XS.lcmp X.here hx rfl (hb hby hd) rfl q
theorem WP.goto {o : Int} (hd : decode code pc = .ok (.goto o, 3)) (ho : 0 ≤ (pc : Int) + o) (hp : ((pc : Int) + o).toNat = pc') (hr : WPG C Z code ml own rt nm R n0 G cl sl h pc' Ls st) : WPG C Z code ml own rt nm R n0 G cl sl h pc Ls st :=
  hr.pure fun X hx hby hown hZ eT t q => XS.goto X.here hx rfl (pc0 := pc) rfl (hb hby hd) ho hp q
theorem WP.icmp {pc1 pc2 : Nat} {x y : Int32} {cd : ClassFile.Cond} {o : Int} (hd : decode code pc = .ok (.if_icmp cd o, 3)) (ho : 0 ≤ (pc : Int) + o) (hp : ((pc : Int) + o).toNat = pc1) (hp2 : pc + 3 = pc2) (hy : if_icmp.holds cd x y = true → WPG C Z code ml own rt nm R n0 G cl sl h pc1 Ls st) (hn : if_icmp.holds cd x y = false → WPG C Z code ml own rt nm R n0 G cl sl h pc2 Ls st) : WPG C Z code ml own rt nm R n0 G cl sl h pc Ls (.int y :: .int x :: st) := by
  subst hp2
  cases hq : if_icmp.holds cd x y with
  | true => exact (hy hq).pure fun X hx hby hown hZ eT t q => XS.icmpYes X.here hx rfl (pc0 := pc) rfl (hb hby hd) rfl hq ho hp q
  | false => exact (hn hq).pure fun X hx hby hown hZ eT t q => XS.icmpNo X.here hx rfl (hb hby hd) rfl hq q
theorem WP.icmp_lt {pc1 pc2 : Nat} {x y : Int32} {o : Int} (hd : decode code pc = .ok (.if_icmp .lt o, 3)) (ho : 0 ≤ (pc : Int) + o) (hp : ((pc : Int) + o).toNat = pc1) (hp2 : pc + 3 = pc2) (hy : x < y → WPG C Z code ml own rt nm R n0 G cl sl h pc1 Ls st) (hn : ¬ x < y → WPG C Z code ml own rt nm R n0 G cl sl h pc2 Ls st) : WPG C Z code ml own rt nm R n0 G cl sl h pc Ls (.int y :: .int x :: st) :=
  WP.icmp hd ho hp hp2 (fun hq => hy (Decidable.byContradiction fun k => by rw [(flt k).1] at hq; cases hq)) (fun hq => hn (fun k => by rw [(tlt k).1] at hq; cases hq))
theorem WP.icmp_ge {pc1 pc2 : Nat} {x y : Int32} {o : Int} (hd : decode code pc = .ok (.if_icmp .ge o, 3)) (ho : 0 ≤ (pc : Int) + o) (hp : ((pc : Int) + o).toNat = pc1) (hp2 : pc + 3 = pc2) (hy : ¬ x < y → WPG C Z code ml own rt nm R n0 G cl sl h pc1 Ls st) (hn : x < y → WPG C Z code ml own rt nm R n0 G cl sl h pc2 Ls st) : WPG C Z code ml own rt nm R n0 G cl sl h pc Ls (.int y :: .int x :: st) :=
  WP.icmp hd ho hp hp2 (fun hq => hy (fun k => by rw [(tlt k).2.1] at hq; cases hq)) (fun hq => hn (Decidable.byContradiction fun k => by rw [(flt k).2.1] at hq; cases hq))
theorem WP.icmp_gt {pc1 pc2 : Nat} {x y : Int32} {o : Int} (hd : decode code pc = .ok (.if_icmp .gt o, 3)) (ho : 0 ≤ (pc : Int) + o) (hp : ((pc : Int) + o).toNat = pc1) (hp2 : pc + 3 = pc2) (hy : y < x → WPG C Z code ml own rt nm R n0 G cl sl h pc1 Ls st) (hn : ¬ y < x → WPG C Z code ml own rt nm R n0 G cl sl h pc2 Ls st) : WPG C Z code ml own rt nm R n0 G cl sl h pc Ls (.int y :: .int x :: st) :=
  WP.icmp hd ho hp hp2 (fun hq => hy (Decidable.byContradiction fun k => by rw [(flt k).2.2.1] at hq; cases hq)) (fun hq => hn (fun k => by rw [(tlt k).2.2.1] at hq; cases hq))
theorem WP.icmp_le {pc1 pc2 : Nat} {x y : Int32} {o : Int} (hd : decode code pc = .ok (.if_icmp .le o, 3)) (ho : 0 ≤ (pc : Int) + o) (hp : ((pc : Int) + o).toNat = pc1) (hp2 : pc + 3 = pc2) (hy : ¬ y < x → WPG C Z code ml own rt nm R n0 G cl sl h pc1 Ls st) (hn : y < x → WPG C Z code ml own rt nm R n0 G cl sl h pc2 Ls st) : WPG C Z code ml own rt nm R n0 G cl sl h pc Ls (.int y :: .int x :: st) :=
  WP.icmp hd ho hp hp2 (fun hq => hy (fun k => by rw [(tlt k).2.2.2] at hq; cases hq)) (fun hq => hn (Decidable.byContradiction fun k => by rw [(flt k).2.2.2] at hq; cases hq))
theorem WP.icmp_eq {pc1 pc2 : Nat} {x y : Int32} {o : Int} (hd : decode code pc = .ok (.if_icmp .eq o, 3)) (ho : 0 ≤ (pc : Int) + o) (hp : ((pc : Int) + o).toNat = pc1) (hp2 : pc + 3 = pc2) (hy : x = y → WPG C Z code ml own rt nm R n0 G cl sl h pc1 Ls st) (hn : ¬ x = y → WPG C Z code ml own rt nm R n0 G cl sl h pc2 Ls st) : WPG C Z code ml own rt nm R n0 G cl sl h pc Ls (.int y :: .int x :: st) :=
  WP.icmp hd ho hp hp2 (fun hq => hy (Decidable.byContradiction fun k => by rw [(feq k).1] at hq; cases hq)) (fun hq => hn (fun k => by rw [(teq k).1] at hq; cases hq))
theorem WP.icmp_ne {pc1 pc2 : Nat} {x y : Int32} {o : Int} (hd : decode code pc = .ok (.if_icmp .ne o, 3)) (ho : 0 ≤ (pc : Int) + o) (hp : ((pc : Int) + o).toNat = pc1) (hp2 : pc + 3 = pc2) (hy : ¬ x = y → WPG C Z code ml own rt nm R n0 G cl sl h pc1 Ls st) (hn : x = y → WPG C Z code ml own rt nm R n0 G cl sl h pc2 Ls st) : WPG C Z code ml own rt nm R n0 G cl sl h pc Ls (.int y :: .int x :: st) :=
  WP.icmp hd ho hp hp2 (fun hq => hy (fun k => by rw [(teq k).2] at hq; cases hq)) (fun hq => hn (Decidable.byContradiction fun k => by rw [(feq k).2] at hq; cases hq))
theorem WP.ifc {pc1 pc2 : Nat} {x : Int32} {cd : ClassFile.Cond} {o : Int} (hd : decode code pc = .ok (.ifCond cd o, 3)) (ho : 0 ≤ (pc : Int) + o) (hp : ((pc : Int) + o).toNat = pc1) (hp2 : pc + 3 = pc2) (hy : ifCond.holds cd x = true → WPG C Z code ml own rt nm R n0 G cl sl h pc1 Ls st) (hn : ifCond.holds cd x = false → WPG C Z code ml own rt nm R n0 G cl sl h pc2 Ls st) : WPG C Z code ml own rt nm R n0 G cl sl h pc Ls (.int x :: st) := by
  subst hp2
  cases hq : ifCond.holds cd x with
  | true => exact (hy hq).pure fun X hx hby hown hZ eT t q => XS.ifYes X.here hx rfl (pc0 := pc) rfl (hb hby hd) rfl hq ho hp q
  | false => exact (hn hq).pure fun X hx hby hown hZ eT t q => XS.ifNo X.here hx rfl (hb hby hd) rfl hq q
theorem WP.ifc_lt {pc1 pc2 : Nat} {x : Int32} {o : Int} (hd : decode code pc = .ok (.ifCond .lt o, 3)) (ho : 0 ≤ (pc : Int) + o) (hp : ((pc : Int) + o).toNat = pc1) (hp2 : pc + 3 = pc2) (hy : x < (0 : Int32) → WPG C Z code ml own rt nm R n0 G cl sl h pc1 Ls st) (hn : ¬ x < (0 : Int32) → WPG C Z code ml own rt nm R n0 G cl sl h pc2 Ls st) : WPG C Z code ml own rt nm R n0 G cl sl h pc Ls (.int x :: st) :=
  WP.ifc hd ho hp hp2 (fun hq => hy (Decidable.byContradiction fun k => by rw [(if0 _ _).trans (flt k).1] at hq; cases hq)) (fun hq => hn (fun k => by rw [(if0 _ _).trans (tlt k).1] at hq; cases hq))
theorem WP.ifc_ge {pc1 pc2 : Nat} {x : Int32} {o : Int} (hd : decode code pc = .ok (.ifCond .ge o, 3)) (ho : 0 ≤ (pc : Int) + o) (hp : ((pc : Int) + o).toNat = pc1) (hp2 : pc + 3 = pc2) (hy : ¬ x < (0 : Int32) → WPG C Z code ml own rt nm R n0 G cl sl h pc1 Ls st) (hn : x < (0 : Int32) → WPG C Z code ml own rt nm R n0 G cl sl h pc2 Ls st) : WPG C Z code ml own rt nm R n0 G cl sl h pc Ls (.int x :: st) :=
  WP.ifc hd ho hp hp2 (fun hq => hy (fun k => by rw [(if0 _ _).trans (tlt k).2.1] at hq; cases hq)) (fun hq => hn (Decidable.byContradiction fun k => by rw [(if0 _ _).trans (flt k).2.1] at hq; cases hq))
theorem WP.ifc_gt {pc1 pc2 : Nat} {x : Int32} {o : Int} (hd : decode code pc = .ok (.ifCond .gt o, 3)) (ho : 0 ≤ (pc : Int) + o) (hp : ((pc : Int) + o).toNat = pc1) (hp2 : pc + 3 = pc2) (hy : (0 : Int32) < x → WPG C Z code ml own rt nm R n0 G cl sl h pc1 Ls st) (hn : ¬ (0 : Int32) < x → WPG C Z code ml own rt nm R n0 G cl sl h pc2 Ls st) : WPG C Z code ml own rt nm R n0 G cl sl h pc Ls (.int x :: st) :=
  WP.ifc hd ho hp hp2 (fun hq => hy (Decidable.byContradiction fun k => by rw [(if0 _ _).trans (flt k).2.2.1] at hq; cases hq)) (fun hq => hn (fun k => by rw [(if0 _ _).trans (tlt k).2.2.1] at hq; cases hq))
theorem WP.ifc_le {pc1 pc2 : Nat} {x : Int32} {o : Int} (hd : decode code pc = .ok (.ifCond .le o, 3)) (ho : 0 ≤ (pc : Int) + o) (hp : ((pc : Int) + o).toNat = pc1) (hp2 : pc + 3 = pc2) (hy : ¬ (0 : Int32) < x → WPG C Z code ml own rt nm R n0 G cl sl h pc1 Ls st) (hn : (0 : Int32) < x → WPG C Z code ml own rt nm R n0 G cl sl h pc2 Ls st) : WPG C Z code ml own rt nm R n0 G cl sl h pc Ls (.int x :: st) :=
  WP.ifc hd ho hp hp2 (fun hq => hy (fun k => by rw [(if0 _ _).trans (tlt k).2.2.2] at hq; cases hq)) (fun hq => hn (Decidable.byContradiction fun k => by rw [(if0 _ _).trans (flt k).2.2.2] at hq; cases hq))
theorem WP.ifc_eq {pc1 pc2 : Nat} {x : Int32} {o : Int} (hd : decode code pc = .ok (.ifCond .eq o, 3)) (ho : 0 ≤ (pc : Int) + o) (hp : ((pc : Int) + o).toNat = pc1) (hp2 : pc + 3 = pc2) (hy : x = (0 : Int32) → WPG C Z code ml own rt nm R n0 G cl sl h pc1 Ls st) (hn : ¬ x = (0 : Int32) → WPG C Z code ml own rt nm R n0 G cl sl h pc2 Ls st) : WPG C Z code ml own rt nm R n0 G cl sl h pc Ls (.int x :: st) :=
  WP.ifc hd ho hp hp2 (fun hq => hy (Decidable.byContradiction fun k => by rw [(if0 _ _).trans (feq k).1] at hq; cases hq)) (fun hq => hn (fun k => by rw [(if0 _ _).trans (teq k).1] at hq; cases hq))
theorem WP.ifc_ne {pc1 pc2 : Nat} {x : Int32} {o : Int} (hd : decode code pc = .ok (.ifCond .ne o, 3)) (ho : 0 ≤ (pc : Int) + o) (hp : ((pc : Int) + o).toNat = pc1) (hp2 : pc + 3 = pc2) (hy : ¬ x = (0 : Int32) → WPG C Z code ml own rt nm R n0 G cl sl h pc1 Ls st) (hn : x = (0 : Int32) → WPG C Z code ml own rt nm R n0 G cl sl h pc2 Ls st) : WPG C Z code ml own rt nm R n0 G cl sl h pc Ls (.int x :: st) :=
  WP.ifc hd ho hp hp2 (fun hq => hy (fun k => by rw [(if0 _ _).trans (teq k).2] at hq; cases hq)) (fun hq => hn (Decidable.byContradiction fun k => by rw [(if0 _ _).trans (feq k).2] at hq; cases hq))
theorem WP.lcmp_lt {pc1 pc2 : Nat} {x y : Int64} {o : Int} (hd1 : decode code pc = .ok (.lcmp, 1)) (hp0 : pc + 1 = pc') (hd : decode code pc' = .ok (.ifCond .lt o, 3)) (ho : 0 ≤ (pc' : Int) + o) (hp : ((pc' : Int) + o).toNat = pc1) (hp2 : pc' + 3 = pc2) (hy : x < y → WPG C Z code ml own rt nm R n0 G cl sl h pc1 Ls st) (hn : ¬ x < y → WPG C Z code ml own rt nm R n0 G cl sl h pc2 Ls st) : WPG C Z code ml own rt nm R n0 G cl sl h pc Ls (.long y :: .long x :: st) :=
  WP.lcmp hd1 hp0 (WP.ifc_lt hd ho hp hp2 (fun k => hy ((lw_lt x y).mp k)) (fun k => hn (fun z => k ((lw_lt x y).mpr z))))
theorem WP.lcmp_ge {pc1 pc2 : Nat} {x y : Int64} {o : Int} (hd1 : decode code pc = .ok (.lcmp, 1)) (hp0 : pc + 1 = pc') (hd : decode code pc' = .ok (.ifCond .ge o, 3)) (ho : 0 ≤ (pc' : Int) + o) (hp : ((pc' : Int) + o).toNat = pc1) (hp2 : pc' + 3 = pc2) (hy : ¬ x < y → WPG C Z code ml own rt nm R n0 G cl sl h pc1 Ls st) (hn : x < y → WPG C Z code ml own rt nm R n0 G cl sl h pc2 Ls st) : WPG C Z code ml own rt nm R n0 G cl sl h pc Ls (.long y :: .long x :: st) :=
  WP.lcmp hd1 hp0 (WP.ifc_ge hd ho hp hp2 (fun k => hy (fun z => k ((lw_lt x y).mpr z))) (fun k => hn ((lw_lt x y).mp k)))
theorem WP.lcmp_gt {pc1 pc2 : Nat} {x y : Int64} {o : Int} (hd1 : decode code pc = .ok (.lcmp, 1)) (hp0 : pc + 1 = pc') (hd : decode code pc' = .ok (.ifCond .gt o, 3)) (ho : 0 ≤ (pc' : Int) + o) (hp : ((pc' : Int) + o).toNat = pc1) (hp2 : pc' + 3 = pc2) (hy : y < x → WPG C Z code ml own rt nm R n0 G cl sl h pc1 Ls st) (hn : ¬ y < x → WPG C Z code ml own rt nm R n0 G cl sl h pc2 Ls st) : WPG C Z code ml own rt nm R n0 G cl sl h pc Ls (.long y :: .long x :: st) :=
  WP.lcmp hd1 hp0 (WP.ifc_gt hd ho hp hp2 (fun k => hy ((lw_gt x y).mp k)) (fun k => hn (fun z => k ((lw_gt x y).mpr z))))
theorem WP.lcmp_le {pc1 pc2 : Nat} {x y : Int64} {o : Int} (hd1 : decode code pc = .ok (.lcmp, 1)) (hp0 : pc + 1 = pc') (hd : decode code pc' = .ok (.ifCond .le o, 3)) (ho : 0 ≤ (pc' : Int) + o) (hp : ((pc' : Int) + o).toNat = pc1) (hp2 : pc' + 3 = pc2) (hy : ¬ y < x → WPG C Z code ml own rt nm R n0 G cl sl h pc1 Ls st) (hn : y < x → WPG C Z code ml own rt nm R n0 G cl sl h pc2 Ls st) : WPG C Z code ml own rt nm R n0 G cl sl h pc Ls (.long y :: .long x :: st) :=
  WP.lcmp hd1 hp0 (WP.ifc_le hd ho hp hp2 (fun k => hy (fun z => k ((lw_gt x y).mpr z))) (fun k => hn ((lw_gt x y).mp k)))
theorem WP.lcmp_eq {pc1 pc2 : Nat} {x y : Int64} {o : Int} (hd1 : decode code pc = .ok (.lcmp, 1)) (hp0 : pc + 1 = pc') (hd : decode code pc' = .ok (.ifCond .eq o, 3)) (ho : 0 ≤ (pc' : Int) + o) (hp : ((pc' : Int) + o).toNat = pc1) (hp2 : pc' + 3 = pc2) (hy : x = y → WPG C Z code ml own rt nm R n0 G cl sl h pc1 Ls st) (hn : ¬ x = y → WPG C Z code ml own rt nm R n0 G cl sl h pc2 Ls st) : WPG C Z code ml own rt nm R n0 G cl sl h pc Ls (.long y :: .long x :: st) :=
  WP.lcmp hd1 hp0 (WP.ifc_eq hd ho hp hp2 (fun k => hy ((lw_eq x y).mp k)) (fun k => hn (fun z => k ((lw_eq x y).mpr z))))
theorem WP.lcmp_ne {pc1 pc2 : Nat} {x y : Int64} {o : Int} (hd1 : decode code pc = .ok (.lcmp, 1)) (hp0 : pc + 1 = pc') (hd : decode code pc' = .ok (.ifCond .ne o, 3)) (ho : 0 ≤ (pc' : Int) + o) (hp : ((pc' : Int) + o).toNat = pc1) (hp2 : pc' + 3 = pc2) (hy : ¬ x = y → WPG C Z code ml own rt nm R n0 G cl sl h pc1 Ls st) (hn : x = y → WPG C Z code ml own rt nm R n0 G cl sl h pc2 Ls st) : WPG C Z code ml own rt nm R n0 G cl sl h pc Ls (.long y :: .long x :: st) :=
  WP.lcmp hd1 hp0 (WP.ifc_ne hd ho hp hp2 (fun k => hy (fun z => k ((lw_eq x y).mpr z))) (fun k => hn ((lw_eq x y).mp k)))
theorem WP.ifnullY {b : Addr} {o : Int} (hd : decode code pc = .ok (.ifnull o, 3)) (ho : 0 ≤ (pc : Int) + o) (hp : ((pc : Int) + o).toNat = pc') (hr : WPG C Z code ml own rt nm R n0 G cl sl h pc' Ls st) : WPG C Z code ml own rt nm R n0 G cl sl h pc Ls (.null :: st) :=
  hr.pure fun X hx hby hown hZ eT t q => XS.ifnullYes X.here hx rfl (pc0 := pc) rfl (hb hby hd) rfl ho hp q
theorem WP.ifnullN {b : Addr} {o : Int} (hd : decode code pc = .ok (.ifnull o, 3)) (hp : pc + 3 = pc') (hr : WPG C Z code ml own rt nm R n0 G cl sl h pc' Ls st) : WPG C Z code ml own rt nm R n0 G cl sl h pc Ls (.ref b :: st) := by
  subst hp
  exact hr.pure fun X hx hby hown hZ eT t q => XS.ifnullNo X.here hx rfl (hb hby hd) rfl q
theorem WP.ifnonnullY {b : Addr} {o : Int} (hd : decode code pc = .ok (.ifnonnull o, 3)) (ho : 0 ≤ (pc : Int) + o) (hp : ((pc : Int) + o).toNat = pc') (hr : WPG C Z code ml own rt nm R n0 G cl sl h pc' Ls st) : WPG C Z code ml own rt nm R n0 G cl sl h pc Ls (.ref b :: st) :=
  hr.pure fun X hx hby hown hZ eT t q => XS.ifnonnullYes X.here hx rfl (pc0 := pc) rfl (hb hby hd) rfl ho hp q
theorem WP.ifnonnullN {b : Addr} {o : Int} (hd : decode code pc = .ok (.ifnonnull o, 3)) (hp : pc + 3 = pc') (hr : WPG C Z code ml own rt nm R n0 G cl sl h pc' Ls st) : WPG C Z code ml own rt nm R n0 G cl sl h pc Ls (.null :: st) := by
  subst hp
  exact hr.pure fun X hx hby hown hZ eT t q => XS.ifnonnullNo X.here hx rfl (hb hby hd) rfl q
theorem WP.acmp_eq {pc1 pc2 : Nat} {x y : Value} {o : Int} (hd : decode code pc = .ok (.if_acmp .eq o, 3)) (h1 : x.isRef = true) (h2 : y.isRef = true) (ho : 0 ≤ (pc : Int) + o) (hp : ((pc : Int) + o).toNat = pc1) (hp2 : pc + 3 = pc2) (hy : x = y → WPG C Z code ml own rt nm R n0 G cl sl h pc1 Ls st) (hn : ¬ x = y → WPG C Z code ml own rt nm R n0 G cl sl h pc2 Ls st) : WPG C Z code ml own rt nm R n0 G cl sl h pc Ls (y :: x :: st) := by
  by_cases k : x = y
  · exact (hy k).pure fun X hx hby hown hZ eT t q => Jvm.RoadKit.acmp X hx rfl h1 h2 (pc0 := pc) (same := true) rfl (hb hby hd) rfl (decide_eq_true k) ho (by simp [acV, hp, hp2]) q
  · exact (hn k).pure fun X hx hby hown hZ eT t q => Jvm.RoadKit.acmp X hx rfl h1 h2 (pc0 := pc) (same := false) rfl (hb hby hd) rfl (decide_eq_false k) ho (by simp [acV, hp, hp2]) q
theorem WP.acmp_ne {pc1 pc2 : Nat} {x y : Value} {o : Int} (hd : decode code pc = .ok (.if_acmp .ne o, 3)) (h1 : x.isRef = true) (h2 : y.isRef = true) (ho : 0 ≤ (pc : Int) + o) (hp : ((pc : Int) + o).toNat = pc1) (hp2 : pc + 3 = pc2) (hy : ¬ x = y → WPG C Z code ml own rt nm R n0 G cl sl h pc1 Ls st) (hn : x = y → WPG C Z code ml own rt nm R n0 G cl sl h pc2 Ls st) : WPG C Z code ml own rt nm R n0 G cl sl h pc Ls (y :: x :: st) := by
  by_cases k : x = y
  · exact (hn k).pure fun X hx hby hown hZ eT t q => Jvm.RoadKit.acmp X hx rfl h1 h2 (pc0 := pc) (same := true) rfl (hb hby hd) rfl (decide_eq_true k) ho (by simp [acV, hp, hp2]) q
  · exact (hy k).pure fun X hx hby hown hZ eT t q => Jvm.RoadKit.acmp X hx rfl h1 h2 (pc0 := pc) (same := false) rfl (hb hby hd) rfl (decide_eq_false k) ho (by simp [acV, hp, hp2]) q
theorem WP.getF {i : Nat} {R0 O n d host : String} {a : Addr} {v : Value} (hd : decode code pc = .ok (.getfield i, 3)) (hp : pc + 3 = pc') (w : (Jvm.Cond.fieldLink own i R0 n d).before a0 Z = true ∨ (Jvm.Cond.fieldLinkNest own i R0 n d host).before a0 Z = true) (via : Via Z R0 O n d) (F : Fld Z h a O n d v) (hr : WPG C Z code ml own rt nm R n0 G cl sl h pc' Ls (v :: st)) : WPG C Z code ml own rt nm R n0 G cl sl h pc Ls (.ref a :: st) := by
  subst hp
  refine hr.step fun X hx hby hml hown hZ hnm eT N => ?_
  obtain ⟨T', X', e', k⟩ := RoadKit.getF X hx hZ hown w via eT F (g := mkF _ pc Ls (.ref a :: st)) rfl rfl (hb hby hd)
  exact ⟨T', _, X', e', N, fun t q => k t q⟩
theorem WP.getS {i : Nat} {R0 O n d host : String} {v : Value} (hd : decode code pc = .ok (.getstatic i, 3)) (hp : pc + 3 = pc') (w : (Jvm.Cond.fieldLink own i R0 n d).before a0 Z = true ∨ (Jvm.Cond.fieldLinkNest own i R0 n d host).before a0 Z = true) (via : Via Z R0 O n d) (F : Sta Z h O n d v) (hr : WPG C Z code ml own rt nm R n0 G cl sl h pc' Ls (v :: st)) : WPG C Z code ml own rt nm R n0 G cl sl h pc Ls st := by
  subst hp
  refine hr.step fun X hx hby hml hown hZ hnm eT N => ?_
  obtain ⟨T', X', e', k⟩ := getS2 X hx hZ hown w via eT F (g := mkF _ pc Ls st) rfl (hb hby hd)
  exact ⟨T', _, X', e', N, fun t q => k t q⟩
theorem WP.putF {i kk : Nat} {R0 O n d host K : String} {ty : FieldType} {a : Addr} {v old : Value} (hd : decode code pc = .ok (.putfield i, 3)) (hp : pc + 3 = pc') (w : (Jvm.Cond.fieldLink own i R0 n d).before a0 Z = true ∨ (Jvm.Cond.fieldLinkNest own i R0 n d host).before a0 Z = true) (via : Via Z R0 O n d) (F : Fld Z h a O n d old) (E : Exa Z h a K) (L : (Jvm.Cond.lays K O n d).before a0 Z = true ∨ ((Jvm.Cond.laysFinal K O n d).before a0 Z = true ∧ own = O ∧ nm = "<init>")) (wi : (Jvm.Cond.instantiable K kk).before a0 Z = true)
    (hty : parseFieldDescriptor d = some ty) (hn : narrow ty v = v) (hf : fits ty v = true) (ge : n0 ≤ a) (hr : ∀ h', Wr h h' a (Jvm.RoadKit.slotOf Z O n d) v → WPG C Z code ml own rt nm R n0 G cl sl h' pc' Ls st) : WPG C Z code ml own rt nm R n0 G cl sl h pc Ls (v :: .ref a :: st) := by
  subst hp
  intro k1 k2 k3 k4 k5 k6 k7 k8 T locs X e N
  obtain ⟨T', h', X', e', W', k⟩ := RoadKit.putF X k1 k5 k4 w via e F E (L.imp id fun z => ⟨z.1, z.2.1, k8.trans z.2.2⟩) wi hty hn hf (g := mkF _ pc Ls (v :: .ref a :: st)) rfl rfl (hb k2 hd)
  obtain ⟨s₂, v', L', h1, h2⟩ := hr h' W' k1 k2 k3 k4 k5 k6 k7 k8 T' _ X' e' (Fr.snoc X' N ge)
  exact ⟨s₂, v', L', k _ h1, h2⟩
theorem WP.putFN {i kk : Nat} {R0 O n d K : String} {ty : FieldType} {a : Addr} {v v' old : Value} (hd : decode code pc = .ok (.putfield i, 3)) (hp : pc + 3 = pc') (w : (Jvm.Cond.fieldLink own i R0 n d).before a0 Z = true) (via : Via Z R0 O n d) (F : Fld Z h a O n d old) (E : Exa Z h a K) (L : (Jvm.Cond.lays K O n d).before a0 Z = true ∨ ((Jvm.Cond.laysFinal K O n d).before a0 Z = true ∧ own = O ∧ nm = "<init>")) (wi : (Jvm.Cond.instantiable K kk).before a0 Z = true)
    (hty : parseFieldDescriptor d = some ty) (hn : narrow ty v = v') (hf : fits ty v' = true) (ge : n0 ≤ a) (hr : ∀ h', Wr h h' a (Jvm.RoadKit.slotOf Z O n d) v' → WPG C Z code ml own rt nm R n0 G cl sl h' pc' Ls st) : WPG C Z code ml own rt nm R n0 G cl sl h pc Ls (v :: .ref a :: st) := by
  subst hp
  intro k1 k2 k3 k4 k5 k6 k7 k8 T locs X e N
  obtain ⟨T', h', X', e', W', k⟩ := RoadKit.putFN X k1 k5 k4 w via e F E (L.imp id fun z => ⟨z.1, z.2.1, k8.trans z.2.2⟩) wi hty hn hf (g := mkF _ pc Ls (v :: .ref a :: st)) rfl rfl (hb k2 hd)
  obtain ⟨s₂, v'', L', h1, h2⟩ := hr h' W' k1 k2 k3 k4 k5 k6 k7 k8 T' _ X' e' (Fr.snoc X' N ge)
  exact ⟨s₂, v'', L', k _ h1, h2⟩
theorem WP.newO {i n : Nat} {K : String} {cl' sl' : Nat} (hd : decode code pc = .ok (.new i, 3)) (hp : pc + 3 = pc') (w : (Jvm.Cond.classLink own i K).before a0 Z = true) (wi : (Jvm.Cond.instantiable K n).before a0 Z = true) (wz : (Jvm.Cond.initialized K).before a0 Z = true) (hc : cl + 1 = cl') (hs : sl + n = sl') (hc' : cl' ≤ R.cells) (hs' : sl' ≤ R.slots)
    (hr : ∀ h' a, a = h.size → Ext h h' → Exa Z h' a K → (∀ {O nf d : String} {ty : FieldType}, Laid Z a0 K O nf d → parseFieldDescriptor d = some ty → Fld Z h' a O nf d (defaultValue ty)) → WPG C Z code ml own rt nm R n0 G cl' sl' h' pc' Ls (.ref a :: st)) : WPG C Z code ml own rt nm R n0 G cl sl h pc Ls st := by
  subst hp hc hs
  intro k1 k2 k3 k4 k5 k6 k7 k8 T locs X e N
  obtain ⟨T', h', X', e', E', A', D', -, k⟩ := RoadKit.newO X k1 k5 k4 w wi wz e (g := mkF _ pc Ls st) rfl (hb k2 hd) hc' hs'
  obtain ⟨s₂, v', L', h1, h2⟩ := hr h' _ rfl E' A' D' k1 k2 k3 k4 k5 k6 k7 k8 T' _ X' e' N
  exact ⟨s₂, v', L', k _ h1, h2⟩
theorem WP.checkcast {i : Nat} {K : String} {a : Addr} (hd : decode code pc = .ok (.checkcast i, 3)) (hp : pc + 3 = pc') (w : (Jvm.Cond.classLink own i K).before a0 Z = true) (F : Ins Z h a K true) (hr : WPG C Z code ml own rt nm R n0 G cl sl h pc' Ls (.ref a :: st)) : WPG C Z code ml own rt nm R n0 G cl sl h pc Ls (.ref a :: st) := by
  subst hp
  refine hr.step fun X hx hby hml hown hZ hnm eT N => ?_
  obtain ⟨T', X', e', k⟩ := castY X hx hZ hown w eT F (g := mkF _ pc Ls (.ref a :: st)) rfl rfl (hb hby hd)
  exact ⟨T', _, X', e', N, fun t q => k t q⟩
theorem WP.instanceof {i : Nat} {K : String} {a : Addr} (hd : decode code pc = .ok (.instanceof i, 3)) (hp : pc + 3 = pc') (w : (Jvm.Cond.classLink own i K).before a0 Z = true) (F : Ins Z h a K true) (hr : WPG C Z code ml own rt nm R n0 G cl sl h pc' Ls (.int 1 :: st)) : WPG C Z code ml own rt nm R n0 G cl sl h pc Ls (.ref a :: st) := by
  subst hp
  refine hr.step fun X hx hby hml hown hZ hnm eT N => ?_
  obtain ⟨T', X', e', k⟩ := instY X hx hZ hown w eT F (g := mkF _ pc Ls (.ref a :: st)) rfl rfl (hb hby hd)
  exact ⟨T', _, X', e', N, fun t q => k t q⟩
/-- an array of n elements, the i-th is f i -/
def Arf (Z : State) (h : Heap) (a : Addr) (ty : FieldType) (n : Nat) (f : Nat → Value) : Prop := ∃ c : Cell, Arr Z h a c ty ∧ c.slots.size = n ∧ n < 2147483648 ∧ (∀ i, i < n → c.slots[i]? = some (f i)) ∧ ∀ i, i < n → fits ty (f i) = true
theorem Arf.lt {a : Addr} {ty : FieldType} {n : Nat} {f : Nat → Value} (A : Arf Z h a ty n f) : a < h.size := by obtain ⟨c, A, -⟩ := A; exact A.lt
theorem Arf.small {a : Addr} {ty : FieldType} {n : Nat} {f : Nat → Value} (A : Arf Z h a ty n f) : n < 2147483648 := by obtain ⟨c, -, -, h, -⟩ := A; exact h
theorem Arf.keep {h' : Heap} {ws : List Addr} {a : Addr} {ty : FieldType} {n : Nat} {f : Nat → Value} (A : Arf Z h a ty n f) (K : Keep h h' ws) (q : a ∉ ws) : Arf Z h' a ty n f := by obtain ⟨c, A, r⟩ := A; exact ⟨c, ⟨K.2.1 a c A.1 q, A.2⟩, r⟩
theorem Arf.ext {h' : Heap} {a : Addr} {ty : FieldType} {n : Nat} {f : Nat → Value} (A : Arf Z h a ty n f) (E : Ext h h') : Arf Z h' a ty n f := by obtain ⟨c, A, r⟩ := A; exact ⟨c, A.ext E, r⟩
theorem Arf.fit {a : Addr} {ty : FieldType} {n : Nat} {f : Nat → Value} (A : Arf Z h a ty n f) {i : Nat} (hi : i < n) : fits ty (f i) = true := by obtain ⟨c, -, -, -, -, r⟩ := A; exact r i hi
theorem Arf.congr {a : Addr} {ty : FieldType} {n : Nat} {f g : Nat → Value} (A : Arf Z h a ty n f) (q : ∀ i, i < n → f i = g i) : Arf Z h a ty n g := by
  obtain ⟨c, A, r1, r2, r3, r4⟩ := A; exact ⟨c, A, r1, r2, fun i hi => by rw [← q i hi]; exact r3 i hi, fun i hi => by rw [← q i hi]; exact r4 i hi⟩
theorem idxN {j : Int32} {i n : Nat} (hi : j.toInt = (i : Int)) (hl : i < n) : ¬ (j < 0 ∨ n ≤ j.toNatClampNeg) ∧ j.toNatClampNeg = i := by
  have e0 : (0 : Int32).toInt = 0 := rfl
  simp only [Int32.lt_iff_toInt_lt, Int32.toNatClampNeg, hi, e0]; omega
theorem WP.baload {a : Addr} {j : Int32} {n : Nat} {f : Nat → Value} {v : Value} (i : Nat) (hd : decode code pc = .ok (.baload, 1)) (hp : pc + 1 = pc') (A : Arf Z h a .byte n f) (hi : j.toInt = (i : Int)) (hl : i < n) (hv : f i = v) (hr : WPG C Z code ml own rt nm R n0 G cl sl h pc' Ls (v :: st)) : WPG C Z code ml own rt nm R n0 G cl sl h pc Ls (.int j :: .ref a :: st) := by
  subst hp hv
  obtain ⟨c, A, r1, r2, r3, r4⟩ := A
  obtain ⟨q1, q2⟩ := idxN hi hl
  exact hr.pure fun X hx hby hown hZ eT t q => X.baloadBytes hx (j := j) (by rw [eT]; exact A.1) (State.isArrayOf_alike hZ.alike A.2.1) A.2.2 (by rw [r1]; exact q1) (by rw [q2]; exact r3 i hl) (g := mkF _ pc Ls (.int j :: .ref a :: st)) rfl rfl (hb hby hd) t q
theorem WP.baloadZ {a : Addr} {j : Int32} {n : Nat} {f : Nat → Value} {v : Value} (i : Nat) (hd : decode code pc = .ok (.baload, 1)) (hp : pc + 1 = pc') (A : Arf Z h a .boolean n f) (hi : j.toInt = (i : Int)) (hl : i < n) (hv : f i = v) (hr : WPG C Z code ml own rt nm R n0 G cl sl h pc' Ls (v :: st)) : WPG C Z code ml own rt nm R n0 G cl sl h pc Ls (.int j :: .ref a :: st) := by
  subst hp hv
  obtain ⟨c, A, r1, r2, r3, r4⟩ := A
  obtain ⟨q1, q2⟩ := idxN hi hl
  exact hr.pure fun X hx hby hown hZ eT t q => X.baloadBooleans hx (j := j) (by rw [eT]; exact A.1) (State.isArrayOf_alike hZ.alike A.2.1) A.2.2 (by rw [r1]; exact q1) (by rw [q2]; exact r3 i hl) (g := mkF _ pc Ls (.int j :: .ref a :: st)) rfl rfl (hb hby hd) t q
theorem WP.caload {a : Addr} {j : Int32} {n : Nat} {f : Nat → Value} {v : Value} (i : Nat) (hd : decode code pc = .ok (.caload, 1)) (hp : pc + 1 = pc') (A : Arf Z h a .char n f) (hi : j.toInt = (i : Int)) (hl : i < n) (hv : f i = v) (hr : WPG C Z code ml own rt nm R n0 G cl sl h pc' Ls (v :: st)) : WPG C Z code ml own rt nm R n0 G cl sl h pc Ls (.int j :: .ref a :: st) := by
  subst hp hv
  obtain ⟨c, A, r1, r2, r3, r4⟩ := A
  obtain ⟨q1, q2⟩ := idxN hi hl
  exact hr.pure fun X hx hby hown hZ eT t q => X.caload hx (j := j) (by rw [eT]; exact A.1) (State.isArrayOf_alike hZ.alike A.2.1) A.2.2 (by rw [r1]; exact q1) (by rw [q2]; exact r3 i hl) (g := mkF _ pc Ls (.int j :: .ref a :: st)) rfl rfl (hb hby hd) t q
theorem WP.iaload {a : Addr} {j : Int32} {n : Nat} {f : Nat → Value} {v : Value} (i : Nat) (hd : decode code pc = .ok (.iaload, 1)) (hp : pc + 1 = pc') (A : Arf Z h a .int n f) (hi : j.toInt = (i : Int)) (hl : i < n) (hv : f i = v) (hr : WPG C Z code ml own rt nm R n0 G cl sl h pc' Ls (v :: st)) : WPG C Z code ml own rt nm R n0 G cl sl h pc Ls (.int j :: .ref a :: st) := by
  subst hp hv
  obtain ⟨c, A, r1, r2, r3, r4⟩ := A
  obtain ⟨q1, q2⟩ := idxN hi hl
  exact hr.pure fun X hx hby hown hZ eT t q => X.iaload hx (j := j) (by rw [eT]; exact A.1) (State.isArrayOf_alike hZ.alike A.2.1) A.2.2 (by rw [r1]; exact q1) (by rw [q2]; exact r3 i hl) (g := mkF _ pc Ls (.int j :: .ref a :: st)) rfl rfl (hb hby hd) t q
theorem WP.laload {a : Addr} {j : Int32} {n : Nat} {f : Nat → Value} {v : Value} (i : Nat) (hd : decode code pc = .ok (.laload, 1)) (hp : pc + 1 = pc') (A : Arf Z h a .long n f) (hi : j.toInt = (i : Int)) (hl : i < n) (hv : f i = v) (hr : WPG C Z code ml own rt nm R n0 G cl sl h pc' Ls (v :: st)) : WPG C Z code ml own rt nm R n0 G cl sl h pc Ls (.int j :: .ref a :: st) := by
  subst hp hv
  obtain ⟨c, A, r1, r2, r3, r4⟩ := A
  obtain ⟨q1, q2⟩ := idxN hi hl
  exact hr.pure fun X hx hby hown hZ eT t q => X.laload hx (j := j) (by rw [eT]; exact A.1) (State.isArrayOf_alike hZ.alike A.2.1) A.2.2 (by rw [r1]; exact q1) (by rw [q2]; exact r3 i hl) (g := mkF _ pc Ls (.int j :: .ref a :: st)) rfl rfl (hb hby hd) t q
theorem WP.saload {a : Addr} {j : Int32} {n : Nat} {f : Nat → Value} {v : Value} (i : Nat) (hd : decode code pc = .ok (.saload, 1)) (hp : pc + 1 = pc') (A : Arf Z h a .short n f) (hi : j.toInt = (i : Int)) (hl : i < n) (hv : f i = v) (hr : WPG C Z code ml own rt nm R n0 G cl sl h pc' Ls (v :: st)) : WPG C Z code ml own rt nm R n0 G cl sl h pc Ls (.int j :: .ref a :: st) := by
  subst hp hv
  obtain ⟨c, A, r1, r2, r3, r4⟩ := A
  obtain ⟨q1, q2⟩ := idxN hi hl
  exact hr.pure fun X hx hby hown hZ eT t q => X.saload hx (j := j) (by rw [eT]; exact A.1) (State.isArrayOf_alike hZ.alike A.2.1) A.2.2 (by rw [r1]; exact q1) (by rw [q2]; exact r3 i hl) (g := mkF _ pc Ls (.int j :: .ref a :: st)) rfl rfl (hb hby hd) t q
theorem WP.aaload {a : Addr} {j : Int32} {n : Nat} {f : Nat → Value} {v : Value} {ty : FieldType} (i : Nat) (hd : decode code pc = .ok (.aaload, 1)) (hp : pc + 1 = pc') (A : Arf Z h a ty n f) (hty : ty.isReference = true) (hi : j.toInt = (i : Int)) (hl : i < n) (hv : f i = v) (hr : WPG C Z code ml own rt nm R n0 G cl sl h pc' Ls (v :: st)) : WPG C Z code ml own rt nm R n0 G cl sl h pc Ls (.int j :: .ref a :: st) := by
  subst hp hv
  obtain ⟨c, A, r1, r2, r3, r4⟩ := A
  obtain ⟨q1, q2⟩ := idxN hi hl
  exact hr.pure fun X hx hby hown hZ eT t q => X.aaload hx (j := j) (by rw [eT]; exact A.1) (State.isArrayOf_alike hZ.alike A.2.1) hty A.2.2 (by rw [r1]; exact q1) (by rw [q2]; exact r3 i hl) (g := mkF _ pc Ls (.int j :: .ref a :: st)) rfl rfl (hb hby hd) t q
theorem WP.arraylength {a : Addr} {n : Nat} {f : Nat → Value} {ty : FieldType} {z : Int32} (hd : decode code pc = .ok (.arraylength, 1)) (hp : pc + 1 = pc') (A : Arf Z h a ty n f) (hz : n.toInt32 = z) (hr : WPG C Z code ml own rt nm R n0 G cl sl h pc' Ls (.int z :: st)) : WPG C Z code ml own rt nm R n0 G cl sl h pc Ls (.ref a :: st) := by
  subst hp hz
  obtain ⟨c, A, r1, r2, r3, r4⟩ := A
  exact hr.pure fun X hx hby hown hZ eT t q => X.arraylength hx (by rw [eT]; exact A.1) (State.isArrayOf_alike hZ.alike A.2.1) (g := mkF _ pc Ls (.ref a :: st)) rfl rfl (hb hby hd) t (by rw [r1]; exact q)
theorem Arf.set {h' : Heap} {a : Addr} {ty : FieldType} {n : Nat} {f : Nat → Value} {c : Cell} {v : Value} {j : Int32} {i : Nat} (A : Arr Z h a c ty) (r1 : c.slots.size = n) (r2 : n < 2147483648) (r3 : ∀ i, i < n → c.slots[i]? = some (f i)) (r4 : ∀ i, i < n → fits ty (f i) = true) (hv : fits ty v = true) (W : Wr h h' a j.toNatClampNeg v) (hj : j.toNatClampNeg = i) (hl : i < n) : Arf Z h' a ty n (fun k => if k = i then v else f k) := by
  subst hj
  refine ⟨_, A.same W, by rw [sz_set]; exact r1, r2, fun k hk => ?_, fun k hk => ?_⟩
  · by_cases e : k = j.toNatClampNeg
    · show _ = some (if k = j.toNatClampNeg then v else f k)
      rw [if_pos e, e]; simp [Cell.setSlot, r1, hl]
    · show _ = some (if k = j.toNatClampNeg then v else f k)
      rw [if_neg e, ← r3 k hk]; exact Array.getElem?_setIfInBounds_ne (Ne.symm e)
  · by_cases e : k = j.toNatClampNeg
    · simp only [if_pos e]; exact hv
    · simp only [if_neg e]; exact r4 k hk
theorem WP.bastore {a : Addr} {j : Int32} {x : Int32} {n : Nat} {f : Nat → Value} (i : Nat) (hd : decode code pc = .ok (.bastore, 1)) (hp : pc + 1 = pc') (A : Arf Z h a .byte n f) (hi : j.toInt = (i : Int)) (hl : i < n) (ge : n0 ≤ a) (hr : ∀ h', Keep h h' [a] → Arf Z h' a .byte n (fun k => if k = i then .int (nar .byte x) else f k) → WPG C Z code ml own rt nm R n0 G cl sl h' pc' Ls st) : WPG C Z code ml own rt nm R n0 G cl sl h pc Ls (.int x :: .int j :: .ref a :: st) := by
  subst hp
  obtain ⟨c, A, r1, r2, r3, r4⟩ := A
  obtain ⟨q1, q2⟩ := idxN hi hl
  intro k1 k2 k3 k4 k5 k6 k7 k8 T locs X e N
  obtain ⟨T', h', X', e', W', k⟩ := stB X k1 k5 e A (j := j) (x := x) (by rw [r1]; exact q1) (g := mkF _ pc Ls (.int x :: .int j :: .ref a :: st)) rfl rfl (hb k2 hd)
  obtain ⟨s₂, v', L', h1, h2⟩ := hr h' (Keep.of_wr W') (Arf.set A r1 r2 r3 r4 (fits_nar_byte x) W' q2 hl) k1 k2 k3 k4 k5 k6 k7 k8 T' _ X' e' (Fr.snoc X' N ge)
  exact ⟨s₂, v', L', k _ h1, h2⟩
theorem WP.castore {a : Addr} {j : Int32} {x : Int32} {n : Nat} {f : Nat → Value} (i : Nat) (hd : decode code pc = .ok (.castore, 1)) (hp : pc + 1 = pc') (A : Arf Z h a .char n f) (hi : j.toInt = (i : Int)) (hl : i < n) (ge : n0 ≤ a) (hr : ∀ h', Keep h h' [a] → Arf Z h' a .char n (fun k => if k = i then .int (nar .char x) else f k) → WPG C Z code ml own rt nm R n0 G cl sl h' pc' Ls st) : WPG C Z code ml own rt nm R n0 G cl sl h pc Ls (.int x :: .int j :: .ref a :: st) := by
  subst hp
  obtain ⟨c, A, r1, r2, r3, r4⟩ := A
  obtain ⟨q1, q2⟩ := idxN hi hl
  intro k1 k2 k3 k4 k5 k6 k7 k8 T locs X e N
  obtain ⟨T', h', X', e', W', k⟩ := stC X k1 k5 e A (j := j) (x := x) (by rw [r1]; exact q1) (g := mkF _ pc Ls (.int x :: .int j :: .ref a :: st)) rfl rfl (hb k2 hd)
  obtain ⟨s₂, v', L', h1, h2⟩ := hr h' (Keep.of_wr W') (Arf.set A r1 r2 r3 r4 (fits_nar_char x) W' q2 hl) k1 k2 k3 k4 k5 k6 k7 k8 T' _ X' e' (Fr.snoc X' N ge)
  exact ⟨s₂, v', L', k _ h1, h2⟩
theorem WP.iastore {a : Addr} {j : Int32} {x : Int32} {n : Nat} {f : Nat → Value} (i : Nat) (hd : decode code pc = .ok (.iastore, 1)) (hp : pc + 1 = pc') (A : Arf Z h a .int n f) (hi : j.toInt = (i : Int)) (hl : i < n) (ge : n0 ≤ a) (hr : ∀ h', Keep h h' [a] → Arf Z h' a .int n (fun k => if k = i then .int x else f k) → WPG C Z code ml own rt nm R n0 G cl sl h' pc' Ls st) : WPG C Z code ml own rt nm R n0 G cl sl h pc Ls (.int x :: .int j :: .ref a :: st) := by
  subst hp
  obtain ⟨c, A, r1, r2, r3, r4⟩ := A
  obtain ⟨q1, q2⟩ := idxN hi hl
  intro k1 k2 k3 k4 k5 k6 k7 k8 T locs X e N
  obtain ⟨T', h', X', e', W', k⟩ := stI X k1 k5 e A (j := j) (x := x) (by rw [r1]; exact q1) (g := mkF _ pc Ls (.int x :: .int j :: .ref a :: st)) rfl rfl (hb k2 hd)
  obtain ⟨s₂, v', L', h1, h2⟩ := hr h' (Keep.of_wr W') (Arf.set A r1 r2 r3 r4 rfl W' q2 hl) k1 k2 k3 k4 k5 k6 k7 k8 T' _ X' e' (Fr.snoc X' N ge)
  exact ⟨s₂, v', L', k _ h1, h2⟩
theorem WP.lastore {a : Addr} {j : Int32} {x : Int64} {n : Nat} {f : Nat → Value} (i : Nat) (hd : decode code pc = .ok (.lastore, 1)) (hp : pc + 1 = pc') (A : Arf Z h a .long n f) (hi : j.toInt = (i : Int)) (hl : i < n) (ge : n0 ≤ a) (hr : ∀ h', Keep h h' [a] → Arf Z h' a .long n (fun k => if k = i then .long x else f k) → WPG C Z code ml own rt nm R n0 G cl sl h' pc' Ls st) : WPG C Z code ml own rt nm R n0 G cl sl h pc Ls (.long x :: .int j :: .ref a :: st) := by
  subst hp
  obtain ⟨c, A, r1, r2, r3, r4⟩ := A
  obtain ⟨q1, q2⟩ := idxN hi hl
  intro k1 k2 k3 k4 k5 k6 k7 k8 T locs X e N
  obtain ⟨T', h', X', e', W', k⟩ := stJ X k1 k5 e A (j := j) (x := x) (by rw [r1]; exact q1) (g := mkF _ pc Ls (.long x :: .int j :: .ref a :: st)) rfl rfl (hb k2 hd)
  obtain ⟨s₂, v', L', h1, h2⟩ := hr h' (Keep.of_wr W') (Arf.set A r1 r2 r3 r4 rfl W' q2 hl) k1 k2 k3 k4 k5 k6 k7 k8 T' _ X' e' (Fr.snoc X' N ge)
  exact ⟨s₂, v', L', k _ h1, h2⟩
theorem WP.newP {aty : ArrayType} {z : Int32} {n cap : Nat} {cl' sl' : Nat} (hd : decode code pc = .ok (.newarray aty, 2)) (hp : pc + 2 = pc') (w : (Jvm.Cond.arrayClass (newarray.typeOf aty)).before a0 Z = true) (hz : z.toInt = (n : Int)) (hcap : n ≤ cap) (hbig : cap * 8 ≤ 536870912) (hc : cl + 1 = cl') (hs : sl + cap = sl') (hc' : cl' ≤ R.cells) (hs' : sl' ≤ R.slots)
    (hr : ∀ h' a, a = h.size → Ext h h' → Arf Z h' a (newarray.typeOf aty) n (fun _ => defaultValue (newarray.typeOf aty)) → WPG C Z code ml own rt nm R n0 G cl' sl' h' pc' Ls (.ref a :: st)) : WPG C Z code ml own rt nm R n0 G cl sl h pc Ls (.int z :: st) := by
  subst hp hc hs
  have e0 : (0 : Int32).toInt = 0 := rfl
  have hzn : z.toNatClampNeg = n := by simp only [Int32.toNatClampNeg, hz]; omega
  have hzl : n < 2147483648 := by have := z.toInt_lt; omega
  intro k1 k2 k3 k4 k5 k6 k7 k8 T locs X e N
  obtain ⟨T', h', cA, X', e', E', A', k⟩ := RoadKit.newP X k1 k5 w e (g := mkF _ pc Ls (.int z :: st)) rfl (hb k2 hd) rfl (by rw [Int32.lt_iff_toInt_lt, hz, e0]; omega) (cap := cap) (by rw [hzn]; exact hcap) hbig hc' hs'
  obtain ⟨s₂, v', L', h1, h2⟩ := hr h' _ rfl E' ⟨_, A', by rw [sz_new, hzn], hzl, fun i hi => by simp [newA, hzn, hi], fun i _ => by cases aty <;> rfl⟩ k1 k2 k3 k4 k5 k6 k7 k8 T' _ X' e' N
  exact ⟨s₂, v', L', k _ h1, h2⟩
def updI (g : Nat → Int32) (i : Nat) (x : Int32) : Nat → Int32 := fun k => if k = i then x else g k
def Ari (Z : State) (h : Heap) (a : Addr) (ty : FieldType) (n : Nat) (g : Nat → Int32) : Prop := Arf Z h a ty n (fun i => .int (g i))
theorem Ari.lt {a : Addr} {ty : FieldType} {n : Nat} {g : Nat → Int32} (A : Ari Z h a ty n g) : a < h.size := Arf.lt A
theorem Ari.small {a : Addr} {ty : FieldType} {n : Nat} {g : Nat → Int32} (A : Ari Z h a ty n g) : n < 2147483648 := Arf.small A
theorem Ari.keep {h' : Heap} {ws : List Addr} {a : Addr} {ty : FieldType} {n : Nat} {g : Nat → Int32} (A : Ari Z h a ty n g) (K : Keep h h' ws) (q : a ∉ ws) : Ari Z h' a ty n g := Arf.keep A K q
theorem Ari.ext {h' : Heap} {a : Addr} {ty : FieldType} {n : Nat} {g : Nat → Int32} (A : Ari Z h a ty n g) (E : Ext h h') : Ari Z h' a ty n g := Arf.ext A E
theorem Ari.congr {a : Addr} {ty : FieldType} {n : Nat} {f g : Nat → Int32} (A : Ari Z h a ty n f) (q : ∀ i, i < n → f i = g i) : Ari Z h a ty n g := Arf.congr A fun i hi => congrArg Value.int (q i hi)
theorem upd_at (g : Nat → Int32) (i : Nat) (x : Int32) : updI g i x i = x := if_pos rfl
theorem upd_ne {g : Nat → Int32} {i k : Nat} {x : Int32} (q : k ≠ i) : updI g i x k = g k := if_neg q
theorem upd_if (g : Nat → Int32) (i : Nat) (x : Int32) : (fun k => if k = i then Value.int x else Value.int (g k)) = fun k => Value.int (updI g i x k) := by funext k; unfold updI; split <;> rfl
theorem litN (z : Int32) (n : Nat) (h : z.toInt = (n : Int)) : z.toInt = (n : Int) := h
theorem WP.baloadI {a : Addr} {j : Int32} {n : Nat} {g : Nat → Int32} {v : Int32} (i : Nat) (hd : decode code pc = .ok (.baload, 1)) (hp : pc + 1 = pc') (A : Ari Z h a .byte n g) (hi : j.toInt = (i : Int)) (hl : i < n) (hv : g i = v) (hr : WPG C Z code ml own rt nm R n0 G cl sl h pc' Ls (.int v :: st)) : WPG C Z code ml own rt nm R n0 G cl sl h pc Ls (.int j :: .ref a :: st) := WP.baload i hd hp A hi hl (congrArg Value.int hv) hr
theorem WP.baloadZI {a : Addr} {j : Int32} {n : Nat} {g : Nat → Int32} {v : Int32} (i : Nat) (hd : decode code pc = .ok (.baload, 1)) (hp : pc + 1 = pc') (A : Ari Z h a .boolean n g) (hi : j.toInt = (i : Int)) (hl : i < n) (hv : g i = v) (hr : WPG C Z code ml own rt nm R n0 G cl sl h pc' Ls (.int v :: st)) : WPG C Z code ml own rt nm R n0 G cl sl h pc Ls (.int j :: .ref a :: st) := WP.baloadZ i hd hp A hi hl (congrArg Value.int hv) hr
theorem WP.caloadI {a : Addr} {j : Int32} {n : Nat} {g : Nat → Int32} {v : Int32} (i : Nat) (hd : decode code pc = .ok (.caload, 1)) (hp : pc + 1 = pc') (A : Ari Z h a .char n g) (hi : j.toInt = (i : Int)) (hl : i < n) (hv : g i = v) (hr : WPG C Z code ml own rt nm R n0 G cl sl h pc' Ls (.int v :: st)) : WPG C Z code ml own rt nm R n0 G cl sl h pc Ls (.int j :: .ref a :: st) := WP.caload i hd hp A hi hl (congrArg Value.int hv) hr
theorem WP.ialoadI {a : Addr} {j : Int32} {n : Nat} {g : Nat → Int32} {v : Int32} (i : Nat) (hd : decode code pc = .ok (.iaload, 1)) (hp : pc + 1 = pc') (A : Ari Z h a .int n g) (hi : j.toInt = (i : Int)) (hl : i < n) (hv : g i = v) (hr : WPG C Z code ml own rt nm R n0 G cl sl h pc' Ls (.int v :: st)) : WPG C Z code ml own rt nm R n0 G cl sl h pc Ls (.int j :: .ref a :: st) := WP.iaload i hd hp A hi hl (congrArg Value.int hv) hr
theorem WP.saloadI {a : Addr} {j : Int32} {n : Nat} {g : Nat → Int32} {v : Int32} (i : Nat) (hd : decode code pc = .ok (.saload, 1)) (hp : pc + 1 = pc') (A : Ari Z h a .short n g) (hi : j.toInt = (i : Int)) (hl : i < n) (hv : g i = v) (hr : WPG C Z code ml own rt nm R n0 G cl sl h pc' Ls (.int v :: st)) : WPG C Z code ml own rt nm R n0 G cl sl h pc Ls (.int j :: .ref a :: st) := WP.saload i hd hp A hi hl (congrArg Value.int hv) hr
theorem WP.bastoreI {a : Addr} {j x x' : Int32} {n : Nat} {g : Nat → Int32} (i : Nat) (hd : decode code pc = .ok (.bastore, 1)) (hp : pc + 1 = pc') (A : Ari Z h a .byte n g) (hi : j.toInt = (i : Int)) (hl : i < n) (ge : n0 ≤ a) (hx : nar .byte x = x') (hr : ∀ h', Keep h h' [a] → Ari Z h' a .byte n (updI g i x') → WPG C Z code ml own rt nm R n0 G cl sl h' pc' Ls st) : WPG C Z code ml own rt nm R n0 G cl sl h pc Ls (.int x :: .int j :: .ref a :: st) := by
  subst hx
  exact WP.bastore i hd hp A hi hl ge fun h' K A' => hr h' K (by unfold Ari; rw [← upd_if]; exact A')
theorem WP.castoreI {a : Addr} {j x x' : Int32} {n : Nat} {g : Nat → Int32} (i : Nat) (hd : decode code pc = .ok (.castore, 1)) (hp : pc + 1 = pc') (A : Ari Z h a .char n g) (hi : j.toInt = (i : Int)) (hl : i < n) (ge : n0 ≤ a) (hx : nar .char x = x') (hr : ∀ h', Keep h h' [a] → Ari Z h' a .char n (updI g i x') → WPG C Z code ml own rt nm R n0 G cl sl h' pc' Ls st) : WPG C Z code ml own rt nm R n0 G cl sl h pc Ls (.int x :: .int j :: .ref a :: st) := by
  subst hx
  exact WP.castore i hd hp A hi hl ge fun h' K A' => hr h' K (by unfold Ari; rw [← upd_if]; exact A')
theorem WP.iastoreI {a : Addr} {j x x' : Int32} {n : Nat} {g : Nat → Int32} (i : Nat) (hd : decode code pc = .ok (.iastore, 1)) (hp : pc + 1 = pc') (A : Ari Z h a .int n g) (hi : j.toInt = (i : Int)) (hl : i < n) (ge : n0 ≤ a) (hx : x = x') (hr : ∀ h', Keep h h' [a] → Ari Z h' a .int n (updI g i x') → WPG C Z code ml own rt nm R n0 G cl sl h' pc' Ls st) : WPG C Z code ml own rt nm R n0 G cl sl h pc Ls (.int x :: .int j :: .ref a :: st) := by
  subst hx
  exact WP.iastore i hd hp A hi hl ge fun h' K A' => hr h' K (by unfold Ari; rw [← upd_if]; exact A')
theorem WP.newPI {aty : ArrayType} {ty : FieldType} {z : Int32} {n cap : Nat} {cl' sl' : Nat} (hd : decode code pc = .ok (.newarray aty, 2)) (hp : pc + 2 = pc') (hty : newarray.typeOf aty = ty) (hdv : defaultValue ty = .int 0) (w : (Jvm.Cond.arrayClass ty).before a0 Z = true) (hz : z.toInt = (n : Int)) (hcap : n ≤ cap) (hbig : cap * 8 ≤ 536870912) (hc : cl + 1 = cl') (hs : sl + cap = sl') (hc' : cl' ≤ R.cells) (hs' : sl' ≤ R.slots)
    (hr : ∀ h' a, a = h.size → Ext h h' → Ari Z h' a ty n (fun _ => 0) → WPG C Z code ml own rt nm R n0 G cl' sl' h' pc' Ls (.ref a :: st)) : WPG C Z code ml own rt nm R n0 G cl sl h pc Ls (.int z :: st) := by
  subst hty
  exact WP.newP hd hp w hz hcap hbig hc hs hc' hs' fun h' a e E A => hr h' a e E (by rw [hdv] at A; exact A)
theorem WP.arraylengthI {a : Addr} {n : Nat} {g : Nat → Int32} {ty : FieldType} {z : Int32} (hd : decode code pc = .ok (.arraylength, 1)) (hp : pc + 1 = pc') (A : Ari Z h a ty n g) (hz : n.toInt32 = z) (hr : WPG C Z code ml own rt nm R n0 G cl sl h pc' Ls (.int z :: st)) : WPG C Z code ml own rt nm R n0 G cl sl h pc Ls (.ref a :: st) := WP.arraylength hd hp A hz hr
/-- the array's class is that of arrays of C -/
def Ocl (Z : State) (h : Heap) (a : Addr) (K : String) : Prop := ∃ c : Cell, h[a]? = some c ∧ Ovr Z c.cls K
theorem Ocl.ext {h' : Heap} {a : Addr} {K : String} (O : Ocl Z h a K) (E : Ext h h') : Ocl Z h' a K := by obtain ⟨c, h1, h2⟩ := O; exact ⟨c, E.2 _ _ h1, h2⟩
theorem Ocl.keep {h' : Heap} {ws : List Addr} {a : Addr} {K : String} (O : Ocl Z h a K) (E : Keep h h' ws) : Ocl Z h' a K := by
  obtain ⟨c, h1, h2⟩ := O
  obtain ⟨c', q1, q2, -⟩ := E.2.2 _ _ h1
  exact ⟨c', q1, by rw [q2]; exact h2⟩
theorem Ocl.sto {a y : Addr} {K : String} {ty : FieldType} {n : Nat} {f : Nat → Value} (O : Ocl Z h a K) (A : Arf Z h a ty n f) (I : Ins Z h y K true) : Sto Z h a (.ref y) := by
  obtain ⟨c, h1, h2⟩ := O
  obtain ⟨c', A, -⟩ := A
  cases h1.symm.trans A.1
  exact Sto.of A h2 I
def updV (g : Nat → Value) (i : Nat) (x : Value) : Nat → Value := fun k => if k = i then x else g k
theorem WP.newR {i n cap : Nat} {K : String} {z : Int32} {cl' sl' : Nat} (hd : decode code pc = .ok (.anewarray i, 3)) (hp : pc + 3 = pc') (w1 : (Jvm.Cond.classLink own i K).before a0 Z = true) (w2 : (Jvm.Cond.arrayOver (.object K)).before a0 Z = true) (hz : z.toInt = (n : Int)) (hcap : n ≤ cap) (hbig : cap * 8 ≤ 536870912) (hc : cl + 1 = cl') (hs : sl + cap = sl') (hc' : cl' ≤ R.cells) (hs' : sl' ≤ R.slots)
    (hr : ∀ h' a, a = h.size → Ext h h' → Arf Z h' a (.object K) n (fun _ => .null) → Ocl Z h' a K → WPG C Z code ml own rt nm R n0 G cl' sl' h' pc' Ls (.ref a :: st)) : WPG C Z code ml own rt nm R n0 G cl sl h pc Ls (.int z :: st) := by
  subst hp hc hs
  have e0 : (0 : Int32).toInt = 0 := rfl
  have hzn : z.toNatClampNeg = n := by simp only [Int32.toNatClampNeg, hz]; omega
  have hzl : n < 2147483648 := by have := z.toInt_lt; omega
  intro k1 k2 k3 k4 k5 k6 k7 k8 T locs X e N
  obtain ⟨T', h', cA, X', e', E', A', O', k⟩ := RoadKit.newR X k1 k5 k4 w1 w2 e (g := mkF _ pc Ls (.int z :: st)) rfl (hb k2 hd) rfl (by rw [Int32.lt_iff_toInt_lt, hz, e0]; omega) (cap := cap) (by rw [hzn]; exact hcap) hbig hc' hs'
  obtain ⟨s₂, v', L', h1, h2⟩ := hr h' _ rfl E' ⟨_, A', by rw [sz_new, hzn], hzl, fun i hi => by simp [newA, hzn, hi, defaultValue], fun i _ => rfl⟩ ⟨_, A'.1, O'⟩ k1 k2 k3 k4 k5 k6 k7 k8 T' _ X' e' N
  exact ⟨s₂, v', L', k _ h1, h2⟩
theorem WP.aastore {a : Addr} {j : Int32} {x : Value} {n : Nat} {f : Nat → Value} {ty : FieldType} (i : Nat) (hd : decode code pc = .ok (.aastore, 1)) (hp : pc + 1 = pc') (A : Arf Z h a ty n f) (hty : ty.isReference = true) (F : Sto Z h a x) (hf : fits ty x = true) (hi : j.toInt = (i : Int)) (hl : i < n) (ge : n0 ≤ a) (hr : ∀ h', Keep h h' [a] → Arf Z h' a ty n (updV f i x) → WPG C Z code ml own rt nm R n0 G cl sl h' pc' Ls st) : WPG C Z code ml own rt nm R n0 G cl sl h pc Ls (x :: .int j :: .ref a :: st) := by
  subst hp
  obtain ⟨c, A, r1, r2, r3, r4⟩ := A
  obtain ⟨q1, q2⟩ := idxN hi hl
  intro k1 k2 k3 k4 k5 k6 k7 k8 T locs X e N
  obtain ⟨T', h', X', e', W', k⟩ := stR X k1 k5 e A (j := j) (by rw [r1]; exact q1) hty F (g := mkF _ pc Ls (x :: .int j :: .ref a :: st)) rfl rfl (hb k2 hd)
  obtain ⟨s₂, v', L', h1, h2⟩ := hr h' (Keep.of_wr W') (Arf.set A r1 r2 r3 r4 hf W' q2 hl) k1 k2 k3 k4 k5 k6 k7 k8 T' _ X' e' (Fr.snoc X' N ge)
  exact ⟨s₂, v', L', k _ h1, h2⟩
theorem getD_range {f : Nat → Int32} {m n : Nat} (h : m < n) : ((List.range n).map fun i => Value.int (f i)).getD m (.int 0) = .int (f m) := by
  simp [List.getD_eq_getElem?_getD, h]
theorem Ari.arv {a : Addr} {ty : FieldType} {n : Nat} {g : Nat → Int32} (A : Ari Z h a ty n g) : ∃ (k : ClassId) (z : Int32), z.toNatClampNeg = n ∧ Arv Z h a k ty z ((List.range n).map fun i => Value.int (g i)) (.int 0) := by
  obtain ⟨c, A, r1, r2, r3, r4⟩ := A
  have e1 : n.toInt32.toInt = (n : Int) := len_toInt r2
  have e0 : (0 : Int32).toInt = 0 := rfl
  have e2 : n.toInt32.toNatClampNeg = n := by simp only [Int32.toNatClampNeg, e1]; omega
  refine ⟨c.cls, n.toInt32, e2, c, A, rfl, by rw [e2]; exact r1, by rw [Int32.lt_iff_toInt_lt, e1, e0]; omega, fun i hi => ?_, fun i hi => ?_⟩
  · rw [r1] at hi; rw [getD_range hi]; exact r3 i hi
  · rw [r1] at hi; rw [getD_range hi]; exact r4 i hi
/-- n elements of f from sp on, laid into g from dp on -/
def blit (f g : Nat → Int32) (sp dp n : Nat) : Nat → Int32 := fun k => if dp ≤ k ∧ k < dp + n then f (sp + (k - dp)) else g k
theorem WP.arraycopy {i : Nat} {a b : Addr} {ty : FieldType} {na nb sp dp nn wd : Nat} {zs zd zn : Int32} {f g : Nat → Int32} (hd : decode code pc = .ok (.invokestatic i, 3)) (hp : pc + 3 = pc') (w1 : (Jvm.Cond.methodLink own i Jvm.Stand.acN).before a0 Z = true) (w2 : (Jvm.Cond.native Jvm.Stand.acN).before a0 Z = true) (w3 : (Jvm.Cond.static Jvm.Stand.acN).before a0 Z = true) (w4 : (Jvm.Cond.initialized "java/lang/System").before a0 Z = true) (A : Ari Z h a ty na f) (B : Ari Z h b ty nb g) (hty : refKind ty = false) (hs1 : zs.toInt = (sp : Int)) (hd1 : zd.toInt = (dp : Int)) (hn1 : zn.toInt = (nn : Int)) (h4 : sp + nn ≤ na) (h5 : dp + nn ≤ nb) (ge : n0 ≤ b) (hml : Ls.size = ml) (hf : 1 ≤ R.frames) (hw : (st.map fun v => v.category).sum ≤ wd) (hlo : wd + (nativeFrameWords "java/lang/System" "arraycopy" 5 + 11) ≤ R.locals)
    (hr : ∀ h', Keep h h' [b] → Ari Z h' b ty nb (blit f g sp dp nn) → WPG C Z code ml own rt nm R n0 G cl sl h' pc' Ls st) : WPG C Z code ml own rt nm R n0 G cl sl h pc Ls (.int zn :: .int zd :: .ref b :: .int zs :: .ref a :: st) := by
  subst hp
  obtain ⟨ka, za, ea, A'⟩ := A.arv
  obtain ⟨kb, zb, eb, B'⟩ := B.arv
  have hsm := B.small
  have e0 : (0 : Int32).toInt = 0 := rfl
  have q1 : zs.toNatClampNeg = sp := by simp only [Int32.toNatClampNeg, hs1]; omega
  have q2 : zd.toNatClampNeg = dp := by simp only [Int32.toNatClampNeg, hd1]; omega
  have q3 : zn.toNatClampNeg = nn := by simp only [Int32.toNatClampNeg, hn1]; omega
  intro k1 k2 k3 k4 k5 k6 k7 k8 T locs X e N
  obtain ⟨T', h', L', X', e', N', K', V', k⟩ := cpA X k1 k5 k4 w1 w2 w3 w4 e (sp := zs) (dp := zd) (nn := zn) A' B' (Or.inl ⟨rfl, hty⟩) (by rw [Int32.lt_iff_toInt_lt, hs1, e0]; omega) (by rw [Int32.lt_iff_toInt_lt, hd1, e0]; omega) (by rw [Int32.lt_iff_toInt_lt, hn1, e0]; omega) (by rw [q1, q3, ea]; exact h4) (by rw [q2, q3, eb]; exact h5) rfl (by rw [q2, q3, List.length_map, List.length_range]; exact h5) N ge (g := mkF _ pc Ls (.int zn :: .int zd :: .ref b :: .int zs :: .ref a :: st)) rfl (by rw [k3]; exact hml) rfl (hb k2 hd) hf (W := wd) (by show 2 * 0 + _ ≤ _; omega) hlo
  rw [q1, q2, q3] at V'
  have VV : Ari Z h' b ty nb (blit f g sp dp nn) := by
    obtain ⟨c, A, r1, r2, r3, H, G⟩ := V'
    rw [eb] at r2
    have key : ∀ i, i < nb → (((List.range nb).map fun i => Value.int (g i)).take dp ++ (List.range nn).map (fun i => ((List.range na).map fun i => Value.int (f i)).getD (sp + i) (.int 0)) ++ ((List.range nb).map fun i => Value.int (g i)).drop (dp + nn)).getD i (.int 0) = .int (blit f g sp dp nn i) := by
      intro i hi
      simp only [List.getD_eq_getElem?_getD, blit]
      by_cases c1 : i < dp
      · rw [List.append_assoc, List.getElem?_append_left (by simp; omega), if_neg (by omega)]; simp [List.getElem?_take, c1, hi]
      · by_cases c2 : i < dp + nn
        · rw [List.getElem?_append_left (by simp; omega), List.getElem?_append_right (by simp; omega), if_pos (by omega)]
          have z1 : min dp nb = dp := by omega
          have z2 : i - dp < nn := by omega
          have z3 : sp + (i - dp) < na := by omega
          simp [z1, z2, z3]
        · rw [List.getElem?_append_right (by simp; omega), if_neg (by omega)]
          have z1 : min dp nb = dp := by omega
          have z2 : dp + nn + (i - (dp + nn)) = i := by omega
          simp [z1, z2, hi]
    exact ⟨c, A, r2, hsm, fun i hi => by rw [H i (by rw [r2]; exact hi), key i hi], fun i hi => by have := G i (by rw [r2]; exact hi); rw [key i hi] at this; exact this⟩
  obtain ⟨s₂, v', L2, h1, h2⟩ := hr h' K' VV k1 k2 k3 k4 k5 k6 k7 k8 T' _ X' e' N'
  exact ⟨s₂, v', L2, k _ h1, h2⟩
theorem WP.initO {i : Nat} {a : Addr} {wd : Nat} (hd : decode code pc = .ok (.invokespecial i, 3)) (hp : pc + 3 = pc') (w1 : (Jvm.Cond.methodLink own i Lib.objectInit).before a0 Z = true) (w2 : (Jvm.Cond.instanceMethod Lib.objectInit).before a0 Z = true) (w3 : (Jvm.Cond.code Lib.objectInit ⟨#[0xb1]⟩ 1 none).before a0 Z = true) (hml : Ls.size = ml) (hf : 1 ≤ R.frames) (hw : (st.map fun v => v.category).sum ≤ wd) (hl : wd + 12 ≤ R.locals) (hr : WPG C Z code ml own rt nm R n0 G cl sl h pc' Ls st) : WPG C Z code ml own rt nm R n0 G cl sl h pc Ls (.ref a :: st) := by
  subst hp
  refine hr.step fun X hx hby hml' hown hZ hnm eT N => ?_
  obtain ⟨T', X', e', k⟩ := RoadKit.initO X hx hZ hown w1 w2 w3 eT (g := mkF _ pc Ls (.ref a :: st)) rfl (by rw [hml']; exact hml) rfl (hb hby hd) hf (W := wd) (by show 2 * 0 + _ ≤ _; omega) hl
  exact ⟨T', _, X', e', N, fun t q => k t q⟩
theorem WP.callS {i : Nat} {y : MethodName} {code' : ByteArray} {ml' wd cl' sl' : Nat} {rt' : Option FieldType} {R' : Room} {Q' : Option Value → Heap → Prop} {argsL rest : List Value} {ps : List FieldType} {rr : Option FieldType} (hd : decode code pc = .ok (.invokestatic i, 3)) (hp : pc + 3 = pc') (w1 : (Jvm.Cond.methodLink own i y).before a0 Z = true) (w2 : (Jvm.Cond.static y).before a0 Z = true) (w3 : (Jvm.Cond.initialized y.cls).before a0 Z = true) (w4 : (Jvm.Cond.code y code' ml' rt').before a0 Z = true) (hy : y.cls ≠ "java/lang/invoke/MethodHandle" ∧ y.cls ≠ "java/lang/invoke/VarHandle") (hM : ∀ l, Does l Z y code' ml' rt' R' n0 argsL.toArray h Q') (hpd : parseMethodDescriptor y.desc = some ⟨ps, rr⟩) (hlen : argsL.length = ps.length) (hst : st = argsL.reverse ++ rest) (hml : Ls.size = ml) (hw : (rest.map fun v => v.category).sum ≤ wd) (hrm : R'.frames + 1 ≤ R.frames) (hlo : wd + (ml' + 11) + R'.locals ≤ R.locals) (hc : cl + R'.cells = cl') (hs : sl + R'.slots = sl') (hc' : cl' ≤ R.cells) (hs' : sl' ≤ R.slots)
    (hr : ∀ v h', Q' v h' → WPG C Z code ml own rt nm R n0 G cl' sl' h' pc' Ls (v.toList ++ rest)) : WPG C Z code ml own rt nm R n0 G cl sl h pc Ls st := by
  subst hp hc hs
  intro k1 k2 k3 k4 k5 k6 k7 k8 T locs X e N
  obtain ⟨v, _, ⟨T', L', c', n'⟩, -, X', ⟨Lc, hQ, l1, y1, z1⟩, k⟩ := Jvm.LawKit.callS X k1 (y := y) k4 (mvT k5 w1) (mvT k5 w2) (mvT k5 w3) (mvT k5 w4) hy (backOf (W := wd) (Q := fun v h L => Q' v h ∧ Fr n0 L) (hM _ []) k5 w4 w3 hrm hlo) (g := mkF _ pc Ls st) rfl (by rw [k3]; exact hml) (argsL := argsL) (rest := rest) (lenOf hpd hlen) hst (by show 2 * 0 + _ ≤ _; omega) (hb k2 hd) (fun _ _ => ⟨rfl, e, hc', hs'⟩)
  dsimp only [Pt.U, Pt.locs, Pt.cells, Pt.slots] at X' l1 y1 z1 k hQ
  subst l1 y1 z1
  obtain ⟨s₂, v', L2, h1, h2⟩ := hr v _ hQ.1 k1 k2 k3 k4 k5 k6 k7 k8 T' _ X' rfl (Fr.app N hQ.2)
  exact ⟨s₂, v', L2, k _ h1, h2⟩
theorem WP.callI {a : Addr} {i : Nat} {y : MethodName} {code' : ByteArray} {ml' wd cl' sl' : Nat} {R' : Room} {Q' : Option Value → Heap → Prop} {argsL rest : List Value} {ps : List FieldType} {rr : Option FieldType} (hd : decode code pc = .ok (.invokespecial i, 3)) (hp : pc + 3 = pc') (hy1 : y.name = "<init>") (w1 : (Jvm.Cond.methodLink own i y).before a0 Z = true) (w2 : (Jvm.Cond.instanceMethod y).before a0 Z = true) (w3 : (Jvm.Cond.initialized y.cls).before a0 Z = true) (w4 : (Jvm.Cond.code y code' ml' none).before a0 Z = true) (hy : y.cls ≠ "java/lang/invoke/MethodHandle" ∧ y.cls ≠ "java/lang/invoke/VarHandle") (hM : ∀ l, Does l Z y code' ml' none R' n0 (.ref a :: argsL).toArray h Q') (hpd : parseMethodDescriptor y.desc = some ⟨ps, rr⟩) (hlen : argsL.length = ps.length) (hst : st = argsL.reverse ++ .ref a :: rest) (hml : Ls.size = ml) (hw : (rest.map fun v => v.category).sum ≤ wd) (hrm : R'.frames + 1 ≤ R.frames) (hlo : wd + (ml' + 11) + R'.locals ≤ R.locals) (hc : cl + R'.cells = cl') (hs : sl + R'.slots = sl') (hc' : cl' ≤ R.cells) (hs' : sl' ≤ R.slots)
    (hr : ∀ v h', Q' v h' → WPG C Z code ml own rt nm R n0 G cl' sl' h' pc' Ls (v.toList ++ rest)) : WPG C Z code ml own rt nm R n0 G cl sl h pc Ls st := by
  subst hp hc hs
  intro k1 k2 k3 k4 k5 k6 k7 k8 T locs X e N
  obtain ⟨v, _, ⟨T', L', c', n'⟩, -, X', ⟨Lc, hQ, l1, y1, z1⟩, k⟩ := X.specialBack k1 (y := y) hy1 k4 (mvT k5 w1) (mvT k5 w2) (mvT k5 w4) hy (backOf (W := wd) (Q := fun v h L => Q' v h ∧ Fr n0 L) (hM _ []) k5 w4 w3 hrm hlo) (g := mkF _ pc Ls st) rfl (by rw [k3]; exact hml) (Steps.refl _) (a := a) (argsL := argsL) (rest := rest) (lenOf hpd hlen) hst (by show 2 * 0 + _ ≤ _; omega) (hb k2 hd) (fun _ _ => ⟨rfl, e, hc', hs'⟩)
  dsimp only [Pt.U, Pt.locs, Pt.cells, Pt.slots] at X' l1 y1 z1 k hQ
  subst l1 y1 z1
  obtain ⟨s₂, v', L2, h1, h2⟩ := hr v _ hQ.1 k1 k2 k3 k4 k5 k6 k7 k8 T' _ X' rfl (Fr.app N hQ.2)
  exact ⟨s₂, v', L2, k.trans h1, h2⟩
theorem WP.callV {a : Addr} {z : MethodName} {K : String} {i : Nat} {y : MethodName} {code' : ByteArray} {ml' wd cl' sl' : Nat} {rt' : Option FieldType} {R' : Room} {Q' : Option Value → Heap → Prop} {argsL rest : List Value} {ps : List FieldType} {rr : Option FieldType} (hd : decode code pc = .ok (.invokevirtual i, 3)) (hp : pc + 3 = pc') (w1 : (Jvm.Cond.methodLink own i y).before a0 Z = true) (wd1 : (Jvm.Cond.declares y).before a0 Z = true) (hnf : ∀ s : State, Z.Warmed39 s.vm → NotFace s y) (ws : (Jvm.Cond.selects K y z).before a0 Z = true) (w2 : (Jvm.Cond.instanceMethod z).before a0 Z = true) (w3 : (Jvm.Cond.initialized z.cls).before a0 Z = true) (w4 : (Jvm.Cond.code z code' ml' rt').before a0 Z = true) (hy : y.cls ≠ "java/lang/invoke/MethodHandle" ∧ y.cls ≠ "java/lang/invoke/VarHandle") (E : Exa Z h a K) (hM : ∀ l, Does l Z z code' ml' rt' R' n0 (.ref a :: argsL).toArray h Q') (hpd : parseMethodDescriptor y.desc = some ⟨ps, rr⟩) (hlen : argsL.length = ps.length) (hst : st = argsL.reverse ++ .ref a :: rest) (hml : Ls.size = ml) (hw : (rest.map fun v => v.category).sum ≤ wd) (hrm : R'.frames + 1 ≤ R.frames) (hlo : wd + (ml' + 11) + R'.locals ≤ R.locals) (hc : cl + R'.cells = cl') (hs : sl + R'.slots = sl') (hc' : cl' ≤ R.cells) (hs' : sl' ≤ R.slots)
    (hr : ∀ v h', Q' v h' → WPG C Z code ml own rt nm R n0 G cl' sl' h' pc' Ls (v.toList ++ rest)) : WPG C Z code ml own rt nm R n0 G cl sl h pc Ls st := by
  subst hp hc hs
  intro k1 k2 k3 k4 k5 k6 k7 k8 T locs X e N
  obtain ⟨cq, kq, q1, q2, q3⟩ := isOf k5 e E
  obtain ⟨v, _, ⟨T', L', c', n'⟩, -, X', ⟨Lc, hQ, l1, y1, z1⟩, k⟩ := X.virtualBack k1 (y := y) (z := z) k4 (mvT k5 w1) (mvT k5 wd1) (hnf _ k5) (mvT k5 ws) (mvT k5 w2) hy (backOf (W := wd) (Q := fun v h L => Q' v h ∧ Fr n0 L) (hM _ []) k5 w4 w3 hrm hlo) q1 q3 (g := mkF _ pc Ls st) rfl (by rw [k3]; exact hml) (Steps.refl _) (argsL := argsL) (rest := rest) (lenOf hpd hlen) hst (by show 2 * 0 + _ ≤ _; omega) (hb k2 hd) (fun _ _ => ⟨rfl, e, hc', hs'⟩)
  dsimp only [Pt.U, Pt.locs, Pt.cells, Pt.slots] at X' l1 y1 z1 k hQ
  subst l1 y1 z1
  obtain ⟨s₂, v', L2, h1, h2⟩ := hr v _ hQ.1 k1 k2 k3 k4 k5 k6 k7 k8 T' _ X' rfl (Fr.app N hQ.2)
  exact ⟨s₂, v', L2, k.trans h1, h2⟩
theorem nfS {y z : MethodName} {K : String} (ws : (Jvm.Cond.selects K y z).before a0 Z = true) (e : y = z) : ∀ s : State, Z.Warmed39 s.vm → NotFace s y := by subst e; exact fun s k => notFace_of_selects (args := #[]) (mvT k ws)
theorem WP.callP {a : Addr} {K : String} {i : Nat} {y : MethodName} {code' : ByteArray} {ml' wd cl' sl' : Nat} {rt' : Option FieldType} {R' : Room} {Q' : Option Value → Heap → Prop} {argsL rest : List Value} {ps : List FieldType} {rr : Option FieldType} (hd : decode code pc = .ok (.invokevirtual i, 3)) (hp : pc + 3 = pc') (w1 : (Jvm.Cond.methodLink own i y).before a0 Z = true) (w2 : (Jvm.Cond.instanceMethod y).before a0 Z = true) (ws : (Jvm.Cond.selects y.cls y y).before a0 Z = true) (wp : (Jvm.Cond.privateMethod y).before a0 Z = true) (w3 : (Jvm.Cond.initialized y.cls).before a0 Z = true) (w4 : (Jvm.Cond.code y code' ml' rt').before a0 Z = true) (hy : y.cls ≠ "java/lang/invoke/MethodHandle" ∧ y.cls ≠ "java/lang/invoke/VarHandle") (E : Exa Z h a K) (hM : ∀ l, Does l Z y code' ml' rt' R' n0 (.ref a :: argsL).toArray h Q') (hpd : parseMethodDescriptor y.desc = some ⟨ps, rr⟩) (hlen : argsL.length = ps.length) (hst : st = argsL.reverse ++ .ref a :: rest) (hml : Ls.size = ml) (hw : (rest.map fun v => v.category).sum ≤ wd) (hrm : R'.frames + 1 ≤ R.frames) (hlo : wd + (ml' + 11) + R'.locals ≤ R.locals) (hc : cl + R'.cells = cl') (hs : sl + R'.slots = sl') (hc' : cl' ≤ R.cells) (hs' : sl' ≤ R.slots)
    (hr : ∀ v h', Q' v h' → WPG C Z code ml own rt nm R n0 G cl' sl' h' pc' Ls (v.toList ++ rest)) : WPG C Z code ml own rt nm R n0 G cl sl h pc Ls st := by
  subst hp hc hs
  intro k1 k2 k3 k4 k5 k6 k7 k8 T locs X e N
  obtain ⟨cq, q1, q2⟩ := E.cell
  obtain ⟨v, _, ⟨T', L', c', n'⟩, -, X', ⟨Lc, hQ, l1, y1, z1⟩, k⟩ := X.privateBack k1 (y := y) k4 (mvT k5 w1) (mvT k5 w2) (mvT k5 ws) (Cond.privateMethod_at (mvP k5 wp (args := #[]))) (mvT k5 w4) hy (backOf (W := wd) (Q := fun v h L => Q' v h ∧ Fr n0 L) (hM _ []) k5 w4 w3 hrm hlo) (g := mkF _ pc Ls st) rfl (by rw [k3]; exact hml) (Steps.refl _) (a := a) (by rw [e]; exact q1) q2 (argsL := argsL) (rest := rest) (lenOf hpd hlen) hst (by show 2 * 0 + _ ≤ _; omega) (hb k2 hd) (fun _ _ => ⟨rfl, e, hc', hs'⟩)
  dsimp only [Pt.U, Pt.locs, Pt.cells, Pt.slots] at X' l1 y1 z1 k hQ
  subst l1 y1 z1
  obtain ⟨s₂, v', L2, h1, h2⟩ := hr v _ hQ.1 k1 k2 k3 k4 k5 k6 k7 k8 T' _ X' rfl (Fr.app N hQ.2)
  exact ⟨s₂, v', L2, k.trans h1, h2⟩
theorem WP.iret {z : Int32} (hd : decode code pc = .ok (.ireturn, 1)) (hrt : rt = some .int) (hc : cl ≤ R.cells) (hs : sl ≤ R.slots) (hq : Q (some (.int z)) h) : WP C Z code ml own rt nm R n0 Q cl sl h pc Ls (.int z :: st) := by
  intro k1 k2 k3 k4 k5 k6 k7 k8 T locs X e N
  obtain ⟨fs, hr', hrun, hended, hW, hsame⟩ := X.leave (v := some (.int z)) (fun q => by rw [k6, hrt] at q; cases q) k7
  exact ⟨_, _, _, retOut X k1 (t := .int) (k6.trans hrt) rfl (Or.inl ⟨rfl, Or.inl rfl, _, rfl⟩) (hb k2 hd) hr', hrun, hended, by show Q _ T.heap; rw [e]; exact hq, N, ⟨_, rfl⟩, hW, hsame.mono hc hs⟩
theorem WP.lret {z : Int64} (hd : decode code pc = .ok (.lreturn, 1)) (hrt : rt = some .long) (hc : cl ≤ R.cells) (hs : sl ≤ R.slots) (hq : Q (some (.long z)) h) : WP C Z code ml own rt nm R n0 Q cl sl h pc Ls (.long z :: st) := by
  intro k1 k2 k3 k4 k5 k6 k7 k8 T locs X e N
  obtain ⟨fs, hr', hrun, hended, hW, hsame⟩ := X.leave (v := some (.long z)) (fun q => by rw [k6, hrt] at q; cases q) k7
  exact ⟨_, _, _, retOut X k1 (t := .long) (k6.trans hrt) rfl (Or.inr (Or.inl ⟨rfl, rfl, _, rfl⟩)) (hb k2 hd) hr', hrun, hended, by show Q _ T.heap; rw [e]; exact hq, N, ⟨_, rfl⟩, hW, hsame.mono hc hs⟩
theorem WP.dret {z : UInt64} (hd : decode code pc = .ok (.dreturn, 1)) (hrt : rt = some .double) (hc : cl ≤ R.cells) (hs : sl ≤ R.slots) (hq : Q (some (.double z)) h) : WP C Z code ml own rt nm R n0 Q cl sl h pc Ls (.double z :: st) := by
  intro k1 k2 k3 k4 k5 k6 k7 k8 T locs X e N
  obtain ⟨fs, hr', hrun, hended, hW, hsame⟩ := X.leave (v := some (.double z)) (fun q => by rw [k6, hrt] at q; cases q) k7
  exact ⟨_, _, _, retOut X k1 (t := .double) (k6.trans hrt) rfl (Or.inr (Or.inr (Or.inl ⟨rfl, rfl, _, rfl⟩))) (hb k2 hd) hr', hrun, hended, by show Q _ T.heap; rw [e]; exact hq, N, ⟨_, rfl⟩, hW, hsame.mono hc hs⟩
theorem WP.aret {z : Value} (hd : decode code pc = .ok (.areturn, 1)) {t : FieldType} (hrt : rt = some t) (ht : t.isReference = true) (hv : z.isRef = true) (hc : cl ≤ R.cells) (hs : sl ≤ R.slots) (hq : Q (some z) h) : WP C Z code ml own rt nm R n0 Q cl sl h pc Ls (z :: st) := by
  intro k1 k2 k3 k4 k5 k6 k7 k8 T locs X e N
  obtain ⟨fs, hr', hrun, hended, hW, hsame⟩ := X.leave (v := some z) (fun q => by rw [k6, hrt] at q; cases q) k7
  exact ⟨_, _, _, retOut X k1 (t := t) (k6.trans hrt) (by cases t <;> first | (cases ht; done) | rfl) (Or.inr (Or.inr (Or.inr (Or.inr ⟨rfl, ht, hv⟩)))) (hb k2 hd) hr', hrun, hended, by show Q _ T.heap; rw [e]; exact hq, N, ⟨_, rfl⟩, hW, hsame.mono hc hs⟩
theorem WP.nret {z : Int32} (hd : decode code pc = .ok (.ireturn, 1)) {t : FieldType} {z' : Int32} (hrt : rt = some t) (ht : t = .boolean ∨ t = .byte ∨ t = .char ∨ t = .short) (hz : nar t z = z') (hc : cl ≤ R.cells) (hs : sl ≤ R.slots) (hq : Q (some (.int z')) h) : WP C Z code ml own rt nm R n0 Q cl sl h pc Ls (.int z :: st) := by
  intro k1 k2 k3 k4 k5 k6 k7 k8 T locs X e N
  obtain ⟨fs, hr', hrun, hended, hW, hsame⟩ := X.leave (v := some (.int z')) (fun q => by rw [k6, hrt] at q; cases q) k7
  exact ⟨_, _, _, retN X k1 (t := t) (k6.trans hrt) ht (hb k2 hd) (by rw [hz]; exact hr'), hrun, hended, by show Q _ T.heap; rw [e]; exact hq, N, ⟨_, rfl⟩, hW, hsame.mono hc hs⟩
theorem WP.vret (hd : decode code pc = .ok (.return_, 1)) (hrt : rt = none) (hc : cl ≤ R.cells) (hs : sl ≤ R.slots) (hq : Q none h) : WP C Z code ml own rt nm R n0 Q cl sl h pc Ls [] := by
  intro k1 k2 k3 k4 k5 k6 k7 k8 T locs X e N
  obtain ⟨fs, hr', hrun, hended, hW, hsame⟩ := X.leave (v := none) (fun _ => rfl) k7
  exact ⟨_, _, _, X.returnOut k1 (k6.trans hrt) (hb k2 hd) hr', hrun, hended, by show Q _ T.heap; rw [e]; exact hq, N, ⟨_, rfl⟩, hW, hsame.mono hc hs⟩
end Rules
end Jvm.WK
namespace Jvm.WK
open Jvm Sem ClassFile Op Lib Jvm.Free Jvm.Stand Jvm.LawKit Jvm.RoadKit
def b2i (b : Bool) : Int32 := if b then 1 else 0
theorem selPriv {Z : State} {a0 : Array Value} {K : String} {y y' : MethodName} (w : (Jvm.Cond.selects K y' y').before a0 Z = true) (e : y'.cls = y.cls) (wp : (Jvm.Cond.privateMethod y).before a0 Z = true) (wi : (Jvm.Cond.instanceMethod y).before a0 Z = true) (hy : y.cls ≠ "java/lang/invoke/MethodHandle" ∧ y.cls ≠ "java/lang/invoke/VarHandle") : (Jvm.Cond.selects y.cls y y).before a0 Z = true := by
  obtain ⟨c2, r2, m2, -, -, q3, -, kP, hkP, hkPi⟩ := Cond.selects_spec w
  exact selects_self_of_private (by rw [← e]; exact findClass_of_methodNamed q3) hkP hkPi (Cond.privateMethod_at wp) wi hy
theorem b2i_t {P : Prop} [Decidable P] (h : P) : some (Value.int 1) = some (Value.int (b2i (decide P))) := by rw [decide_eq_true h]; rfl
theorem b2i_f {P : Prop} [Decidable P] (h : ¬ P) : some (Value.int 0) = some (Value.int (b2i (decide P))) := by rw [decide_eq_false h]; rfl
theorem b2i_congr {P P' : Prop} [Decidable P] [Decidable P'] (h : P ↔ P') : b2i (decide P) = b2i (decide P') := by rw [decide_eq_decide.mpr h]
theorem b2i_1 {b : Bool} : b2i b = 1 ↔ b = true := by cases b <;> simp [b2i]
theorem b2i_0 {b : Bool} : b2i b = 0 ↔ b = false := by cases b <;> simp [b2i]
theorem b2i_one (b : Bool) : b2i b &&& 1 = b2i b := by cases b <;> rfl
theorem eqInt_v {args : Array Value} {first s : State} {o : Option Outcome} {idx : List Nat} {t : Term} {k : Int32} (h : (Jvm.Cond.eq t (.int k)).value args first o s idx = some true) : t.eval args first o idx s = some (.int k) := by
  obtain ⟨x, y, e1, e2, k1, k2⟩ := cmp_v (Or.inl h)
  have e3 : y = .int k := by simpa [Term.eval] using e2.symm
  subst e3
  obtain ⟨z, rfl⟩ := k2
  simp [Cond.value, e1, Term.eval] at h
  rw [e1, h]
theorem Sta.of_exa {args : Array Value} {s : State} {C n d K : String} (h : (Jvm.Cond.exactly (.static C n d) K).value args s none s [] = some true) (hi : (Jvm.Cond.initializedFor C n d).before args s = true ∨ ((Jvm.Cond.initialized C).before args s = true ∧ (Jvm.Cond.laysStatic C n d).before args s = true)) :
    ∃ a, (Term.static C n d).eval args s none [] s = some (.ref a) ∧ Sta s s.heap C n d (.ref a) ∧ Exa s s.heap a K := by
  obtain ⟨a, e⟩ := exa_v h
  exact ⟨a, e, Sta.start e hi, Exa.start e h⟩
theorem Fld.of_eq {args : Array Value} {s : State} {t : Term} {a : Addr} {C n d : String} {k : Int32} (e : t.eval args s none [] s = some (.ref a)) (h : (Jvm.Cond.eq (.field t C n d) (.int k)).value args s none s [] = some true) : Fld s s.heap a C n d (.int k) := by
  have q := eqInt_v h
  rw [fld_at e] at q
  exact Fld.start q
theorem Ari.of_start {s : State} {a : Addr} {c : Cell} {ty : FieldType} (hf : Fit s) (A : Arr s s.heap a c ty) (ht : ty = .int ∨ ty = .boolean ∨ ty = .byte ∨ ty = .char ∨ ty = .short) (hsz : c.slots.size < 2147483648) :
    ∃ g : Nat → Int32, Ari s s.heap a ty c.slots.size g ∧ ∀ i x, c.slots[i]? = some (.int x) → g i = x := by
  have key : ∀ i, i < c.slots.size → ∃ x, c.slots[i]? = some (.int x) ∧ fits ty (.int x) = true := by
    intro i hi
    have e1 : i.toInt32.toInt = (i : Int) := len_toInt (show i < 2 ^ 31 by omega)
    have e : i.toInt32.toNatClampNeg = i := by simp only [Int32.toNatClampNeg, e1]; omega
    obtain ⟨v, h1, h2⟩ := elem_fit (j := i.toInt32) hf A (idx_in hi (show c.slots.size < 2 ^ 31 by omega))
    obtain ⟨x, rfl⟩ := fit_I h2 ht
    rw [e] at h1
    exact ⟨x, h1, h2⟩
  refine ⟨fun i => match c.slots[i]? with | some (.int x) => x | _ => 0, ⟨c, A, rfl, hsz, fun i hi => ?_, fun i hi => ?_⟩, fun i x h => by simp only [h]⟩
  · obtain ⟨x, h1, -⟩ := key i hi; simp only [h1]
  · obtain ⟨x, h1, h2⟩ := key i hi; simp only [h1]; exact h2
theorem len_small {args : Array Value} {first s : State} {o : Option Outcome} {idx : List Nat} {t : Term} {v : Value} {a : Addr} {c : Cell} (h : (Term.length t).eval args first o idx s = some v) (ht : t.eval args first o idx s = some (.ref a)) (ha : s.arrayAt? a = some c) : c.slots.size < 2 ^ 31 := by
  simp only [Term.eval, ht, ha, Option.bind_eq_bind, Option.bind_some] at h
  split at h
  · assumption
  · cases h
/-- an array that a static holds, pinned by a case's words -/
theorem Ari.of_static {s : State} {args : Array Value} {C n d : String} {ty : FieldType} {N : Int32} {k : Nat} (hf : Fit s) (hA : (Jvm.Cond.arrayOf (.static C n d) ty).value args s none s [] = some true) (hL : (Jvm.Cond.eq (.length (.static C n d)) (.int N)).value args s none s [] = some true)
    (ht : ty = .int ∨ ty = .boolean ∨ ty = .byte ∨ ty = .char ∨ ty = .short) (hi : (Jvm.Cond.initializedFor C n d).before args s = true ∨ ((Jvm.Cond.initialized C).before args s = true ∧ (Jvm.Cond.laysStatic C n d).before args s = true)) (hN : N.toInt = (k : Int)) :
    ∃ (a : Addr) (g : Nat → Int32), Sta s s.heap C n d (.ref a) ∧ Ari s s.heap a ty k g ∧
      (∀ (j x : Int32) (i : Nat), (Jvm.Cond.eq (.elem (.static C n d) (.int j)) (.int x)).value args s none s [] = some true → j.toInt = (i : Int) → g i = x) ∧
      (∀ c : Jvm.Cond, (Jvm.Cond.all (.static C n d) c).value args s none s [] = some true → ∀ i, i < k → c.value args s none s [i] = some true) ∧
      (∀ (i : Nat) (x : Int32), i < k → (Jvm.Cond.eq (.elem (.static C n d) (.index 0)) (.int x)).value args s none s [i] = some true → g i = x) := by
  obtain ⟨a, e⟩ := arr_v hA
  obtain ⟨c, A⟩ := Arr.start e hA
  have eL := eqInt_v hL
  have hat : s.arrayAt? a = some c := A.fin (Vm.Alike.refl _)
  have hsz : c.slots.size < 2 ^ 31 := len_small eL e hat
  obtain ⟨a', c', q1, q2, q3⟩ := Term.length_spec eL
  cases e.symm.trans q1
  cases hat.symm.trans q2
  have hk : c.slots.size = k := by
    have z := congrArg Int32.toInt (Value.int.inj q3)
    rw [len_toInt hsz] at z
    omega
  obtain ⟨g, G, hg⟩ := Ari.of_start hf A ht hsz
  rw [hk] at G
  refine ⟨a, g, Sta.start e hi, G, fun j x i h hj => ?_, fun c0 h i hi => Cond.all_elim e hat h i (by omega), fun i x hi h => ?_⟩
  · obtain ⟨h1, h2⟩ := elem_in (eqInt_v h) e (show (Term.int j).eval args s none [] s = some (.int j) from rfl) A.1
    have ej : j.toNatClampNeg = i := by simp only [Int32.toNatClampNeg, hj]; omega
    rw [ej] at h2
    exact hg i x h2
  · have e2 : (Term.static C n d).eval args s none [i] s = some (.ref a) := e
    obtain ⟨h1, h2⟩ := elem_in (eqInt_v h) e2 (show (Term.index 0).eval args s none [i] s = some (.int i.toInt32) from rfl) A.1
    have e1 : i.toInt32.toInt = (i : Int) := len_toInt (show i < 2 ^ 31 by omega)
    have ej : i.toInt32.toNatClampNeg = i := by simp only [Int32.toNatClampNeg, e1]; omega
    rw [ej] at h2
    exact hg i x h2
theorem Arf.of_static {s : State} {args : Array Value} {C n d K K' : String} {N : Int32} {k : Nat} {X : Jvm.Cond} (hA : (Jvm.Cond.arrayOf (.static C n d) (.object K)).value args s none s [] = some true) (hL : (Jvm.Cond.eq (.length (.static C n d)) (.int N)).value args s none s [] = some true)
    (hi : (Jvm.Cond.initializedFor C n d).before args s = true ∨ ((Jvm.Cond.initialized C).before args s = true ∧ (Jvm.Cond.laysStatic C n d).before args s = true)) (hN : N.toInt = (k : Int)) (hall : (Jvm.Cond.all (.static C n d) (.and (.exactly (.elem (.static C n d) (.index 0)) K') X)).value args s none s [] = some true) :
    ∃ (a : Addr) (f : Nat → Value), Sta s s.heap C n d (.ref a) ∧ Arf s s.heap a (.object K) k f ∧ ∀ i, i < k → ∃ y, f i = .ref y := by
  obtain ⟨a, e⟩ := arr_v hA
  obtain ⟨c, A⟩ := Arr.start e hA
  have eL := eqInt_v hL
  have hat : s.arrayAt? a = some c := A.fin (Vm.Alike.refl _)
  have hsz : c.slots.size < 2 ^ 31 := len_small eL e hat
  obtain ⟨a', c', q1, q2, q3⟩ := Term.length_spec eL
  cases e.symm.trans q1
  cases hat.symm.trans q2
  have hk : c.slots.size = k := by
    have z := congrArg Int32.toInt (Value.int.inj q3)
    rw [len_toInt hsz] at z
    omega
  have key : ∀ i, i < k → ∃ y, c.slots[i]? = some (.ref y) := fun i hi => by
    have h1 := (and_e (Cond.all_elim e hat hall i (by omega))).1
    obtain ⟨y, hy⟩ := exa_v h1
    have e2 : (Term.static C n d).eval args s none [i] s = some (.ref a) := e
    obtain ⟨-, h2⟩ := elem_in hy e2 (show (Term.index 0).eval args s none [i] s = some (.int i.toInt32) from rfl) A.1
    have e1 : i.toInt32.toInt = (i : Int) := len_toInt (show i < 2 ^ 31 by omega)
    have ej : i.toInt32.toNatClampNeg = i := by simp only [Int32.toNatClampNeg, e1]; omega
    rw [ej] at h2
    exact ⟨y, h2⟩
  refine ⟨a, fun i => (c.slots[i]?).getD .null, Sta.start e hi, ⟨c, A, hk, by omega, fun i hi => ?_, fun i hi => ?_⟩, fun i hi => ?_⟩
  · obtain ⟨y, hy⟩ := key i hi; simp [hy]
  · obtain ⟨y, hy⟩ := key i hi; simp [hy, fits]
  · obtain ⟨y, hy⟩ := key i hi; exact ⟨y, by simp [hy]⟩
theorem nar_char (x : Int32) : nar .char (nar .char x) = nar .char x := by
  have h1 := c_i2c x
  have h2 := c_i2c (nar .char x)
  apply Int32.toInt_inj.mp
  show (nar .char x).toUInt32.toUInt16.toUInt32.toInt32.toInt = x.toUInt32.toUInt16.toUInt32.toInt32.toInt
  have e : (nar .char x).toInt = x.toUInt32.toUInt16.toUInt32.toInt32.toInt := rfl
  omega
theorem idx_lt {args : Array Value} {s : State} {i : Nat} {lo : Int32} (hi : i < 2147483648) : (Jvm.Cond.lt (.index 0) (.int lo)).value args s none s [i] = some (decide ((i : Int) < lo.toInt)) := by
  have e1 : i.toInt32.toInt = (i : Int) := len_toInt (show i < 2 ^ 31 by omega)
  rw [Cond.lt_ints (x := i.toInt32) (y := lo) rfl rfl, Option.some.injEq, decide_eq_decide, Int32.lt_iff_toInt_lt, e1]
theorem idx_le {args : Array Value} {s : State} {i : Nat} {hi : Int32} (h : i < 2147483648) : (Jvm.Cond.le (.int hi) (.index 0)).value args s none s [i] = some (decide (hi.toInt ≤ (i : Int))) := by
  have e1 : i.toInt32.toInt = (i : Int) := len_toInt (show i < 2 ^ 31 by omega)
  rw [Cond.le_ints (x := hi) (y := i.toInt32) rfl rfl, Option.some.injEq, decide_eq_decide, Int32.le_iff_toInt_le, e1]
theorem or_v {args : Array Value} {first s : State} {o : Option Outcome} {idx : List Nat} {G X : Jvm.Cond} {P : Prop} [Decidable P] (h : (Jvm.Cond.or G X).value args first o s idx = some true) (h1 : G.value args first o s idx = some (decide P)) : P ∨ X.value args first o s idx = some true := by
  by_cases p : P
  · exact Or.inl p
  · rw [Cond.or_of_right (nay h1 p)] at h; exact Or.inr h
end Jvm.WK
namespace Jvm.WK
open Jvm Sem ClassFile Op Lib Jvm.Free Jvm.Stand Jvm.LawKit Jvm.RoadKit
/-- the surroundings, the first state's tables turned to vm0 -/
abbrev Cx.at (C : Cx) (vm0 : Vm) : Cx := (C.1, C.2.1, C.2.2.1, C.2.2.2.1.setVm vm0, C.2.2.2.2)
/-- the tables have come from the start to vm0, and every String constant of EL that is booked says its text -/
def Hd (C : Cx) (Z : State) (EL : List (String × Nat)) (vm0 : Vm) (h : Heap) : Prop := (∃ k0, C.2.2.2.1.Since vm0 k0 ∧ k0 ≤ h.size) ∧ CHr Z EL C.2.2.2.1.vm C.2.2.2.1.heap vm0 h ∧ Z.Warmed39 vm0
def Sn (C : Cx) (vm0 : Vm) (h : Heap) : Prop := ∃ k0, C.2.2.2.1.Since vm0 k0 ∧ k0 ≤ h.size
abbrev EndW (C : Cx) (R : Room) (n0 : Nat) (Q : Option Value → Heap → Prop) : State → Option Value → List Loc → Prop := fun s₂ v L => Q v s₂.heap ∧ Fr n0 L ∧ ReturnedEndW C.2.2.2.1 (.returned v) s₂ L R.cells R.slots
abbrev EndH (C : Cx) (Z : State) (EL : List (String × Nat)) (R : Room) (n0 : Nat) (Q : Option Value → Heap → Prop) : State → Option Value → List Loc → Prop := fun s₂ v L => EndW C R n0 Q s₂ v L ∧ CHr Z EL C.2.2.2.1.vm C.2.2.2.1.heap s₂.vm s₂.heap
section
variable {C : Cx} {Z : State} {EL : List (String × Nat)} {vm0 : Vm} {h h' : Heap}
theorem Hd.sn (H : Hd C Z EL vm0 h) : Sn C vm0 h := H.1
theorem Hd.size (H : Hd C Z EL vm0 h) : C.2.2.2.1.heap.size ≤ h.size := H.2.1.2.1
theorem Hd.ch (H : Hd C Z EL vm0 h) : CHv Z EL vm0 h := H.2.1.1
theorem Hd.warm (H : Hd C Z EL vm0 h) : Z.Warmed39 vm0 := H.2.2
theorem Hd.ext (H : Hd C Z EL vm0 h) (E : Ext h h') : Hd C Z EL vm0 h' := by
  obtain ⟨⟨k0, h1, h2⟩, h3, h4⟩ := H
  exact ⟨⟨k0, h1, Nat.le_trans h2 E.1⟩, h3.trans (CHr.ext E h3.1), h4⟩
theorem Hd.keep {ws : List Addr} (H : Hd C Z EL vm0 h) (K : Keep h h' ws) (hs : ∀ x ∈ ws, Safe Z EL vm0 h x) : Hd C Z EL vm0 h' := by
  obtain ⟨⟨k0, h1, h2⟩, h3, h4⟩ := H
  exact ⟨⟨k0, h1, Nat.le_trans h2 K.1⟩, h3.trans (CHr.keep K hs h3.1), h4⟩
theorem Wr.size {a : Addr} {sl : Nat} {v : Value} (W : Wr h h' a sl v) : h'.size = h.size := by obtain ⟨c0, -, -, -, rfl⟩ := W; simp
theorem Hd.wr {a : Addr} {sl : Nat} {v : Value} (H : Hd C Z EL vm0 h) (W : Wr h h' a sl v) (S : Safe Z EL vm0 h a) : Hd C Z EL vm0 h' := by
  obtain ⟨⟨k0, h1, h2⟩, h3, h4⟩ := H
  exact ⟨⟨k0, h1, by rw [Wr.size W]; exact h2⟩, h3.trans (CHr.wr W S h3.1), h4⟩
theorem Sn.grow (H : Sn C vm0 h) (e : h.size ≤ h'.size) : Sn C vm0 h' := by obtain ⟨k0, h1, h2⟩ := H; exact ⟨k0, h1, Nat.le_trans h2 e⟩
end
/-- WHAT A METHOD DOES THAT MAY INTERN -/
def DoesH (l : Launch) (Z : State) (EL : List (String × Nat)) (y : MethodName) (code : ByteArray) (ml : Nat) (rt : Option FieldType) (R : Room) (n0 : Nat) (as' : Array Value) (h0 : Heap) (Q : Option Value → Heap → Prop) : Prop :=
  ∀ ws : List Jvm.Cond, MetFree l y (head1 (Jvm.Cond.code y code ml rt :: ws) R) (fun a U => a = as' ∧ Z.Warmed39 U.vm ∧ U.heap = h0 ∧ CHv Z EL U.vm h0) (fun _ _ _ _ _ => True)
    (fun _ U o U' => ∃ v L, o = .returned v ∧ (Q v U'.heap ∧ Fr n0 L) ∧ CHr Z EL U.vm U.heap U'.vm U'.heap ∧ ReturnedEndW U o U' L R.cells R.slots)
theorem DoesH.of_wp {l : Launch} {Z : State} {EL : List (String × Nat)} {y : MethodName} {code : ByteArray} {ml : Nat} {rt : Option FieldType} {R : Room} {n0 : Nat} {as' : Array Value} {h0 : Heap} {Q : Option Value → Heap → Prop} (hpl : plainFor y = true) {Ls : Array Slot} (hef : ∀ m, entryFrame m as' ml = mkF m 0 Ls [])
    (hW : ∀ (C : Cx) (vm0 : Vm), Hd C Z EL vm0 h0 → WPG (C.at vm0) Z code ml y.cls rt y.name R n0 (EndH C Z EL R n0 Q) 0 0 h0 0 Ls []) : DoesH l Z EL y code ml rt R n0 as' h0 Q := by
  intro ws
  refine MetFree.of_bodySF hpl hisR ?_
  intro p e s m args below meth c s₁ Bd hml0 hP hK
  obtain ⟨rfl, hZ, hh, hC⟩ := hP
  have X0 : Stand p l e R s m args below meth c s₁ [] 0 0 := Stand.of_body Bd
  have e0 : s₁.heap = h0 := by rw [← hh, Bd.state]; rfl
  obtain ⟨s₂, v, L, h1, h2, h3, h4⟩ := hW (p, l, e, s, m, args, below, meth, c) s.vm ⟨⟨0, (State.WarmedH.refl s).since 0, Nat.zero_le _⟩, by show CHr Z EL s.vm s.heap s.vm h0; rw [hh]; exact CHr.refl hC, hZ⟩ Bd.exec Bd.bytes hml0 (findClass_of_methodNamed Bd.named) hZ Bd.returns Bd.notSynchronized (name_of_methodNamed Bd.named Bd.method).1 s₁ [] X0 e0 (Fr.nil n0)
  exact ⟨s₂, _, castTop (hef m) h1, h2, h3, v, L, rfl, ⟨h4.1.1, h4.1.2.1⟩, h4.2, h4.1.2.2⟩
/-- .. and keeps no more than its frame -/
def DoesW (l : Launch) (Z : State) (EL : List (String × Nat)) (y : MethodName) (code : ByteArray) (ml : Nat) (rt : Option FieldType) (R : Room) (n0 : Nat) (as' : Array Value) (h0 : Heap) (Q : Option Value → Heap → Prop) : Prop :=
  ∀ ws : List Jvm.Cond, MetFree l y (head1 (Jvm.Cond.code y code ml rt :: ws) R) (fun a U => a = as' ∧ Z.Warmed39 U.vm ∧ U.heap = h0 ∧ CHv Z EL U.vm h0) (fun _ _ _ _ _ => True)
    (fun _ U o U' => ∃ v L, o = .returned v ∧ (Q v U'.heap ∧ Fr n0 L) ∧ ReturnedEndW U o U' L R.cells R.slots)
theorem DoesW.of_wp {l : Launch} {Z : State} {EL : List (String × Nat)} {y : MethodName} {code : ByteArray} {ml : Nat} {rt : Option FieldType} {R : Room} {n0 : Nat} {as' : Array Value} {h0 : Heap} {Q : Option Value → Heap → Prop} (hpl : plainFor y = true) {Ls : Array Slot} (hef : ∀ m, entryFrame m as' ml = mkF m 0 Ls [])
    (hW : ∀ (C : Cx) (vm0 : Vm), Hd C Z EL vm0 h0 → WPG (C.at vm0) Z code ml y.cls rt y.name R n0 (EndW C R n0 Q) 0 0 h0 0 Ls []) : DoesW l Z EL y code ml rt R n0 as' h0 Q := by
  intro ws
  refine MetFree.of_bodySF hpl hisR ?_
  intro p e s m args below meth c s₁ Bd hml0 hP hK
  obtain ⟨rfl, hZ, hh, hC⟩ := hP
  have X0 : Stand p l e R s m args below meth c s₁ [] 0 0 := Stand.of_body Bd
  have e0 : s₁.heap = h0 := by rw [← hh, Bd.state]; rfl
  obtain ⟨s₂, v, L, h1, h2, h3, h4⟩ := hW (p, l, e, s, m, args, below, meth, c) s.vm ⟨⟨0, (State.WarmedH.refl s).since 0, Nat.zero_le _⟩, by show CHr Z EL s.vm s.heap s.vm h0; rw [hh]; exact CHr.refl hC, hZ⟩ Bd.exec Bd.bytes hml0 (findClass_of_methodNamed Bd.named) hZ Bd.returns Bd.notSynchronized (name_of_methodNamed Bd.named Bd.method).1 s₁ [] X0 e0 (Fr.nil n0)
  exact ⟨s₂, _, castTop (hef m) h1, h2, h3, v, L, rfl, ⟨h4.1, h4.2.1⟩, h4.2.2⟩
/-- a text's bytes -/
def litG (L : List Int32) : Nat → Int32 := fun i => L.getD i 0
theorem Ari.of_arv {Z : State} {h : Heap} {b : Addr} {k : ClassId} {z : Int32} {vs : List Value} {L : List Int32} (A : Arv Z h b k .byte z vs (.int 0)) (hL : vs = L.map Value.int) (hz : z.toNatClampNeg = L.length) (hl : L.length < 2147483648) : Ari Z h b .byte L.length (litG L) := by
  obtain ⟨c, A, -, r1, r2, r3, r4⟩ := A
  have e : ∀ i, vs.getD i (.int 0) = Value.int (litG L i) := fun i => by
    rw [hL]; unfold litG
    simp only [List.getD_eq_getElem?_getD, List.getElem?_map]
    cases L[i]? <;> rfl
  have n1 : c.slots.size = L.length := r1.trans hz
  exact ⟨c, A, n1, hl, fun i hi => by rw [r3 i (by omega), e], fun i hi => by have := r4 i (by omega); rw [e] at this; exact this⟩
/-- a String whose bytes are not set yet is no booked one -/
theorem Safe.ofNull {Z : State} {EL : List (String × Nat)} {vm : Vm} {h : Heap} {x : Addr} (hZ : Z.Warmed39 vm) (E : Exa Z h x "java/lang/String") (F : Fld Z h x "java/lang/String" "value" "[B" .null) : Safe Z EL vm h x := fun B => by
  have hal := hZ.alike
  obtain ⟨cell, k, e1, e2, e3, -, -⟩ := E
  obtain ⟨p, -, u, a, -, q, -, F', rfl | rfl⟩ := B
  · obtain ⟨c', cv', kv, iv, f, f1, f2, -, -, -, -, f7⟩ := F
    cases (show h[q.sa]? = some q.sC from F'.ha).symm.trans f1
    obtain ⟨cS, ⟨⟨-, -, -, ⟨c1, k1, i1, g1, -⟩, -, -, -, v1, -⟩, -⟩, -⟩ := F'
    obtain ⟨k3, e3, -⟩ := State.fieldFound?_setVm (s := ({ Z with heap := h } : State)) hal f2
    have e4 := (show (Wst Z vm h).fieldFound? _ _ _ = _ from e3).symm.trans g1
    simp only [Option.some.injEq, Prod.mk.injEq] at e4
    rw [← e4.2.2.2, f7] at v1
    cases v1
  · cases (show h[q.sd]? = some q.SA from F'.hd).symm.trans e1
    obtain ⟨cS, -, -, f, -⟩ := F'
    have f' : vm.findClass "[B" = some q.SA.cls := f
    rw [hal.findClass] at f'
    obtain ⟨k1, q1, q2⟩ := Vm.findClass_spec f'
    obtain ⟨k2, q3, q4⟩ := Vm.findClass_spec e2
    cases q1.symm.trans q3
    exact absurd (q2.symm.trans q4) (by decide)
theorem Ari.nil {Z : State} {h : Heap} {b : Addr} {ty : FieldType} {g g' : Nat → Int32} {n : Nat} (A : Ari Z h b ty 0 g) (e : n = 0) : Ari Z h b ty n g' := by subst e; exact A.congr fun j hj => absurd hj (Nat.not_lt_zero _)
section RulesH
variable {C : Cx} {Z : State} {EL : List (String × Nat)} {vm0 : Vm} {code : ByteArray} {ml : Nat} {own : String} {rt : Option FieldType} {nm : String} {R : Room} {n0 : Nat} {Q : Option Value → Heap → Prop} {G : State → Option Value → List Loc → Prop} {cl sl : Nat} {h : Heap} {pc pc' : Nat} {Ls Ls' : Array Slot} {st st' : List Value} {a0 : Array Value}
theorem retW {U : State} {v : Option Value} {locs : List Loc} (H : Sn C vm0 h) (e : U.heap = h) (hW : (C.2.2.2.1.setVm vm0).WarmedH U.vm) (hs : (C.2.2.2.1.setVm vm0).sameButNew ({ U with vm := vm0 } : State) locs cl sl) (hc : cl ≤ R.cells) (hs' : sl ≤ R.slots) : ReturnedEndW C.2.2.2.1 (.returned v) U locs R.cells R.slots := by
  obtain ⟨k0, h1, h2⟩ := H
  obtain ⟨q1, q2, q3⟩ := h1.ended hW (by rw [e]; exact h2) hs
  exact ⟨⟨_, rfl⟩, q1, q2, q3.mono hc hs'⟩
theorem Hd.at (hZ : Z.Warmed39 vm0) (w : EW Z a0 EL) (H : Hd C Z EL vm0 h) {vm1 : Vm} (hW : (C.2.2.2.1.setVm vm0).WarmedH vm1) : CHr Z EL C.2.2.2.1.vm C.2.2.2.1.heap vm1 h := by
  have q := CHv.later (h' := h) hZ (hW := (show (Wst Z vm0 h).Warmed39 vm1 from State.WarmedH.wide hW)) w ⟨Nat.le_refl _, fun _ _ q => q⟩ (Or.inl (State.WarmedH.interned_eq hW)) H.ch
  exact H.2.1.trans ⟨q.1, Nat.le_refl _, q.2⟩
theorem WP.iretW {z : Int32} (hd : decode code pc = .ok (.ireturn, 1)) (hrt : rt = some .int) (H : Sn C vm0 h) (hc : cl ≤ R.cells) (hs : sl ≤ R.slots) (hq : Q (some (.int z)) h) : WPG (C.at vm0) Z code ml own rt nm R n0 (EndW C R n0 Q) cl sl h pc Ls (.int z :: st) := by
  intro k1 k2 k3 k4 k5 k6 k7 k8 T locs X e N
  obtain ⟨fs, hr', hrun, hended, hW, hsame⟩ := X.leave (v := (some (.int z))) (fun q => by rw [k6, hrt] at q; cases q) k7
  exact ⟨_, _, _, retOut X k1 (t := .int) (k6.trans hrt) rfl (Or.inl ⟨rfl, Or.inl rfl, _, rfl⟩) (hb k2 hd) hr', hrun, hended, ⟨by show Q _ T.heap; rw [e]; exact hq, N, retW H e hW hsame hc hs⟩⟩
theorem WP.iretH {z : Int32} (hd : decode code pc = .ok (.ireturn, 1)) (hrt : rt = some .int) (hEL : EW Z a0 EL) (H : Hd C Z EL vm0 h) (hc : cl ≤ R.cells) (hs : sl ≤ R.slots) (hq : Q (some (.int z)) h) : WPG (C.at vm0) Z code ml own rt nm R n0 (EndH C Z EL R n0 Q) cl sl h pc Ls (.int z :: st) := by
  intro k1 k2 k3 k4 k5 k6 k7 k8 T locs X e N
  obtain ⟨fs, hr', hrun, hended, hW, hsame⟩ := X.leave (v := (some (.int z))) (fun q => by rw [k6, hrt] at q; cases q) k7
  exact ⟨_, _, _, retOut X k1 (t := .int) (k6.trans hrt) rfl (Or.inl ⟨rfl, Or.inl rfl, _, rfl⟩) (hb k2 hd) hr', hrun, hended, ⟨⟨by show Q _ T.heap; rw [e]; exact hq, N, retW H.sn e hW hsame hc hs⟩, by show CHr Z EL _ _ T.vm T.heap; rw [e]; exact H.at k5 hEL hW⟩⟩
theorem WP.aretW {z : Value} (hd : decode code pc = .ok (.areturn, 1)) {t : FieldType} (hrt : rt = some t) (ht : t.isReference = true) (hv : z.isRef = true) (H : Sn C vm0 h) (hc : cl ≤ R.cells) (hs : sl ≤ R.slots) (hq : Q (some z) h) : WPG (C.at vm0) Z code ml own rt nm R n0 (EndW C R n0 Q) cl sl h pc Ls (z :: st) := by
  intro k1 k2 k3 k4 k5 k6 k7 k8 T locs X e N
  obtain ⟨fs, hr', hrun, hended, hW, hsame⟩ := X.leave (v := (some z)) (fun q => by rw [k6, hrt] at q; cases q) k7
  exact ⟨_, _, _, retOut X k1 (t := t) (k6.trans hrt) (by cases t <;> first | (cases ht; done) | rfl) (Or.inr (Or.inr (Or.inr (Or.inr ⟨rfl, ht, hv⟩)))) (hb k2 hd) hr', hrun, hended, ⟨by show Q _ T.heap; rw [e]; exact hq, N, retW H e hW hsame hc hs⟩⟩
theorem WP.aretH {z : Value} (hd : decode code pc = .ok (.areturn, 1)) {t : FieldType} (hrt : rt = some t) (ht : t.isReference = true) (hv : z.isRef = true) (hEL : EW Z a0 EL) (H : Hd C Z EL vm0 h) (hc : cl ≤ R.cells) (hs : sl ≤ R.slots) (hq : Q (some z) h) : WPG (C.at vm0) Z code ml own rt nm R n0 (EndH C Z EL R n0 Q) cl sl h pc Ls (z :: st) := by
  intro k1 k2 k3 k4 k5 k6 k7 k8 T locs X e N
  obtain ⟨fs, hr', hrun, hended, hW, hsame⟩ := X.leave (v := (some z)) (fun q => by rw [k6, hrt] at q; cases q) k7
  exact ⟨_, _, _, retOut X k1 (t := t) (k6.trans hrt) (by cases t <;> first | (cases ht; done) | rfl) (Or.inr (Or.inr (Or.inr (Or.inr ⟨rfl, ht, hv⟩)))) (hb k2 hd) hr', hrun, hended, ⟨⟨by show Q _ T.heap; rw [e]; exact hq, N, retW H.sn e hW hsame hc hs⟩, by show CHr Z EL _ _ T.vm T.heap; rw [e]; exact H.at k5 hEL hW⟩⟩
theorem WP.nretW {z : Int32} (hd : decode code pc = .ok (.ireturn, 1)) {t : FieldType} {z' : Int32} (hrt : rt = some t) (ht : t = .boolean ∨ t = .byte ∨ t = .char ∨ t = .short) (hz : nar t z = z') (H : Sn C vm0 h) (hc : cl ≤ R.cells) (hs : sl ≤ R.slots) (hq : Q (some (.int z')) h) : WPG (C.at vm0) Z code ml own rt nm R n0 (EndW C R n0 Q) cl sl h pc Ls (.int z :: st) := by
  intro k1 k2 k3 k4 k5 k6 k7 k8 T locs X e N
  obtain ⟨fs, hr', hrun, hended, hW, hsame⟩ := X.leave (v := (some (.int z'))) (fun q => by rw [k6, hrt] at q; cases q) k7
  exact ⟨_, _, _, retN X k1 (t := t) (k6.trans hrt) ht (hb k2 hd) (by rw [hz]; exact hr'), hrun, hended, ⟨by show Q _ T.heap; rw [e]; exact hq, N, retW H e hW hsame hc hs⟩⟩
theorem WP.nretH {z : Int32} (hd : decode code pc = .ok (.ireturn, 1)) {t : FieldType} {z' : Int32} (hrt : rt = some t) (ht : t = .boolean ∨ t = .byte ∨ t = .char ∨ t = .short) (hz : nar t z = z') (hEL : EW Z a0 EL) (H : Hd C Z EL vm0 h) (hc : cl ≤ R.cells) (hs : sl ≤ R.slots) (hq : Q (some (.int z')) h) : WPG (C.at vm0) Z code ml own rt nm R n0 (EndH C Z EL R n0 Q) cl sl h pc Ls (.int z :: st) := by
  intro k1 k2 k3 k4 k5 k6 k7 k8 T locs X e N
  obtain ⟨fs, hr', hrun, hended, hW, hsame⟩ := X.leave (v := (some (.int z'))) (fun q => by rw [k6, hrt] at q; cases q) k7
  exact ⟨_, _, _, retN X k1 (t := t) (k6.trans hrt) ht (hb k2 hd) (by rw [hz]; exact hr'), hrun, hended, ⟨⟨by show Q _ T.heap; rw [e]; exact hq, N, retW H.sn e hW hsame hc hs⟩, by show CHr Z EL _ _ T.vm T.heap; rw [e]; exact H.at k5 hEL hW⟩⟩
theorem WP.vretW  (hd : decode code pc = .ok (.return_, 1)) (hrt : rt = none) (H : Sn C vm0 h) (hc : cl ≤ R.cells) (hs : sl ≤ R.slots) (hq : Q none h) : WPG (C.at vm0) Z code ml own rt nm R n0 (EndW C R n0 Q) cl sl h pc Ls [] := by
  intro k1 k2 k3 k4 k5 k6 k7 k8 T locs X e N
  obtain ⟨fs, hr', hrun, hended, hW, hsame⟩ := X.leave (v := none) (fun _ => rfl) k7
  exact ⟨_, _, _, X.returnOut k1 (k6.trans hrt) (hb k2 hd) hr', hrun, hended, ⟨by show Q _ T.heap; rw [e]; exact hq, N, retW H e hW hsame hc hs⟩⟩
theorem WP.vretH  (hd : decode code pc = .ok (.return_, 1)) (hrt : rt = none) (hEL : EW Z a0 EL) (H : Hd C Z EL vm0 h) (hc : cl ≤ R.cells) (hs : sl ≤ R.slots) (hq : Q none h) : WPG (C.at vm0) Z code ml own rt nm R n0 (EndH C Z EL R n0 Q) cl sl h pc Ls [] := by
  intro k1 k2 k3 k4 k5 k6 k7 k8 T locs X e N
  obtain ⟨fs, hr', hrun, hended, hW, hsame⟩ := X.leave (v := none) (fun _ => rfl) k7
  exact ⟨_, _, _, X.returnOut k1 (k6.trans hrt) (hb k2 hd) hr', hrun, hended, ⟨⟨by show Q _ T.heap; rw [e]; exact hq, N, retW H.sn e hW hsame hc hs⟩, by show CHr Z EL _ _ T.vm T.heap; rw [e]; exact H.at k5 hEL hW⟩⟩
theorem WP.ldcH {i n : Nat} {text : String} {vs : List Value} {z : Int32} {cl' sl' : Nat} (hd : decode code pc = .ok (.ldc i, 2)) (hp : pc + 2 = pc') (w : (Jvm.Cond.stringLink own i text).before a0 Z = true) (wS : ∀ a ∈ Bundle.stringAtoms, a.before a0 Z = true) (hEL : EW Z a0 EL) (hmem : (own, i) ∈ EL) (H : Hd C Z EL vm0 h)
    (ht : (∀ c ∈ text.toList, c.toNat < 256) ∧ text.toList.map (fun c => Value.int (Jvm.Lit.byteI c.toNat.toUInt16)) = vs) (hz : ¬ z < 0) (hl : z.toNatClampNeg = vs.length) (hn : 4 * text.toList.length ≤ n) (hbig : n ≤ 536870912) (hc : cl + 2 = cl') (hs : sl + (n + 4) = sl') (hc' : cl' ≤ R.cells) (hs' : sl' ≤ R.slots)
    (hr : ∀ vm1 h' a b k, Ext h h' → Exa Z h' a "java/lang/String" → Fld Z h' a "java/lang/String" "coder" "B" (.int 0) → Fld Z h' a "java/lang/String" "value" "[B" (.ref b) → Arv Z h' b k .byte z vs (.int 0) → Hd C Z EL vm1 h' → CHr Z EL vm0 h vm1 h' → (∀ x, Safe Z EL vm1 h' x → x ≠ a ∧ x ≠ b) → WPG (C.at vm1) Z code ml own rt nm R n0 G cl' sl' h' pc' Ls (.ref a :: st)) : WPG (C.at vm0) Z code ml own rt nm R n0 G cl sl h pc Ls st := by
  subst hp hc hs
  intro k1 k2 k3 k4 k5 k6 k7 k8 T locs X e N
  obtain ⟨⟨k0, q1, q2⟩, q3, -⟩ := H
  obtain ⟨a, T', h', k9, b, k, X', e', E', S', L', Z', f', A1, A2, A3, A4, -, -, R', -, ne, come⟩ := ldcCH X k1 k5 k4 w wS e q1 q2 hEL hmem q3.1 ht hz hl (g := mkF _ pc Ls st) rfl (hb k2 hd) hn hbig hc' hs'
  obtain ⟨s₂, v', L2, h1, h2⟩ := hr T'.vm h' a b k E' A1 A2 A3 A4 ⟨⟨k9, S', L'⟩, q3.trans R', Z'⟩ R' ne k1 k2 k3 f' Z' k6 k7 k8 T' _ X' e' N
  exact ⟨s₂, v', L2, come _ h1, h2⟩
theorem WP.callSH {i : Nat} {y : MethodName} {code' : ByteArray} {ml' wd cl' sl' : Nat} {rt' : Option FieldType} {R' : Room} {Q' : Option Value → Heap → Prop} {argsL rest : List Value} {ps : List FieldType} {rr : Option FieldType} (hd : decode code pc = .ok (.invokestatic i, 3)) (hp : pc + 3 = pc') (w1 : (Jvm.Cond.methodLink own i y).before a0 Z = true) (w2 : (Jvm.Cond.static y).before a0 Z = true) (w3 : (Jvm.Cond.initialized y.cls).before a0 Z = true) (w4 : (Jvm.Cond.code y code' ml' rt').before a0 Z = true) (hy : y.cls ≠ "java/lang/invoke/MethodHandle" ∧ y.cls ≠ "java/lang/invoke/VarHandle") (hEL : EW Z a0 EL) (H : Hd C Z EL vm0 h) (hM : ∀ l, DoesH l Z EL y code' ml' rt' R' n0 argsL.toArray h Q') (hpd : parseMethodDescriptor y.desc = some ⟨ps, rr⟩) (hlen : argsL.length = ps.length) (hst : st = argsL.reverse ++ rest) (hml : Ls.size = ml) (hw : (rest.map fun v => v.category).sum ≤ wd) (hrm : R'.frames + 1 ≤ R.frames) (hlo : wd + (ml' + 11) + R'.locals ≤ R.locals) (hc : cl + R'.cells = cl') (hs : sl + R'.slots = sl') (hc' : cl' ≤ R.cells) (hs' : sl' ≤ R.slots)
    (hr : ∀ v vm1 h', Q' v h' → Hd C Z EL vm1 h' → CHr Z EL vm0 h vm1 h' → WPG (C.at vm1) Z code ml own rt nm R n0 G cl' sl' h' pc' Ls (v.toList ++ rest)) : WPG (C.at vm0) Z code ml own rt nm R n0 G cl sl h pc Ls st := by
  subst hp hc hs
  intro k1 k2 k3 k4 k5 k6 k7 k8 T locs X e N
  obtain ⟨v, _, ⟨T', L', c', n'⟩, -, X', S', g', ⟨Lc, hQ, l1, y1, z1, r1⟩, k⟩ := callSS X k1 (y := y) k4 (mvT k5 w1) (mvT k5 w2) (mvT k5 w3) (mvT k5 w4) hy (backOfSH (s := C.2.2.2.1) (W := wd) (Q := fun v h L => Q' v h ∧ Fr n0 L) (hM _ []) k5 w4 w3 hrm hlo hEL H.ch) (g := mkF _ pc Ls st) rfl (by rw [k3]; exact hml) (argsL := argsL) (rest := rest) (lenOf hpd hlen) hst (by show 2 * 0 + _ ≤ _; omega) (hb k2 hd) (fun _ _ => ⟨rfl, e, hc', hs'⟩)
  dsimp only [Pt.U, Pt.locs, Pt.cells, Pt.slots] at X' l1 y1 z1 k hQ r1 S' g'
  subst l1 y1 z1
  obtain ⟨⟨k0, q1, q2⟩, q3, -⟩ := H
  rw [e] at g'
  obtain ⟨s₂, v', L2, h1, h2⟩ := hr v T'.vm _ hQ.1 ⟨⟨_, q1.trans S' (Nat.le_trans q2 g'), Nat.le_refl _⟩, q3.trans r1, State.Warmed39.trans (t := C.2.2.2.1.setVm vm0) k5 S'.1⟩ r1 k1 k2 k3 (by rw [show ((C.at T'.vm).2.2.2.1).vm = T'.vm from rfl, S'.1.alike.findClass]; exact k4) (State.Warmed39.trans (t := C.2.2.2.1.setVm vm0) k5 S'.1) k6 k7 k8 T' _ X' rfl (Fr.app N hQ.2)
  exact ⟨s₂, v', L2, k.trans h1, h2⟩
theorem WP.callIH {a : Addr} {i : Nat} {y : MethodName} {code' : ByteArray} {ml' wd cl' sl' : Nat} {R' : Room} {Q' : Option Value → Heap → Prop} {argsL rest : List Value} {ps : List FieldType} {rr : Option FieldType} (hd : decode code pc = .ok (.invokespecial i, 3)) (hp : pc + 3 = pc') (hy1 : y.name = "<init>") (w1 : (Jvm.Cond.methodLink own i y).before a0 Z = true) (w2 : (Jvm.Cond.instanceMethod y).before a0 Z = true) (w3 : (Jvm.Cond.initialized y.cls).before a0 Z = true) (w4 : (Jvm.Cond.code y code' ml' none).before a0 Z = true) (hy : y.cls ≠ "java/lang/invoke/MethodHandle" ∧ y.cls ≠ "java/lang/invoke/VarHandle") (hEL : EW Z a0 EL) (H : Hd C Z EL vm0 h) (hM : ∀ l, DoesH l Z EL y code' ml' none R' n0 (.ref a :: argsL).toArray h Q') (hpd : parseMethodDescriptor y.desc = some ⟨ps, rr⟩) (hlen : argsL.length = ps.length) (hst : st = argsL.reverse ++ .ref a :: rest) (hml : Ls.size = ml) (hw : (rest.map fun v => v.category).sum ≤ wd) (hrm : R'.frames + 1 ≤ R.frames) (hlo : wd + (ml' + 11) + R'.locals ≤ R.locals) (hc : cl + R'.cells = cl') (hs : sl + R'.slots = sl') (hc' : cl' ≤ R.cells) (hs' : sl' ≤ R.slots)
    (hr : ∀ v vm1 h', Q' v h' → Hd C Z EL vm1 h' → CHr Z EL vm0 h vm1 h' → WPG (C.at vm1) Z code ml own rt nm R n0 G cl' sl' h' pc' Ls (v.toList ++ rest)) : WPG (C.at vm0) Z code ml own rt nm R n0 G cl sl h pc Ls st := by
  subst hp hc hs
  intro k1 k2 k3 k4 k5 k6 k7 k8 T locs X e N
  obtain ⟨v, _, ⟨T', L', c', n'⟩, -, X', S', g', ⟨Lc, hQ, l1, y1, z1, r1⟩, k⟩ := X.specialBackS k1 (y := y) hy1 k4 (mvT k5 w1) (mvT k5 w2) (mvT k5 w4) hy (backOfSH (s := C.2.2.2.1) (W := wd) (Q := fun v h L => Q' v h ∧ Fr n0 L) (hM _ []) k5 w4 w3 hrm hlo hEL H.ch) (g := mkF _ pc Ls st) rfl (by rw [k3]; exact hml) (Steps.refl _) (a := a) (argsL := argsL) (rest := rest) (lenOf hpd hlen) hst (by show 2 * 0 + _ ≤ _; omega) (hb k2 hd) (fun _ _ => ⟨rfl, e, hc', hs'⟩)
  dsimp only [Pt.U, Pt.locs, Pt.cells, Pt.slots] at X' l1 y1 z1 k hQ r1 S' g'
  subst l1 y1 z1
  obtain ⟨⟨k0, q1, q2⟩, q3, -⟩ := H
  rw [e] at g'
  obtain ⟨s₂, v', L2, h1, h2⟩ := hr v T'.vm _ hQ.1 ⟨⟨_, q1.trans S' (Nat.le_trans q2 g'), Nat.le_refl _⟩, q3.trans r1, State.Warmed39.trans (t := C.2.2.2.1.setVm vm0) k5 S'.1⟩ r1 k1 k2 k3 (by rw [show ((C.at T'.vm).2.2.2.1).vm = T'.vm from rfl, S'.1.alike.findClass]; exact k4) (State.Warmed39.trans (t := C.2.2.2.1.setVm vm0) k5 S'.1) k6 k7 k8 T' _ X' rfl (Fr.app N hQ.2)
  exact ⟨s₂, v', L2, k.trans h1, h2⟩
end RulesH
/-- WHAT A METHOD WITH HANDLERS DOES, where it throws nothing -/
def DoesX (l : Launch) (Z : State) (hs : List (Nat × Nat × Nat × Nat)) (y : MethodName) (code : ByteArray) (ml : Nat) (rt : Option FieldType) (R : Room) (n0 : Nat) (as' : Array Value) (h0 : Heap) (Q : Option Value → Heap → Prop) : Prop :=
  ∀ ws : List Jvm.Cond, MetFree l y (head1 (Jvm.Cond.codeWith y code ml rt hs :: ws) R) (fun a U => a = as' ∧ Z.Warmed39 U.vm ∧ U.heap = h0) (fun _ _ _ _ _ => True)
    (fun _ U o U' => ∃ v L, o = .returned v ∧ (Q v U'.heap ∧ Fr n0 L) ∧ FrameEnd U o U' L R.cells R.slots)
theorem DoesX.of_wp {l : Launch} {Z : State} {hs : List (Nat × Nat × Nat × Nat)} {y : MethodName} {code : ByteArray} {ml : Nat} {rt : Option FieldType} {R : Room} {n0 : Nat} {as' : Array Value} {h0 : Heap} {Q : Option Value → Heap → Prop} (hpl : plainFor y = true) {Ls : Array Slot} (hef : ∀ m, entryFrame m as' ml = mkF m 0 Ls [])
    (hW : ∀ C : Cx, WP C Z code ml y.cls rt y.name R n0 Q 0 0 h0 0 Ls []) : DoesX l Z hs y code ml rt R n0 as' h0 Q := by
  intro ws
  refine MetFree.of_bodySF hpl hisWith ?_
  intro p e s m args below meth c s₁ Bd hml0 hP hK
  obtain ⟨rfl, hZ, hh⟩ := hP
  have X0 : Stand p l e R s m args below meth c s₁ [] 0 0 := Stand.of_body Bd
  have e0 : s₁.heap = h0 := by rw [← hh, Bd.state]; rfl
  obtain ⟨s₂, v, L, h1, h2, h3, h4, h5, h6⟩ := hW (p, l, e, s, m, args, below, meth, c) Bd.exec Bd.bytes hml0 (findClass_of_methodNamed Bd.named) hZ Bd.returns Bd.notSynchronized (name_of_methodNamed Bd.named Bd.method).1 s₁ [] X0 e0 (Fr.nil n0)
  exact ⟨s₂, _, castTop (hef m) h1, h2, h3, v, L, rfl, ⟨h4, h5⟩, h6⟩
theorem WP.callIX {C : Cx} {Z : State} {code : ByteArray} {ml : Nat} {own : String} {rt : Option FieldType} {nm : String} {R : Room} {n0 : Nat} {G : State → Option Value → List Loc → Prop} {cl sl : Nat} {h : Heap} {pc pc' : Nat} {Ls : Array Slot} {st : List Value} {a0 : Array Value} {hs : List (Nat × Nat × Nat × Nat)} {a : Addr} {i : Nat} {y : MethodName} {code' : ByteArray} {ml' wd cl' sl' : Nat} {R' : Room} {Q' : Option Value → Heap → Prop} {argsL rest : List Value} {ps : List FieldType} {rr : Option FieldType} (hd : decode code pc = .ok (.invokespecial i, 3)) (hp : pc + 3 = pc') (hy1 : y.name = "<init>") (w1 : (Jvm.Cond.methodLink own i y).before a0 Z = true) (w2 : (Jvm.Cond.instanceMethod y).before a0 Z = true) (w3 : (Jvm.Cond.initialized y.cls).before a0 Z = true) (w4 : (Jvm.Cond.codeWith y code' ml' none hs).before a0 Z = true) (hy : y.cls ≠ "java/lang/invoke/MethodHandle" ∧ y.cls ≠ "java/lang/invoke/VarHandle") (hM : ∀ l, DoesX l Z hs y code' ml' none R' n0 (.ref a :: argsL).toArray h Q') (hpd : parseMethodDescriptor y.desc = some ⟨ps, rr⟩) (hlen : argsL.length = ps.length) (hst : st = argsL.reverse ++ .ref a :: rest) (hml : Ls.size = ml) (hw : (rest.map fun v => v.category).sum ≤ wd) (hrm : R'.frames + 1 ≤ R.frames) (hlo : wd + (ml' + 11) + R'.locals ≤ R.locals) (hc : cl + R'.cells = cl') (hs1 : sl + R'.slots = sl') (hc' : cl' ≤ R.cells) (hs' : sl' ≤ R.slots)
    (hr : ∀ v h', Q' v h' → WPG C Z code ml own rt nm R n0 G cl' sl' h' pc' Ls (v.toList ++ rest)) : WPG C Z code ml own rt nm R n0 G cl sl h pc Ls st := by
  subst hp hc hs1
  intro k1 k2 k3 k4 k5 k6 k7 k8 T locs X e N
  obtain ⟨v, _, ⟨T', L', c', n'⟩, -, X', ⟨Lc, hQ, l1, y1, z1⟩, k⟩ := X.specialBackH k1 (y := y) hy1 k4 (mvT k5 w1) (mvT k5 w2) (mvT k5 w4) hy (backOfWith (W := wd) (Q := fun v h L => Q' v h ∧ Fr n0 L) (hM _ []) k5 w4 w3 hrm hlo) (g := mkF _ pc Ls st) rfl (by rw [k3]; exact hml) (Steps.refl _) (a := a) (argsL := argsL) (rest := rest) (lenOf hpd hlen) hst (by show 2 * 0 + _ ≤ _; omega) (hb k2 hd) (fun _ _ => ⟨rfl, e, hc', hs'⟩)
  dsimp only [Pt.U, Pt.locs, Pt.cells, Pt.slots] at X' l1 y1 z1 k hQ
  subst l1 y1 z1
  obtain ⟨s₂, v', L2, h1, h2⟩ := hr v _ hQ.1 k1 k2 k3 k4 k5 k6 k7 k8 T' _ X' rfl (Fr.app N hQ.2)
  exact ⟨s₂, v', L2, k.trans h1, h2⟩
theorem Safe.ari {Z : State} {EL : List (String × Nat)} {vm : Vm} {h : Heap} {x : Addr} {ty : FieldType} {n : Nat} {g : Nat → Int32} (hZ : Z.Warmed39 vm) (A : Ari Z h x ty n g) (ht : ty ≠ .byte) : Safe Z EL vm h x := by obtain ⟨c, A, -⟩ := A; exact Safe.arr hZ.alike A ht
theorem Safe.obj {Z : State} {EL : List (String × Nat)} {vm : Vm} {h : Heap} {x : Addr} {K : String} (hZ : Z.Warmed39 vm) (E : Exa Z h x K) (h1 : K ≠ "java/lang/String") (h2 : K ≠ "[B") : Safe Z EL vm h x := Safe.exa hZ.alike E h1 h2
end Jvm.WK
@@BLOCK:LamKit.lean.txt@@
namespace Jvm.WK
open Jvm Sem ClassFile Op Lib Jvm.Free Jvm.Stand Jvm.LawKit Jvm.RoadKit
/-! lambdas: what the start's tables say of a made class stands under every later table too (strings interned, entries noted) -/
theorem isMade_wide {Z : State} {vm' : Vm} (hW : Z.Warmed39 vm') {d c : ClassId} {σ : Lambda.Shape} (h : Lambda.isMade { classPath := fun _ => none } Z.vm d σ c = true) : Lambda.isMade { classPath := fun _ => none } vm' d σ c = true := by
  have hA := hW.alike
  simp only [Lambda.isMade, Option.bind_eq_bind, Option.pure_def, Option.getD_eq_iff, Option.bind_eq_some_iff, Bool.false_eq_true, and_false, or_false] at h ⊢
  obtain ⟨dk, h2, k, h3, file, h4, cf, h5, object, ho, iface, hi, ok, h6, lay, h7, methods, h8, t, ht, tk, htk, h⟩ := h
  obtain ⟨dk', h2', e2⟩ := hA.2.2 _ _ h2
  obtain ⟨k', h3', e3, -, hres, -⟩ := hW.2.2.2 _ _ h3
  obtain ⟨ok', h6', e6⟩ := hA.2.2 _ _ h6
  obtain ⟨tk', htk', e7⟩ := hA.2.2 _ _ htk
  have n2 : dk'.name = dk.name := by rw [e2]
  have n6 : ok'.instanceTypes = ok.instanceTypes := by rw [e6]
  have n7 : tk'.isInterface = tk.isInterface := by rw [e7]; rfl
  generalize hr : k'.resolved = r at e3 hres
  generalize k'.nestHost = nh at e3
  generalize k'.nestHostError = ne at e3
  subst e3
  refine ⟨dk', h2', _, h3', file, h4, cf, by rw [n2]; exact h5, object, by rw [hA.findClass]; exact ho, iface, by rw [hA.findClass]; exact hi, ok', h6', lay, by rw [n6]; exact h7, methods, h8, t, by rw [hA.findClass]; exact ht, tk', htk', ?_⟩
  rw [n7, Lambda.methodIn_ask_alike hA, Lambda.methodIn_ask_alike hA]
  generalize ((methodIn t σ.implName σ.implDesc.toString tk.isInterface none).ask { classPath := fun _ => none } Z.vm).1 = g1 at h ⊢
  generalize ((methodIn iface σ.name σ.sam.toString true none).ask { classPath := fun _ => none } Z.vm).1 = g2 at h ⊢
  cases g1 with
  | error x => simp at h
  | ok target =>
    cases g2 with
    | error x => simp at h
    | ok found =>
      simp only [n2, n6, Lambda.resolvedOf_alike hA, hA.selectMethod] at h ⊢
      simp only [Option.some.injEq, Bool.and_eq_true] at h ⊢
      obtain ⟨⟨hall, b13⟩, b14⟩ := h
      refine ⟨⟨hall, ?_⟩, b14⟩
      rw [List.all_eq_true] at b13 ⊢
      rintro ⟨x, i⟩ hy
      have hx := b13 _ hy
      cases x with
      | none => rfl
      | some q =>
        simp only [Option.isNone_some, Bool.false_or, decide_eq_true_eq] at hx ⊢
        rcases hres i with g | ⟨g, -⟩
        · exact g.trans hx
        · rw [hx] at g; cases g
theorem made_wide {Z s : State} {host : String} {σ : Lambda.Shape} {cK : ClassId} (hW : Z.Warmed39 s.vm) (hm : LamKit.Made Z host σ cK) : LamKit.Made s host σ cK := by
  obtain ⟨d, dk, h1, h2, h3, h4⟩ := hm
  have hA := hW.alike
  obtain ⟨dk', h1', e⟩ := hA.2.2 _ _ h1
  refine ⟨d, dk', h1', by rw [e]; exact h2, isMade_wide hW h3, ?_⟩
  simp only [State.lambdaCallable, hA.findClass, hA.assignable, hA.superclasses, hA.declaredIn] at h4 ⊢
  exact h4
/-- at a an object of the class that the rule made for σ in 'host'; it holds vs -/
def Lam (Z : State) (h : Heap) (a : Addr) (host : String) (σ : Lambda.Shape) (vs : List Value) : Prop := ∃ cK : ClassId, LamKit.Made Z host σ cK ∧ h[a]? = some { cls := cK, slots := vs.toArray, vm := .none }
section
variable {Z : State} {h h' : Heap} {a : Addr} {host : String} {σ : Lambda.Shape} {vs : List Value}
theorem Lam.lt (L : Lam Z h a host σ vs) : a < h.size := by obtain ⟨cK, -, q⟩ := L; exact (Array.getElem?_eq_some_iff.mp q).1
theorem Lam.ext (L : Lam Z h a host σ vs) (E : Ext h h') : Lam Z h' a host σ vs := by obtain ⟨cK, q0, q⟩ := L; exact ⟨cK, q0, E.2 _ _ q⟩
theorem Lam.keep {ws : List Addr} (L : Lam Z h a host σ vs) (K : Keep h h' ws) (q : a ∉ ws) : Lam Z h' a host σ vs := by obtain ⟨cK, q0, q1⟩ := L; exact ⟨cK, q0, K.2.1 _ _ q1 q⟩
end
/-- the made class's entry ki names the class K -/
def clsOK (σ : Lambda.Shape) (host : String) (ki : Nat) (K : String) : Bool :=
  match σ.file host with
  | none => false
  | some D => match D.constantPool[ki]? with
    | some (.class_ n) => decide (ki ≠ D.thisClass) && decide (D.constantPool.string? n = some K)
    | _ => false
theorem made_cls {st : Setting} {vm : Vm} {d c : ClassId} {dk : Class} {σ : Lambda.Shape} {host K : String} {ki : Nat} {kc : ClassId} (hok : clsOK σ host ki K = true) (hd : vm.classes[d]? = some dk) (hname : dk.name = host) (h : Lambda.isMade st vm d σ c = true) (hK : vm.findClass K = some kc) : vm.classReady c ki kc := by
  obtain ⟨dk', k, ok, tk, file, cf, object, iface, toy, lay, methods, target, found, hd', hk, hfile, hcf, -, -, -, -, -, -, -, -, -, hrec, -, -, -, -, -, -, -, -, hres, -⟩ := Lambda.isMade_spec h
  cases hd.symm.trans hd'
  rw [hname] at hcf
  unfold clsOK at hok
  rw [hcf] at hok
  dsimp only at hok
  split at hok
  · rename_i n hn
    simp only [Bool.and_eq_true, decide_eq_true_eq] at hok
    exact ⟨k, hk, hres ki _ (Lambda.resolvedOf_class hn hok.1 hok.2 hK)⟩
  · cases hok
theorem castMade {p : Program} {e : Env} {Z s U target : State} {host K : String} {σ : Lambda.Shape} {cK : ClassId} {ck : Code} {bl : List Frame} {ki : Nat} (hexec : p.tables.exec = Jvm.exec) (hU : At U ⟨cK, 1⟩ ck bl) (hW : s.WarmedH U.vm) (hmd : LamKit.Made s host σ cK) (hok : clsOK σ host ki K = true) (hZ : Z.Warmed39 s.vm) {b : Addr} (I : Ins Z U.heap b K true)
    {g : JFrame} (hg : g.method = ⟨cK, 1⟩) {rest : List Value} (hstack : g.stack = .ref b :: rest) (hdg : decode ck.code g.pc = .ok (.checkcast ki, 3)) (k : Steps p.tables e bl (U.setTop { g with pc := g.pc + 3 }) target) : Steps p.tables e bl (U.setTop g) target := by
  obtain ⟨d, dk, hd, hdn, hmade, -⟩ := hmd
  obtain ⟨dk', hd', he⟩ := hW.alike.2.2 _ _ hd
  obtain ⟨cell, cT, i1, i2, i3⟩ := I
  have hal := (wtrans hZ hW).alike
  have hfT : U.vm.findClass K = some cT := by rw [hal.findClass]; exact i2
  have hready := made_cls hok hd' (by rw [he]; exact hdn) (Lambda.isMade_warmer hW hmade) hfT
  have hasg : U.vm.assignable cell.cls cT = true := by rw [hal.assignable]; simp only [Bool.and_eq_true] at i3; exact i3.2
  have hst := VmData.noStatics_of (show cell.vm.isStatics = false by simp only [Bool.and_eq_true, Bool.not_eq_true'] at i3; exact i3.1)
  obtain ⟨kT, hkT, -⟩ := Vm.findClass_spec hfT
  obtain ⟨kS, hkS⟩ : ∃ kS, U.vm.classes[cell.cls]? = some kS := Vm.classAt_of_assignable hasg ⟨kT, hkT⟩
  have hU' : At U g.method ck bl := by rw [hg]; exact hU
  jvm_step hU' [hexec, hdg, checkcast.wp_ready (e := e) (s := U) (f := g) (c := cT) (x := .ref b) (rest := rest) hU.top (by rw [hg]; exact hready) hstack]
  refine ⟨cell, i1, hst, kS, hkS, kT, hkT, ?_⟩
  rw [if_pos hasg]
  exact k
/-! the method named: a walk that meets a site asks it -/
theorem Does.of_wpN {l : Launch} {Z : State} {y : MethodName} {code : ByteArray} {ml : Nat} {rt : Option FieldType} {R : Room} {n0 : Nat} {as' : Array Value} {h0 : Heap} {Q : Option Value → Heap → Prop} (hpl : plainFor y = true) {Ls : Array Slot} (hef : ∀ m, entryFrame m as' ml = mkF m 0 Ls [])
    (hW : ∀ C : Cx, C.2.2.2.1.methodNamed? y = some C.2.2.2.2.1 → WP C Z code ml y.cls rt y.name R n0 Q 0 0 h0 0 Ls []) : Does l Z y code ml rt R n0 as' h0 Q := by
  intro ws
  refine MetFree.of_bodySF hpl hisR ?_
  intro p e s m args below meth c s₁ Bd hml0 hP hK
  obtain ⟨rfl, hZ, hh⟩ := hP
  have X0 : Stand p l e R s m args below meth c s₁ [] 0 0 := Stand.of_body Bd
  have e0 : s₁.heap = h0 := by rw [← hh, Bd.state]; rfl
  obtain ⟨s₂, v, L, h1, h2, h3, h4, h5, h6⟩ := hW (p, l, e, s, m, args, below, meth, c) Bd.named Bd.exec Bd.bytes hml0 (findClass_of_methodNamed Bd.named) hZ Bd.returns Bd.notSynchronized (name_of_methodNamed Bd.named Bd.method).1 s₁ [] X0 e0 (Fr.nil n0)
  exact ⟨s₂, _, castTop (hef m) h1, h2, h3, v, L, rfl, ⟨h4, h5⟩, h6⟩
/-- a contract of a body that writes only from n0 on, as LamKit asks it -/
theorem Does.met {l : Launch} {Z : State} {y : MethodName} {code : ByteArray} {ml : Nat} {rt : Option FieldType} {R : Room} {n0 : Nat} {as' : Array Value} {h0 : Heap} {Q : Option Value → Heap → Prop} (hM : Does l Z y code ml rt R n0 as' h0 Q) :
    Met l y [Jvm.Cond.code y code ml rt] R (fun a U => a = as' ∧ Z.Warmed39 U.vm ∧ U.heap = h0) (fun _ _ o t => ∃ v, o = .returned v ∧ Q v t.heap) R.cells R.slots (fun x => n0 ≤ x) := by
  intro p e ha hc hk s m args below hf happ hP hK
  obtain ⟨n, o, h1, h2, h3, v, L, rfl, ⟨hq, hN⟩, hF⟩ := hM [] p e ha hc hk s m args below hf happ hP hK
  exact ⟨n, _, h1, h2, h3, ⟨v, rfl, hq⟩, L, hF, hN⟩
/-! an interface's method that a superinterface declares (the library's law asks the word that it is public; the link's own word already says that it may be reached) -/
theorem link_face {s : State} {args : Array Value} {cls : String} {x : MethodName} {index d c : Nat} {ck ok : Class} {meth : Method} {mf : MethodId}
    (hd : s.vm.findClass cls = some d) (hc : s.vm.findClass x.cls = some c) (hck : s.vm.classes[c]? = some ck) (hvi : ck.isInterface = true) (hnone : ck.findMethod x.name x.desc = none) (hf : s.methodFound? x.cls x.name x.desc = some mf) (hok : s.vm.classes[mf.cls]? = some ok) (hm : ok.methods[mf.idx]? = some meth)
    (hcn : x.name ≠ "clone") (hx : x.cls ≠ "java/lang/invoke/MethodHandle" ∧ x.cls ≠ "java/lang/invoke/VarHandle") (h : (Jvm.Cond.methodLink cls index x).before args s = true) (pl : Platform) (hpl : pl.magicAccessors = ({} : Platform).magicAccessors) :
    ∃ ci, s.vm.MethodLinksFF pl d index ci c mf ∧ s.rightAt d index (.method mf) = true := by
  obtain ⟨kc, hkc, hnamec⟩ := Vm.findClass_spec hc
  cases hck.symm.trans hkc
  have hpoly : ∀ y, signaturePolymorphic ck y = false := fun y => by simp [signaturePolymorphic, hnamec, hx.1, hx.2]
  have hmeth : s.vm.method? mf = some meth := by simp [Vm.method?, hok, hm]
  obtain ⟨dk, hdk, -⟩ := Vm.findClass_spec hd
  simp only [Jvm.Cond.before, Jvm.Cond.holds, Jvm.Cond.value, hd, hc, hf] at h
  rcases hme : s.memberEntry? cls index with _ | ⟨ci, via⟩
  · simp [hme] at h
  rcases hcl : s.classLinks cls ci x.cls with _ | linked
  · simp [hme, hcl] at h
  simp only [hme, hcl, hdk, hck, hok, hmeth, Option.bind_eq_bind, Option.bind_some, Option.pure_def, Option.some.injEq, Bool.and_eq_true, beq_iff_eq, Option.isNone_iff_eq_none] at h
  obtain ⟨⟨⟨⟨⟨⟨⟨rfl, hnm⟩, hopen⟩, hvia⟩, -⟩, -⟩, hml⟩, hacc⟩ := h
  have hvia' : via = true := hvia.symm.trans hvi
  subst hvia'
  have hplain : s.vm.Plain meth.accessFlags mf.cls ok c d dk := by
    rcases (Bool.or_eq_true _ _).mp hacc with q | q
    · simpa [Vm.Plain, plainAccess, or_assoc, and_assoc] using q
    · simp [hcn] at q
  obtain ⟨cr, hcr, hlinks⟩ := State.classLinks_spec hd hcl pl hpl
  cases hc.symm.trans hcr
  obtain ⟨cp, hcp, hnames⟩ := State.names_spec hnm
  obtain ⟨dk1, cf, hdk1, hcf, rfl⟩ := State.poolOf?_spec hd hcp
  cases hdk.symm.trans hdk1
  obtain ⟨ci1, nt, hent, hnt, -⟩ := namesOf?_method hnames
  have hent1 : ci1 = ci ∧ cf.constantPool[index]? = some (.interfaceMethodref ci nt) := by
    simp only [State.memberEntry?, hcp, Option.bind_eq_bind, Option.bind_some] at hme
    rcases hent with q | q
    · rw [q] at hme; simp at hme
    · rw [q] at hme
      simp only [Option.some.injEq, Prod.mk.injEq] at hme
      exact ⟨hme.1, by rw [← hme.1]; exact q⟩
  obtain ⟨rfl, hent2⟩ := hent1
  obtain ⟨dk2, cf2, name2, _, hd2, hcf2, hl2, hname2, _⟩ := hlinks.here
  cases hdk.symm.trans hd2
  cases hcf.symm.trans hcf2
  have hne : ci1 ≠ index := fun q => by subst q; simp [ConstantPool.className?, hent2] at hname2
  exact ⟨ci1, ⟨dk, cf, nt, x.name, x.desc, ck, ok, meth, hdk, hcf, hent2, hnt, hlinks, hne, hck, hvi, hpoly, hnone, State.faceFind_of_found hc hck hvi hpoly hnone hf, hok, hm, hl2.trans hml.symm, hplain, State.openOr_spec hd hdk hopen⟩, by simp [State.rightAt, hdk, hcf, hnames, hf]⟩
section
variable {p : Program} {l : Launch} {e : Env} {R : Room} {s : State} {m : MethodId} {args : Array Value} {below : List Frame} {meth : Method} {c : Code} {T : State} {locs : List Loc} {cells slots : Nat}
theorem ifaceUp (X : Stand p l e R s m args below meth c T locs cells slots) (hexec : p.tables.exec = Jvm.exec) {own J K : String} {index count : Nat} {x y : MethodName} (hown : s.vm.findClass own = some m.cls) (hlink : (Jvm.Cond.methodLink own index x).before args s = true)
    (hdecl : (Jvm.Cond.declares ⟨J, x.name, x.desc⟩).before args s = true) (hface : (Jvm.Cond.interfaceMethod x.cls J x.name x.desc).before args s = true) (hxo : x.cls ≠ J) (hcn : x.name ≠ "clone") (hsel : (Jvm.Cond.selects K x y).before args s = true) (hinst : (Jvm.Cond.instanceMethod y).before args s = true)
    (hpub : (Jvm.Cond.publicMethod y).before args s = true) (hunh : (Jvm.Cond.unhidden K x.name x.desc).before args s = true) (hcast : (Jvm.Cond.castable K x.cls).before args s = true) (hx : x.cls ≠ "java/lang/invoke/MethodHandle" ∧ x.cls ≠ "java/lang/invoke/VarHandle")
    {W : Nat} {Pre : Pt → Array Value → Prop} {Post : Pt → Array Value → Option Value → Pt → Prop} (hK : Back l R p e below s args y 5 W Pre Post) {b : Addr} {cB : ClassId} {kB : Class} (hcB : s.vm.findClass K = some cB) (hkB : s.vm.classes[cB]? = some kB) (hrecv : IsOf cB T b)
    {g : JFrame} (hg : g.method = m) (hsize : g.locals.size = c.maxLocals) {argsL rest : List Value} (hlen : ∀ sig, parseMethodDescriptor x.desc = some sig → argsL.length = sig.parameters.length) (hstack : g.stack = argsL.reverse ++ .ref b :: rest) (hW : 2 * g.monitorRoom + (rest.map fun v => v.category).sum ≤ W)
    (hdg : decode c.code g.pc = .ok (.invokeinterface index count, 5)) (hpre : ∀ vm₁, s.WarmedH vm₁ → Pre ⟨T.setVm vm₁, locs, cells, slots⟩ (.ref b :: argsL).toArray) :
    ∃ (v : Option Value) (vm₁ : Vm) (B : Pt), s.WarmedH vm₁ ∧ Stand p l e R s m args below meth c B.U B.locs B.cells B.slots ∧ Post ⟨T.setVm vm₁, locs, cells, slots⟩ (.ref b :: argsL).toArray v B ∧ Steps p.tables e below (T.setTop g) (B.U.setTop { g with pc := g.pc + 5, stack := v.toList ++ rest }) := by
  obtain ⟨cell, hcell, hcls, hstat⟩ := hrecv
  subst hcls
  obtain ⟨r0, r, hn, hrm, hstR, hsigR⟩ := Cond.declares_spec hdecl
  obtain ⟨cI, kI, r1, hcI, hkI, hiI, hfound, hn1⟩ := Cond.interfaceMethod_spec hface
  cases hn.symm.trans hn1
  obtain ⟨hnameR, hdescR⟩ := name_of_methodNamed hn hrm
  obtain ⟨mk, methM, hnamed, hmethM, -, habM⟩ := Cond.instanceMethod_spec hinst
  obtain ⟨c2, r2, m2, s1, s2, s3, s4, -⟩ := Cond.selects_spec hsel
  cases hcB.symm.trans s1
  cases hfound.symm.trans s2
  cases hnamed.symm.trans s3
  obtain ⟨c3, t3, w1, w2, w3⟩ := Cond.castable_spec hcast
  cases hcB.symm.trans w1
  cases hcI.symm.trans w2
  have hpubM : hasFlag methM.accessFlags Acc.public_ = true := Cond.publicMethod_spec hnamed hmethM hpub
  obtain ⟨ok, hok, hokname⟩ := className_of_methodNamed hn
  have hmO : ok.methods[r0.idx]? = some r := by simpa [Vm.method?, hok] using hrm
  obtain ⟨kI2, hkI2, hnameI⟩ := Vm.findClass_spec hcI
  cases hkI.symm.trans hkI2
  have hnone : kI.findMethod x.name x.desc = none := by
    cases hj : kI.findMethod x.name x.desc with
    | none => rfl
    | some j =>
      exfalso
      have q : s.methodNamed? x = some ⟨cI, j⟩ := by simp [State.methodNamed?, hcI, hkI, hj]
      have q2 : r0 = ⟨cI, j⟩ := Option.some.inj (hfound.symm.trans (State.methodFound?_of_named q hx))
      rw [q2] at hok
      cases hkI.symm.trans hok
      exact hxo (hnameI.symm.trans hokname)
  obtain ⟨ci, hl, hright⟩ := link_face hown hcI hkI hiI hnone hfound hok hmO hcn hx hlink e.platform (by rw [X.admits.platform])
  have hE := State.methodEntryFF (e := e) X.warmed hl hright
  obtain ⟨dk, cfile, nt, _, _, ck, _, _, hd, hcf, hcp, -, -, -, hck, hvia, -⟩ := hl.here
  cases hkI.symm.trans hck
  have al := hE.warmed.alike
  obtain ⟨dk2, hdk2, hres⟩ := hE.classReady
  obtain ⟨dk3, hdk3, hed⟩ := al.2.2 _ _ hd
  cases hdk2.symm.trans hdk3
  obtain ⟨ck2, hck2, hec⟩ := al.2.2 _ _ hkI
  obtain ⟨kB2, hkB2, -⟩ := al.2.2 _ _ hkB
  have X1 := X.noted hE.warmed
  obtain ⟨v, B, X', hpost, hsteps⟩ := hK m meth c ⟨T.setVm (T.vm.calledUp m.cls ci index cI r0), locs, cells, slots⟩ { g with stack := rest } (.invokeinterface index count) mk (Value.ref b :: argsL).toArray X1 hg hsize hdg hW (X1.named hnamed) (hpre (T.vm.calledUp m.cls ci index cI r0) X1.warmed)
  refine ⟨v, _, B, X1.warmed, X', hpost, ?_⟩
  subst hg
  jvm_step X.here [hexec, hdg, invokeinterface.wp_coldFace (e := e) (s := T) (s₀ := s) (f := g) (count := count) X.here.top X.warmed hE hd hcf (Or.inr hcp) hkI hvia,
    invokeinterface.wp_ready (e := e) (s := T.setVm (T.vm.calledUp g.method.cls ci index cI r0)) (f := g) (count := count) (r := r) (meth := methM) (m := mk) (args := argsL) (rest := rest) (cell := cell) (kcell := kB2) (ck := dk2) (nk := ck2) (cf := cfile) (ci := ci) (nt := nt) (named := cI)
      X.here.top hE.ready (by show (T.vm.calledUp g.method.cls ci index cI r0).method? r0 = some r; rw [al.method?]; exact hrm) hstR (hlen _ hsigR) hstack hcell (fun z q => by rw [q] at hstat; cases hstat) hkB2 hdk2 (by rw [hed]; exact hcf) hcp hres hck2 (by rw [hec]; exact hvia)
      (by show (T.vm.calledUp g.method.cls ci index cI r0).assignable cell.cls cI = true; rw [al.assignable]; exact w3)
      (by show selectMethod e.platform (T.vm.calledUp g.method.cls ci index cI r0) cell.cls r0 = .method mk; rw [al.selectMethod, Launch.admits_selectMethod X.admits]; exact s4)
      (by show (T.vm.calledUp g.method.cls ci index cI r0).method? mk = some methM; rw [al.method?]; exact hmethM)
      (Or.inr (Or.inr (by show ((cell.cls :: (T.vm.calledUp g.method.cls ci index cI r0).superclasses cell.cls).any fun k => (declaredIn (T.vm.calledUp g.method.cls ci index cI r0) r.name r.desc k).any fun (_, y) => y.isPrivate || y.isStatic) = false; rw [hnameR, hdescR]; simp only [al.superclasses, al.declaredIn]; exact Cond.unhidden_spec hcB hunh)))
      (Or.inl hpubM) habM]
  intro acts
  rw [doInvoke_state]
  exact hsteps
end
section RulesL
variable {C : Cx} {Z : State} {code : ByteArray} {ml : Nat} {own : String} {rt : Option FieldType} {nm : String} {R : Room} {n0 : Nat} {Q : Option Value → Heap → Prop} {G : State → Option Value → List Loc → Prop} {cl sl : Nat} {h : Heap} {pc pc' : Nat} {Ls Ls' : Array Slot} {st st' : List Value} {a0 : Array Value}
/-- a lambda's site that captures -/
theorem WP.indy {i fi : Nat} {x : MethodName} {σ : Lambda.Shape} {vals rest : List Value} {cl' sl' : Nat} (hd : decode code pc = .ok (.invokedynamic i, 5)) (hp : pc + 5 = pc') (hN : C.2.2.2.1.methodNamed? x = some C.2.2.2.2.1) (w : (Jvm.Cond.lambdaSite x pc i σ).before a0 Z = true) (wO : (Jvm.Cond.instantiable "java/lang/Object" 0).before a0 Z = true)
    (hcap : σ.captured ≠ []) (hok : LamKit.capOK σ x.cls fi 0 = true) (hlen : vals.length = σ.captured.length) (hst : st = vals.reverse ++ rest) (hfit : ∀ (i : Nat) t v, σ.captured[i]? = some t → vals[i]? = some v → narrow t v = v ∧ fits t v = true) (hml : Ls.size = ml) (hlo : (st.map fun v => v.category).sum + 3072 ≤ R.locals)
    (hc : cl + 1 = cl') (hs : sl + vals.length = sl') (hc' : cl' ≤ R.cells) (hs' : sl' ≤ R.slots)
    (hr : ∀ h' a, a = h.size → Ext h h' → Lam Z h' a x.cls σ vals → WPG C Z code ml own rt nm R n0 G cl' sl' h' pc' Ls (.ref a :: rest)) : WPG C Z code ml own rt nm R n0 G cl sl h pc Ls st := by
  subst hp hc hs
  intro k1 k2 k3 k4 k5 k6 k7 k8 T locs X e N
  obtain ⟨cK, one, hat⟩ := Cond.lambdaSite_spec w
  obtain ⟨mD, kD, cfD, i0, p0, lk, hmD, hkD, hcfD, hsh, -, hfind, hmade, hcan, hl⟩ := State.lambdaAt?_spec hat
  have hal := k5.alike
  have e1 : C.2.2.2.2.1 = mD := by
    have q := State.methodNamed?_setVm (s := Z) hal x
    rw [hmD] at q
    exact Option.some.inj (hN.symm.trans q)
  subst e1
  obtain ⟨kD0, hkD0, hnameD⟩ := className_of_methodNamed hmD
  cases hkD.symm.trans hkD0
  obtain ⟨kD', hkD', eD⟩ := hal.2.2 _ _ hkD
  rcases hl with ⟨a, cell, -, -, hc0, -⟩ | ⟨rfl, -, -⟩
  · exact absurd hc0 hcap
  · obtain ⟨b, nt, desc, site, h1, h2, h3, h4⟩ := Lambda.shapeOf?_site hsh
    have hO : (Jvm.Cond.instantiable "java/lang/Object" 0).before #[] C.2.2.2.1 = true := mvT k5 wO
    obtain ⟨kc, f, hkc, hkind, hty, -⟩ := LamKit.made_cap hok hkD' (by rw [eD]; exact hnameD) (isMade_wide k5 hmade) (LamKit.noFields hO (State.WarmedH.refl _))
    have hz : ((kc.instanceTypes.toList.zip vals).map fun (t, v) => narrow t v) = vals := by rw [hty]; exact LamKit.zip_narrow _ _ hlen fun i t v a b => (hfit i t v a b).1
    have hwl : C.2.2.1.platform.lambdaLinkWords = 3072 := by rw [X.admits.platform]
    have q := X.lambdaMakes k1 (g := mkF C.2.2.2.2.1 pc Ls st) rfl (by rw [k3]; exact hml) (hb k2 hd) (vals := vals) (rest := rest) hkD' (by rw [eD]; exact hfind) (by rw [eD]; exact hcfD) h1 h2 (parseLong_of_parse h3) (by rw [h4]; exact hlen) hst hkc
      (by rw [hwl]; show 2 * 0 + (st.map fun v => v.category).sum + 3072 ≤ _; omega) hc' (by rw [hz]; exact hs')
      (fun i v hv => by
        rw [hz] at hv
        have hv' : vals[i]? = some v := by simpa using hv
        have hi : i < σ.captured.length := by rw [← hlen]; exact (List.getElem?_eq_some_iff.mp hv').1
        have := (hfit i _ v (List.getElem?_eq_getElem hi) hv').2
        simp [State.fitsSlot, State.slotType?, hkc, hkind, hty, List.getElem?_eq_getElem hi, this])
    rw [hz] at q
    have hsz : T.heap.size = h.size := by rw [e]
    have E : Ext h (h.push { cls := cK, slots := vals.toArray, vm := .none }) := ⟨by simp, fun a c hc => by
      have := (Array.getElem?_eq_some_iff.mp hc).1
      rw [Array.getElem?_push_lt this]; rw [← hc, Array.getElem?_eq_getElem this]⟩
    have X' := q.1
    simp only [List.size_toArray] at X'
    obtain ⟨s₂, v', L', g1, g2⟩ := hr _ _ rfl E ⟨cK, ⟨_, kD, hkD, hnameD, hmade, hcan⟩, by simp⟩ k1 k2 k3 k4 k5 k6 k7 k8 _ _ X' (by show T.heap.push _ = _; rw [e]) N
    exact ⟨s₂, v', L', q.2 _ (by rw [hsz]; exact g1), g2⟩
/-- an interface's own method, called on an object of the class K -/
theorem WP.callF {a : Addr} {i count : Nat} {xi y : MethodName} {K : String} {code' : ByteArray} {ml' wd cl' sl' : Nat} {rt' : Option FieldType} {R' : Room} {Q' : Option Value → Heap → Prop} {argsL rest : List Value} {ps : List FieldType} {rr : Option FieldType} (hd : decode code pc = .ok (.invokeinterface i count, 5)) (hp : pc + 5 = pc') (w1 : (Jvm.Cond.methodLink own i xi).before a0 Z = true) (wd1 : (Jvm.Cond.declares xi).before a0 Z = true) (wf : (Jvm.Cond.interfaceMethod xi.cls xi.cls xi.name xi.desc).before a0 Z = true) (ws : (Jvm.Cond.selects K xi y).before a0 Z = true) (w2 : (Jvm.Cond.instanceMethod y).before a0 Z = true) (wp : (Jvm.Cond.publicMethod y).before a0 Z = true) (wu : (Jvm.Cond.unhidden K xi.name xi.desc).before a0 Z = true) (wc : (Jvm.Cond.castable K xi.cls).before a0 Z = true) (w3 : (Jvm.Cond.initialized y.cls).before a0 Z = true) (w4 : (Jvm.Cond.code y code' ml' rt').before a0 Z = true) (hy : xi.cls ≠ "java/lang/invoke/MethodHandle" ∧ xi.cls ≠ "java/lang/invoke/VarHandle") (E : Exa Z h a K) (hM : ∀ l, Does l Z y code' ml' rt' R' n0 (.ref a :: argsL).toArray h Q') (hpd : parseMethodDescriptor xi.desc = some ⟨ps, rr⟩) (hlen : argsL.length = ps.length) (hst : st = argsL.reverse ++ .ref a :: rest) (hml : Ls.size = ml) (hw : (rest.map fun v => v.category).sum ≤ wd) (hrm : R'.frames + 1 ≤ R.frames) (hlo : wd + (ml' + 11) + R'.locals ≤ R.locals) (hc : cl + R'.cells = cl') (hs : sl + R'.slots = sl') (hc' : cl' ≤ R.cells) (hs' : sl' ≤ R.slots)
    (hr : ∀ v h', Q' v h' → WPG C Z code ml own rt nm R n0 G cl' sl' h' pc' Ls (v.toList ++ rest)) : WPG C Z code ml own rt nm R n0 G cl sl h pc Ls st := by
  subst hp hc hs
  intro k1 k2 k3 k4 k5 k6 k7 k8 T locs X e N
  obtain ⟨cq, kq, q1, q2, q3⟩ := isOf k5 e E
  obtain ⟨v, _, ⟨T', L', c', n'⟩, -, X', ⟨Lc, hQ, l1, y1, z1⟩, k⟩ := X.interfaceBack k1 (xi := xi) (y := y) k4 (mvT k5 w1) (mvT k5 wd1) (Jvm.Free.ULB.iface_rides k5.alike wf) (mvT k5 ws) (mvT k5 w2) (mvT k5 wp) (mvT k5 wu) (mvT k5 wc) hy (backOf (W := wd) (Q := fun v h L => Q' v h ∧ Fr n0 L) (hM _ []) k5 w4 w3 hrm hlo) q1 q2 q3 (g := mkF _ pc Ls st) rfl (by rw [k3]; exact hml) (Steps.refl _) (argsL := argsL) (rest := rest) (lenOf hpd hlen) hst (by show 2 * 0 + _ ≤ _; omega) (hb k2 hd) (fun _ _ => ⟨rfl, e, hc', hs'⟩)
  dsimp only [Pt.U, Pt.locs, Pt.cells, Pt.slots] at X' l1 y1 z1 k hQ
  subst l1 y1 z1
  obtain ⟨s₂, v', L2, h1, h2⟩ := hr v _ hQ.1 k1 k2 k3 k4 k5 k6 k7 k8 T' _ X' rfl (Fr.app N hQ.2)
  exact ⟨s₂, v', L2, k.trans h1, h2⟩
/-- .. that a superinterface J declares -/
theorem WP.callFUp {a : Addr} {i count : Nat} {xi y : MethodName} {J K : String} {code' : ByteArray} {ml' wd cl' sl' : Nat} {rt' : Option FieldType} {R' : Room} {Q' : Option Value → Heap → Prop} {argsL rest : List Value} {ps : List FieldType} {rr : Option FieldType} (hd : decode code pc = .ok (.invokeinterface i count, 5)) (hp : pc + 5 = pc') (w1 : (Jvm.Cond.methodLink own i xi).before a0 Z = true) (wd1 : (Jvm.Cond.declares ⟨J, xi.name, xi.desc⟩).before a0 Z = true) (wf : (Jvm.Cond.interfaceMethod xi.cls J xi.name xi.desc).before a0 Z = true) (hxo : xi.cls ≠ J) (hcn : xi.name ≠ "clone") (ws : (Jvm.Cond.selects K xi y).before a0 Z = true) (w2 : (Jvm.Cond.instanceMethod y).before a0 Z = true) (wp : (Jvm.Cond.publicMethod y).before a0 Z = true) (wu : (Jvm.Cond.unhidden K xi.name xi.desc).before a0 Z = true) (wc : (Jvm.Cond.castable K xi.cls).before a0 Z = true) (w3 : (Jvm.Cond.initialized y.cls).before a0 Z = true) (w4 : (Jvm.Cond.code y code' ml' rt').before a0 Z = true) (hy : xi.cls ≠ "java/lang/invoke/MethodHandle" ∧ xi.cls ≠ "java/lang/invoke/VarHandle") (E : Exa Z h a K) (hM : ∀ l, Does l Z y code' ml' rt' R' n0 (.ref a :: argsL).toArray h Q') (hpd : parseMethodDescriptor xi.desc = some ⟨ps, rr⟩) (hlen : argsL.length = ps.length) (hst : st = argsL.reverse ++ .ref a :: rest) (hml : Ls.size = ml) (hw : (rest.map fun v => v.category).sum ≤ wd) (hrm : R'.frames + 1 ≤ R.frames) (hlo : wd + (ml' + 11) + R'.locals ≤ R.locals) (hc : cl + R'.cells = cl') (hs : sl + R'.slots = sl') (hc' : cl' ≤ R.cells) (hs' : sl' ≤ R.slots)
    (hr : ∀ v h', Q' v h' → WPG C Z code ml own rt nm R n0 G cl' sl' h' pc' Ls (v.toList ++ rest)) : WPG C Z code ml own rt nm R n0 G cl sl h pc Ls st := by
  subst hp hc hs
  intro k1 k2 k3 k4 k5 k6 k7 k8 T locs X e N
  obtain ⟨cq, kq, q1, q2, q3⟩ := isOf k5 e E
  obtain ⟨v, _, ⟨T', L', c', n'⟩, -, X', ⟨Lc, hQ, l1, y1, z1⟩, k⟩ := ifaceUp X k1 (x := xi) (y := y) (J := J) k4 (mvT k5 w1) (mvT k5 wd1) (Jvm.Free.ULB.iface_rides k5.alike wf) hxo hcn (mvT k5 ws) (mvT k5 w2) (mvT k5 wp) (mvT k5 wu) (mvT k5 wc) hy (backOf (W := wd) (Q := fun v h L => Q' v h ∧ Fr n0 L) (hM _ []) k5 w4 w3 hrm hlo) q1 q2 q3 (g := mkF _ pc Ls st) rfl (by rw [k3]; exact hml) (argsL := argsL) (rest := rest) (lenOf hpd hlen) hst (by show 2 * 0 + _ ≤ _; omega) (hb k2 hd) (fun _ _ => ⟨rfl, e, hc', hs'⟩)
  dsimp only [Pt.U, Pt.locs, Pt.cells, Pt.slots] at X' l1 y1 z1 k hQ
  subst l1 y1 z1
  obtain ⟨s₂, v', L2, h1, h2⟩ := hr v _ hQ.1 k1 k2 k3 k4 k5 k6 k7 k8 T' _ X' rfl (Fr.app N hQ.2)
  exact ⟨s₂, v', L2, k.trans h1, h2⟩
/-- a call of the interface's method on a lambda's object that captured one reference: cast of the one argument, the static target, a boolean back -/
theorem WP.callLam {a b : Addr} {i count fi ki idx ci : Nat} {xi y : MethodName} {host K : String} {σ : Lambda.Shape} {v : Value} {code' : ByteArray} {ml' wd cl' sl' : Nat} {rt' : Option FieldType} {R' : Room} {Q' : Option Value → Heap → Prop} {rest : List Value} {ps ps' : List FieldType} {rr rr' : Option FieldType} {fcode : ByteArray} (hd : decode code pc = .ok (.invokeinterface i count, 5)) (hp : pc + 5 = pc') (w1 : (Jvm.Cond.methodLink own i xi).before a0 Z = true) (wd1 : (Jvm.Cond.declares xi).before a0 Z = true) (wf : (Jvm.Cond.interfaceMethod xi.cls xi.cls xi.name xi.desc).before a0 Z = true) (w2 : (Jvm.Cond.static y).before a0 Z = true) (w3 : (Jvm.Cond.initialized y.cls).before a0 Z = true) (w4 : (Jvm.Cond.code y code' ml' rt').before a0 Z = true) (wO : (Jvm.Cond.instantiable "java/lang/Object" 0).before a0 Z = true)
    (hxi : xi.cls = σ.iface ∧ xi.name = σ.name ∧ xi.desc = σ.sam.toString) (hy : y.cls = σ.implClass ∧ y.name = σ.implName ∧ y.desc = σ.implDesc.toString) (hpoly : (xi.cls ≠ "java/lang/invoke/MethodHandle" ∧ xi.cls ≠ "java/lang/invoke/VarHandle") ∧ y.cls ≠ "java/lang/invoke/MethodHandle" ∧ y.cls ≠ "java/lang/invoke/VarHandle")
    (F : Lam Z h a host σ [v]) (hok : LamKit.fwdOK σ host fcode 2 (some .boolean) idx ci = true) (hcap : LamKit.capOK σ host fi 0 = true) (hcls : clsOK σ host ki K = true) (d0 : decode fcode 0 = .ok (.aload_n 0, 1)) (d1 : decode fcode 1 = .ok (.getfield fi, 3)) (d4 : decode fcode 4 = .ok (.aload_n 1, 1)) (d5 : decode fcode 5 = .ok (.checkcast ki, 3)) (d8 : decode fcode 8 = .ok (.invokestatic idx, 3)) (d11 : decode fcode 11 = .ok (.ireturn, 1)) (I : Ins Z h b K true)
    (hM : ∀ l, Does l Z y code' ml' rt' R' n0 #[v, .ref b] h Q') (hQ : ∀ u g, Q' u g → ∃ w, u = some (.int w) ∧ narrow .boolean (.int w) = .int w) (hpd : parseMethodDescriptor xi.desc = some ⟨ps, rr⟩) (hlen : 1 = ps.length) (hpd' : parseMethodDescriptor y.desc = some ⟨ps', rr'⟩) (hlen' : 2 = ps'.length) (hst : st = .ref b :: .ref a :: rest) (hml : Ls.size = ml) (hw : (rest.map fun v => v.category).sum ≤ wd) (hrm : R'.frames + 2 ≤ R.frames) (hlo : wd + 13 + ((ml' + 11) + R'.locals) ≤ R.locals) (hc : cl + R'.cells = cl') (hs : sl + R'.slots = sl') (hc' : cl' ≤ R.cells) (hs' : sl' ≤ R.slots)
    (hr : ∀ u h', Q' u h' → WPG C Z code ml own rt nm R n0 G cl' sl' h' pc' Ls (u.toList ++ rest)) : WPG C Z code ml own rt nm R n0 G cl sl h pc Ls st := by
  subst hp hc hs hst
  intro k1 k2 k3 k4 k5 k6 k7 k8 T locs X e N
  obtain ⟨cK, hmade, hcell⟩ := F
  have hms := made_wide k5 hmade
  have hO : (Jvm.Cond.instantiable "java/lang/Object" 0).before #[] C.2.2.2.1 = true := mvT k5 wO
  obtain ⟨u, st1, t1, T', L1, X', hL1, e1, e2, ⟨v1, hv1, hq⟩, k⟩ := LamKit.callLamS X k1 (own := own) (host := host) (index := i) (count := count) (xi := xi) (y := y) (σ := σ) (Does.met (hM _)) (fun a' U g mk q => ⟨q.1, q.2.1, q.2.2⟩) rfl rfl
    (fun w hw a' U hU => by cases List.mem_singleton.mp hw; exact mvT (wtrans k5 hU) w4) (List.mem_singleton.mpr rfl) k4 (mvT k5 w1) (mvT k5 wd1) (Jvm.Free.ULB.iface_rides k5.alike wf) (mvT k5 w4) (mvT k5 w2) (mvT k5 w3) hxi hy hpoly hms (a := a) ⟨_, by rw [e]; exact hcell, rfl, rfl⟩ hok d8 (op := .ireturn) d11
    (g := mkF _ pc Ls (.ref b :: .ref a :: rest)) rfl (by rw [k3]; exact hml) (argsL := [.ref b]) (argsT := [v, .ref b]) (rest := rest) (L0 := #[.val (.ref a), .val (.ref b)]) (lenOf hpd hlen) (lenOf hpd' hlen') rfl (hb k2 hd) (fun mk => by first | (simp [entryFrame, argsToLocals, Value.category]; done) | rfl) rfl
    (fun U ck bl target hU hcode hheap hWU hsteps => by
      have hb' : ∀ {q : Nat} {ins : Instr} {n : Nat}, decode fcode q = .ok (ins, n) → decode ck.code q = .ok (ins, n) := fun q => by rw [hcode]; exact q
      have hcU : U.heap[a]? = some { cls := cK, slots := #[v], vm := .none } := by rw [hheap, e]; exact hcell
      refine XS.aloadN hU k1 rfl (hb' d0) (v := .ref a) rfl rfl ?_
      refine LamKit.getCap k1 hU hWU hms hcap hO hcU rfl (v := v) rfl (g := mkF _ 1 #[.val (.ref a), .val (.ref b)] [.ref a]) rfl rfl (hb' d1) ?_
      refine XS.aloadN hU k1 rfl (hb' d4) (v := .ref b) rfl rfl ?_
      refine castMade k1 hU hWU hms hcls k5 (by rw [hheap, e]; exact I) (g := mkF _ 5 #[.val (.ref a), .val (.ref b)] [.ref b, v]) rfl rfl (hb' d5) ?_
      exact hsteps)
    (fun st2 v2 t2 ⟨v3, e3, q⟩ => by cases e3; obtain ⟨w, rfl, hn⟩ := hQ _ _ q; exact Or.inl ⟨.boolean, w, rfl, Or.inr (Or.inl rfl), hn, rfl, rfl⟩)
    hrm (by show 2 * 0 + _ + (2 + 11) + _ ≤ _; omega) hc' hs' (fun U hU hh => ⟨rfl, wtrans k5 hU, by rw [hh, e]⟩)
  have hv2 : u = v1 := Outcome.returned.inj hv1
  subst hv2
  rw [← e1] at hq
  obtain ⟨s₂, v', L2, g1, g2⟩ := hr u _ hq k1 k2 k3 k4 k5 k6 k7 k8 T' _ X' rfl (Fr.app N hL1)
  exact ⟨s₂, v', L2, k _ g1, g2⟩
/-- the clone of a byte[] -/
theorem WP.cloneB {i : Nat} {a : Addr} {n cap wd cl' sl' : Nat} {g : Nat → Int32} (hd : decode code pc = .ok (.invokevirtual i, 3)) (hp : pc + 3 = pc') (w1 : (Jvm.Cond.methodLink own i ⟨"[B", "clone", "()Ljava/lang/Object;"⟩).before a0 Z = true) (w2 : (Jvm.Cond.sameMethod "[B" "java/lang/Object" "clone" "()Ljava/lang/Object;").before a0 Z = true) (w3 : (Jvm.Cond.native ⟨"java/lang/Object", "clone", "()Ljava/lang/Object;"⟩).before a0 Z = true)
    (w4 : (Jvm.Cond.instanceMethod ⟨"java/lang/Object", "clone", "()Ljava/lang/Object;"⟩).before a0 Z = true) (w5 : (Jvm.Cond.selects "[B" ⟨"[B", "clone", "()Ljava/lang/Object;"⟩ ⟨"java/lang/Object", "clone", "()Ljava/lang/Object;"⟩).before a0 Z = true) (w6 : (Jvm.Cond.castable "[B" "java/lang/Cloneable").before a0 Z = true)
    (A : Ari Z h a .byte n g) (E : Exa Z h a "[B") (hml : Ls.size = ml) (hw : (st.map fun v => v.category).sum ≤ wd) (hcap : n ≤ cap) (hfr : 1 ≤ R.frames) (hlo : wd + 14 ≤ R.locals) (hc : cl + 1 = cl') (hs : sl + cap = sl') (hc' : cl' ≤ R.cells) (hs' : sl' ≤ R.slots)
    (hr : ∀ h' b, b = h.size → Ext h h' → Exa Z h' b "[B" → WPG C Z code ml own rt nm R n0 G cl' sl' h' pc' Ls (.ref b :: st)) : WPG C Z code ml own rt nm R n0 G cl sl h pc Ls (.ref a :: st) := by
  subst hp hc hs
  intro k1 k2 k3 k4 k5 k6 k7 k8 T locs X e N
  obtain ⟨c0, A0, r1, r2, r3, r4⟩ := A
  have FC : FitC Z c0 := fitC_of A0 fun j hj v hv => by rw [r3 j (by omega)] at hv; cases hv; exact r4 j (by omega)
  obtain ⟨T', h', X', e', ex, A', E', k⟩ := cloneA X k1 k5 k4 w1 w2 w3 w4 w5 w6 e A0 E FC (g := mkF _ pc Ls (.ref a :: st)) rfl (by rw [k3]; exact hml) rfl (hb k2 hd) hfr (W := wd) (cap := cap) (by show 2 * 0 + _ ≤ _; omega) hlo (by rw [r1]; exact hcap) hc' hs'
  obtain ⟨s₂, v', L2, g1, g2⟩ := hr h' _ rfl ex E' k1 k2 k3 k4 k5 k6 k7 k8 T' _ X' e' N
  exact ⟨s₂, v', L2, k _ g1, g2⟩
/-- a virtual call of a body that may intern -/
theorem WP.callVH {EL : List (String × Nat)} {vm0 : Vm} {a : Addr} {i : Nat} {y z : MethodName} {K : String} {code' : ByteArray} {ml' wd cl' sl' : Nat} {rt' : Option FieldType} {R' : Room} {Q' : Option Value → Heap → Prop} {argsL rest : List Value} {ps : List FieldType} {rr : Option FieldType} (hd : decode code pc = .ok (.invokevirtual i, 3)) (hp : pc + 3 = pc') (w1 : (Jvm.Cond.methodLink own i y).before a0 Z = true) (wd1 : (Jvm.Cond.declares y).before a0 Z = true) (hnf : ∀ s : State, Z.Warmed39 s.vm → NotFace s y) (ws : (Jvm.Cond.selects K y z).before a0 Z = true) (w2 : (Jvm.Cond.instanceMethod z).before a0 Z = true) (w3 : (Jvm.Cond.initialized z.cls).before a0 Z = true) (w4 : (Jvm.Cond.code z code' ml' rt').before a0 Z = true) (hy : y.cls ≠ "java/lang/invoke/MethodHandle" ∧ y.cls ≠ "java/lang/invoke/VarHandle") (E : Exa Z h a K) (hEL : EW Z a0 EL) (H : Hd C Z EL vm0 h) (hM : ∀ l, DoesH l Z EL z code' ml' rt' R' n0 (.ref a :: argsL).toArray h Q') (hpd : parseMethodDescriptor y.desc = some ⟨ps, rr⟩) (hlen : argsL.length = ps.length) (hst : st = argsL.reverse ++ .ref a :: rest) (hml : Ls.size = ml) (hw : (rest.map fun v => v.category).sum ≤ wd) (hrm : R'.frames + 1 ≤ R.frames) (hlo : wd + (ml' + 11) + R'.locals ≤ R.locals) (hc : cl + R'.cells = cl') (hs : sl + R'.slots = sl') (hc' : cl' ≤ R.cells) (hs' : sl' ≤ R.slots)
    (hr : ∀ v vm1 h', Q' v h' → Hd C Z EL vm1 h' → CHr Z EL vm0 h vm1 h' → WPG (C.at vm1) Z code ml own rt nm R n0 G cl' sl' h' pc' Ls (v.toList ++ rest)) : WPG (C.at vm0) Z code ml own rt nm R n0 G cl sl h pc Ls st := by
  subst hp hc hs
  intro k1 k2 k3 k4 k5 k6 k7 k8 T locs X e N
  obtain ⟨cq, kq, p1, p2, p3⟩ := isOf k5 e E
  obtain ⟨v, _, ⟨T', L', c', n'⟩, -, X', S', g', ⟨Lc, hQ, l1, y1, z1, r1⟩, k⟩ := X.virtualBackS k1 (y := y) (z := z) k4 (mvT k5 w1) (mvT k5 wd1) (hnf _ k5) (mvT k5 ws) (mvT k5 w2) hy (backOfSH (s := C.2.2.2.1) (W := wd) (Q := fun v h L => Q' v h ∧ Fr n0 L) (hM _ []) k5 w4 w3 hrm hlo hEL H.ch) p1 p3 (g := mkF _ pc Ls st) rfl (by rw [k3]; exact hml) (Steps.refl _) (argsL := argsL) (rest := rest) (lenOf hpd hlen) hst (by show 2 * 0 + _ ≤ _; omega) (hb k2 hd) (fun _ _ => ⟨rfl, e, hc', hs'⟩)
  dsimp only [Pt.U, Pt.locs, Pt.cells, Pt.slots] at X' l1 y1 z1 k hQ r1 S' g'
  subst l1 y1 z1
  obtain ⟨⟨k0, q1, q2⟩, q3, -⟩ := H
  rw [e] at g'
  obtain ⟨s₂, v', L2, h1, h2⟩ := hr v T'.vm _ hQ.1 ⟨⟨_, q1.trans S' (Nat.le_trans q2 g'), Nat.le_refl _⟩, q3.trans r1, State.Warmed39.trans (t := C.2.2.2.1.setVm vm0) k5 S'.1⟩ r1 k1 k2 k3 (by rw [show ((C.at T'.vm).2.2.2.1).vm = T'.vm from rfl, S'.1.alike.findClass]; exact k4) (State.Warmed39.trans (t := C.2.2.2.1.setVm vm0) k5 S'.1) k6 k7 k8 T' _ X' rfl (Fr.app N hQ.2)
  exact ⟨s₂, v', L2, k.trans h1, h2⟩
/-- a new byte[], its class named -/
theorem WP.newB {z : Int32} {n cap : Nat} {cl' sl' : Nat} (hd : decode code pc = .ok (.newarray .byte, 2)) (hp : pc + 2 = pc') (w : (Jvm.Cond.arrayClass .byte).before a0 Z = true) (hz : z.toInt = (n : Int)) (hcap : n ≤ cap) (hbig : cap * 8 ≤ 536870912) (hc : cl + 1 = cl') (hs : sl + cap = sl') (hc' : cl' ≤ R.cells) (hs' : sl' ≤ R.slots)
    (hr : ∀ h' a, a = h.size → Ext h h' → Ari Z h' a .byte n (fun _ => 0) → Exa Z h' a "[B" → WPG C Z code ml own rt nm R n0 G cl' sl' h' pc' Ls (.ref a :: st)) : WPG C Z code ml own rt nm R n0 G cl sl h pc Ls (.int z :: st) := by
  subst hp hc hs
  have e0 : (0 : Int32).toInt = 0 := rfl
  have hzn : z.toNatClampNeg = n := by simp only [Int32.toNatClampNeg, hz]; omega
  have hzl : n < 2147483648 := by have := z.toInt_lt; omega
  intro k1 k2 k3 k4 k5 k6 k7 k8 T locs X e N
  obtain ⟨T', h', cA, X', e', E', A', B', k⟩ := newPE X k1 k5 (aty := .byte) w e (g := mkF _ pc Ls (.int z :: st)) rfl (hb k2 hd) rfl (by rw [Int32.lt_iff_toInt_lt, hz, e0]; omega) (cap := cap) (by rw [hzn]; exact hcap) hbig hc' hs' (ad := "[B") (by decide)
  obtain ⟨s₂, v', L', h1, h2⟩ := hr h' _ rfl E' ⟨_, A', by rw [sz_new, hzn], hzl, fun i hi => by simp [newA, hzn, hi, newarray.typeOf, defaultValue], fun i _ => rfl⟩ B' k1 k2 k3 k4 k5 k6 k7 k8 T' _ X' e' N
  exact ⟨s₂, v', L', k _ h1, h2⟩
end RulesL
theorem Safe.arf {Z : State} {EL : List (String × Nat)} {vm : Vm} {h : Heap} {x : Addr} {ty : FieldType} {n : Nat} {g : Nat → Value} (hZ : Z.Warmed39 vm) (A : Arf Z h x ty n g) (ht : ty ≠ .byte) : Safe Z EL vm h x := by obtain ⟨c, A, -⟩ := A; exact Safe.arr hZ.alike A ht
end Jvm.WK
namespace Jvm.Pilot.@@N@@
open Jvm Jvm.ClassFile Sem Op Lib Jvm.Free Jvm.Stand Jvm.LawKit Jvm.RoadKit Bundle Jvm.WK Jvm.Pilot.@@N@@.Jvm.D
/-- a char as a byte -/
def cv (c : Int32) : Int32 := c.toInt8.toInt32
theorem cv_cv (c : Int32) : nar .byte (cv c) = cv c := by
  have h1 := c_i2b c
  have h2 := c_i2b (cv c)
  apply Int32.toInt_inj.mp
  show (cv c).toInt8.toInt32.toInt = (cv c).toInt
  have e : (cv c).toInt = c.toInt8.toInt32.toInt := rfl
  omega
theorem cv_inj {c d : Int32} (hc : 0 ≤ c.toInt ∧ c.toInt ≤ 255) (hd : 0 ≤ d.toInt ∧ d.toInt ≤ 255) (h : cv c = cv d) : c = d := by
  have h1 := c_i2b c
  have h2 := c_i2b d
  have h3 : c.toInt8.toInt32.toInt = d.toInt8.toInt32.toInt := congrArg Int32.toInt h
  apply Int32.toInt_inj.mp
  omega
theorem natI {n : Nat} (h : n < 100000) : (n : Nat).toInt32.toInt = (n : Int) := len_toInt (show n < 2 ^ 31 by omega)
theorem adds {a b : Int32} {m n : Nat} (ha : a.toInt = m) (hb : b.toInt = n) (h : m + n < 100000) : (a + b).toInt = ((m + n : Nat) : Int) := by
  have h1 := c_iadd a b
  have h2 := rng32 (a + b)
  omega
theorem subS (x : Int32) : x - x = 0 := by apply Int32.toBitVec_inj.mp; simp
def Lat (n : Nat) (g : Nat → Int32) : Prop := ∀ i, i < n → 0 ≤ (g i).toInt ∧ (g i).toInt ≤ 255
/-- the two arrays of bytes are alike -/
def Same (n m : Nat) (g g' : Nat → Int32) : Prop := n = m ∧ ∀ i, i < n → g i = g' i
theorem d_jdk_52_method_21_0 : decode jdk_52_method_21_code 0 = .ok (.iconst 0, 1) := by decide +kernel
theorem d_jdk_52_method_21_1 : decode jdk_52_method_21_code 1 = .ok (.istore 5, 2) := by decide +kernel
theorem d_jdk_52_method_21_3 : decode jdk_52_method_21_code 3 = .ok (.iload 5, 2) := by decide +kernel
theorem d_jdk_52_method_21_5 : decode jdk_52_method_21_code 5 = .ok (.iload 4, 2) := by decide +kernel
theorem d_jdk_52_method_21_7 : decode jdk_52_method_21_code 7 = .ok (.if_icmp .ge 37, 3) := by decide +kernel
theorem d_jdk_52_method_21_44 : decode jdk_52_method_21_code 44 = .ok (.iload 4, 2) := by decide +kernel
theorem d_jdk_52_method_21_46 : decode jdk_52_method_21_code 46 = .ok (.ireturn, 1) := by decide +kernel
theorem d_jdk_52_method_21_10 : decode jdk_52_method_21_code 10 = .ok (.aload_n 0, 1) := by decide +kernel
theorem d_jdk_52_method_21_11 : decode jdk_52_method_21_code 11 = .ok (.iload_n 1, 1) := by decide +kernel
theorem d_jdk_52_method_21_12 : decode jdk_52_method_21_code 12 = .ok (.caload, 1) := by decide +kernel
theorem d_jdk_52_method_21_13 : decode jdk_52_method_21_code 13 = .ok (.istore 6, 2) := by decide +kernel
theorem d_jdk_52_method_21_15 : decode jdk_52_method_21_code 15 = .ok (.iload 6, 2) := by decide +kernel
theorem d_jdk_52_method_21_17 : decode jdk_52_method_21_code 17 = .ok (.sipush 255, 3) := by decide +kernel
theorem d_jdk_52_method_21_20 : decode jdk_52_method_21_code 20 = .ok (.if_icmp .le 6, 3) := by decide +kernel
theorem d_jdk_52_method_21_26 : decode jdk_52_method_21_code 26 = .ok (.aload_n 2, 1) := by decide +kernel
theorem d_jdk_52_method_21_27 : decode jdk_52_method_21_code 27 = .ok (.iload_n 3, 1) := by decide +kernel
theorem d_jdk_52_method_21_28 : decode jdk_52_method_21_code 28 = .ok (.iload 6, 2) := by decide +kernel
theorem d_jdk_52_method_21_30 : decode jdk_52_method_21_code 30 = .ok (.i2b, 1) := by decide +kernel
theorem d_jdk_52_method_21_31 : decode jdk_52_method_21_code 31 = .ok (.bastore, 1) := by decide +kernel
theorem d_jdk_52_method_21_32 : decode jdk_52_method_21_code 32 = .ok (.iinc 1 1, 3) := by decide +kernel
theorem d_jdk_52_method_21_35 : decode jdk_52_method_21_code 35 = .ok (.iinc 3 1, 3) := by decide +kernel
theorem d_jdk_52_method_21_38 : decode jdk_52_method_21_code 38 = .ok (.iinc 5 1, 3) := by decide +kernel
theorem d_jdk_52_method_21_41 : decode jdk_52_method_21_code 41 = .ok (.goto (-38), 3) := by decide +kernel
theorem pn_0 : plainName "java/lang/StringUTF16" = true := by first | (simp [plainName, overriddenIn]; done) | decide +kernel
set_option maxRecDepth 65536 in
set_option maxHeartbeats 40000000 in
theorem s_c1 {Z : State} {a0 : Array Value} (hw : ∀ d ∈ tables_1, d.before a0 Z = true) (a : Addr) (b : Addr) (p : Int32) (h0 : Heap) (n0 : Nat) (n : Nat) (gc gb : Nat → Int32) (A0 : Ari Z h0 a .char n gc) (B0 : Ari Z h0 b .byte n gb) (hp : p.toInt = (n : Int)) (hn : n ≤ 10000) (hlat : Lat n gc) (hab : a ≠ b) (g_b : n0 ≤ b) : ∀ l, Does l Z (⟨"java/lang/StringUTF16", "compress", "([CI[BII)I"⟩ : MethodName) jdk_52_method_21_code 7 (some .int) ({ frames := 0, cells := 0, slots := 0, locals := 0 } : Room) n0 #[(.ref a), (.int (0 : Int32)), (.ref b), (.int (0 : Int32)), (.int p)] h0 (fun v h => v = some (.int p) ∧ Keep h0 h [b] ∧ Ari Z h b .byte n (fun i => cv (gc i))) := by
  intro l
  refine Does.of_wp (plainFor_of_name pn_0) (Ls := #[.val (.ref a), .val (.int (0 : Int32)), .val (.ref b), .val (.int (0 : Int32)), .val (.int p), .unset, .unset]) (fun m => by first | (simp [entryFrame, mkF, argsToLocals, Value.category]; done) | rfl | (rcases ref_cases hfv with rfl | ⟨_, rfl⟩ <;> rfl)) ?_
  intro C
  refine WP.iconst (pc' := 1) d_jdk_52_method_21_0 rfl (z := 0) rfl ?_
  refine WP.istore (pc' := 3) d_jdk_52_method_21_1 rfl (Ls' := #[.val (.ref a), .val (.int (0 : Int32)), .val (.ref b), .val (.int (0 : Int32)), .val (.int p), .val (.int (0 : Int32)), .unset]) rfl ?_
  have loop : ∀ (k I : Nat) (o d i : Int32) (s6 : Slot) (hh : Heap) (g : Nat → Int32), (s6 = .unset ∨ ∃ u, s6 = .val u ∧ u.category = 1) → o.toInt = (I : Int) → d.toInt = (I : Int) → i.toInt = (I : Int) → I ≤ n → n - I < k → Keep h0 hh [b] → Ari Z hh b .byte n g → (∀ j, j < I → g j = cv (gc j)) → WP C Z jdk_52_method_21_code 7 "java/lang/StringUTF16" (some .int) "compress" ({ frames := 0, cells := 0, slots := 0, locals := 0 } : Room) n0 (fun v h => v = some (.int p) ∧ Keep h0 h [b] ∧ Ari Z h b .byte n (fun i => cv (gc i))) 0 0 hh 3 #[.val (.ref a), .val (.int o), .val (.ref b), .val (.int d), .val (.int p), .val (.int i), s6] [] := by
    intro k
    induction k with
    | zero => intro I o d i s6 hh g h1 h2 h3 h4 h5 h6; omega
    | succ k IH =>
      intro I o d i s6 hh g hs6 ho hd hi hI hk K1 B1 hg
      have A1 := A0.keep K1 (ninS hab nin0)
      refine WP.iload (pc' := 5) d_jdk_52_method_21_3 rfl rfl ?_
      refine WP.iload (pc' := 7) d_jdk_52_method_21_5 rfl rfl ?_
      refine WP.icmp_ge (pc1 := 44) (pc2 := 10) d_jdk_52_method_21_7 (by decide) (by decide) rfl ?_ ?_
      · intro hc7
        refine WP.iload (pc' := 46) d_jdk_52_method_21_44 rfl rfl ?_
        refine WP.iret d_jdk_52_method_21_46 rfl (by decide) (by decide) ⟨rfl, K1, B1.congr fun j hj => hg j (by rw [Int32.lt_iff_toInt_lt] at hc7; omega)⟩
      · intro hc7
        have lt1 : I < n := by rw [Int32.lt_iff_toInt_lt] at hc7; omega
        refine WP.aloadN (pc' := 11) d_jdk_52_method_21_10 rfl rfl rfl ?_
        refine WP.iloadN (pc' := 12) d_jdk_52_method_21_11 rfl rfl ?_
        refine WP.caloadI (I) (pc' := 13) d_jdk_52_method_21_12 rfl A1 ho lt1 rfl ?_
        refine WP.istore (pc' := 15) d_jdk_52_method_21_13 rfl (Ls' := #[.val (.ref a), .val (.int o), .val (.ref b), .val (.int d), .val (.int p), .val (.int i), .val (.int (gc I))]) (XS.store1 rfl hs6 rfl) ?_
        refine WP.iload (pc' := 17) d_jdk_52_method_21_15 rfl rfl ?_
        refine WP.sipush (pc' := 20) d_jdk_52_method_21_17 rfl (z := 255) rfl ?_
        have hc20 : ¬ (255 : Int32) < (gc I) := by rw [Int32.lt_iff_toInt_lt]; have := (hlat I lt1).2; have e : (255 : Int32).toInt = 255 := rfl; omega
        refine WP.icmp_le (pc1 := 26) (pc2 := 23) d_jdk_52_method_21_20 (by decide) (by decide) rfl (fun _ => ?_) (fun k => absurd k hc20)
        refine WP.aloadN (pc' := 27) d_jdk_52_method_21_26 rfl rfl rfl ?_
        refine WP.iloadN (pc' := 28) d_jdk_52_method_21_27 rfl rfl ?_
        refine WP.iload (pc' := 30) d_jdk_52_method_21_28 rfl rfl ?_
        refine WP.i2b (pc' := 31) d_jdk_52_method_21_30 rfl ?_
        refine WP.bastoreI (x' := (nar .byte ((gc I).toInt8.toInt32))) (I) (pc' := 32) d_jdk_52_method_21_31 rfl B1 hd lt1 g_b rfl ?_
        intro h1 K2 A3
        have V4 := A1.keep K2 (ninS hab nin0)
        have K5 := K1.trans K2 (allS (Or.inl (by simp)) all0)
        refine WP.iinc (pc' := 35) d_jdk_52_method_21_32 rfl rfl (z := (o + (1 : Int32))) rfl (Ls' := #[.val (.ref a), .val (.int (o + (1 : Int32))), .val (.ref b), .val (.int d), .val (.int p), .val (.int i), .val (.int (gc I))]) rfl ?_
        refine WP.iinc (pc' := 38) d_jdk_52_method_21_35 rfl rfl (z := (d + (1 : Int32))) rfl (Ls' := #[.val (.ref a), .val (.int (o + (1 : Int32))), .val (.ref b), .val (.int (d + (1 : Int32))), .val (.int p), .val (.int i), .val (.int (gc I))]) rfl ?_
        refine WP.iinc (pc' := 41) d_jdk_52_method_21_38 rfl rfl (z := (i + (1 : Int32))) rfl (Ls' := #[.val (.ref a), .val (.int (o + (1 : Int32))), .val (.ref b), .val (.int (d + (1 : Int32))), .val (.int p), .val (.int (i + (1 : Int32))), .val (.int (gc I))]) rfl ?_
        refine WP.goto (pc' := 3) d_jdk_52_method_21_41 (by decide) (by decide) ?_
        refine IH (I + 1) _ _ _ _ _ _ (Or.inr ⟨_, rfl, rfl⟩) (adds ho rfl (by omega)) (adds hd rfl (by omega)) (adds hi rfl (by omega)) (by omega) (by omega) K5 A3 fun j hj => ?_
        by_cases q : j = I
        · rw [q, upd_at]; exact cv_cv _
        · rw [upd_ne q]; exact hg j (by omega)
  exact loop (n + 1) 0 0 0 0 _ h0 gb (Or.inl rfl) rfl rfl rfl (by omega) (by omega) (Keep.refl _ _) B0 fun j hj => absurd hj (by omega)
theorem d_jdk_52_method_16_0 : decode jdk_52_method_16_code 0 = .ok (.iload_n 2, 1) := by decide +kernel
theorem d_jdk_52_method_16_1 : decode jdk_52_method_16_code 1 = .ok (.newarray .byte, 2) := by decide +kernel
theorem wd51 {Z : State} {a0 : Array Value} (hw : ∀ d ∈ tables_1, d.before a0 Z = true) : (Jvm.Cond.arrayClass Jvm.ClassFile.FieldType.byte).before a0 Z = true := hw _ (List.mem_of_getElem? (i := 51) rfl)
theorem d_jdk_52_method_16_3 : decode jdk_52_method_16_code 3 = .ok (.astore_n 3, 1) := by decide +kernel
theorem d_jdk_52_method_16_4 : decode jdk_52_method_16_code 4 = .ok (.aload_n 0, 1) := by decide +kernel
theorem d_jdk_52_method_16_5 : decode jdk_52_method_16_code 5 = .ok (.iload_n 1, 1) := by decide +kernel
theorem d_jdk_52_method_16_6 : decode jdk_52_method_16_code 6 = .ok (.aload_n 3, 1) := by decide +kernel
theorem d_jdk_52_method_16_7 : decode jdk_52_method_16_code 7 = .ok (.iconst 0, 1) := by decide +kernel
theorem d_jdk_52_method_16_8 : decode jdk_52_method_16_code 8 = .ok (.iload_n 2, 1) := by decide +kernel
theorem d_jdk_52_method_16_9 : decode jdk_52_method_16_code 9 = .ok (.invokestatic 115, 3) := by decide +kernel
theorem wd113 {Z : State} {a0 : Array Value} (hw : ∀ d ∈ tables_1, d.before a0 Z = true) : (Jvm.Cond.methodLink "java/lang/StringUTF16" (115 : Nat) ({ cls := "java/lang/StringUTF16", name := "compress", desc := "([CI[BII)I" } : Jvm.MethodName)).before a0 Z = true := hw _ (List.mem_of_getElem? (i := 113) rfl)
theorem wd115 {Z : State} {a0 : Array Value} (hw : ∀ d ∈ tables_1, d.before a0 Z = true) : (Jvm.Cond.code ({ cls := "java/lang/StringUTF16", name := "compress", desc := "([CI[BII)I" } : Jvm.MethodName) jdk_52_method_21_code (7 : Nat) (Option.some Jvm.ClassFile.FieldType.int)).before a0 Z = true := hw _ (List.mem_of_getElem? (i := 115) rfl)
theorem wd111 {Z : State} {a0 : Array Value} (hw : ∀ d ∈ tables_1, d.before a0 Z = true) : (Jvm.Cond.initialized "java/lang/StringUTF16").before a0 Z = true := hw _ (List.mem_of_getElem? (i := 111) rfl)
theorem pd_0 : parseMethodDescriptor "([CI[BII)I" = some ⟨[(.array .char), .int, (.array .byte), .int, .int], some .int⟩ := by decide +kernel
theorem wd114 {Z : State} {a0 : Array Value} (hw : ∀ d ∈ tables_1, d.before a0 Z = true) : (Jvm.Cond.static ({ cls := "java/lang/StringUTF16", name := "compress", desc := "([CI[BII)I" } : Jvm.MethodName)).before a0 Z = true := hw _ (List.mem_of_getElem? (i := 114) rfl)
theorem d_jdk_52_method_16_12 : decode jdk_52_method_16_code 12 = .ok (.istore 4, 2) := by decide +kernel
theorem d_jdk_52_method_16_14 : decode jdk_52_method_16_code 14 = .ok (.iload 4, 2) := by decide +kernel
theorem d_jdk_52_method_16_16 : decode jdk_52_method_16_code 16 = .ok (.iload_n 2, 1) := by decide +kernel
theorem d_jdk_52_method_16_17 : decode jdk_52_method_16_code 17 = .ok (.if_icmp .eq 40, 3) := by decide +kernel
theorem d_jdk_52_method_16_57 : decode jdk_52_method_16_code 57 = .ok (.aload_n 3, 1) := by decide +kernel
theorem d_jdk_52_method_16_58 : decode jdk_52_method_16_code 58 = .ok (.areturn, 1) := by decide +kernel
set_option maxRecDepth 65536 in
set_option maxHeartbeats 40000000 in
theorem s_c2 {Z : State} {a0 : Array Value} (hw : ∀ d ∈ tables_1, d.before a0 Z = true) (a : Addr) (p : Int32) (h0 : Heap) (n0 : Nat) (Z0 : n0 ≤ h0.size) (n : Nat) (gc : Nat → Int32) (A0 : Ari Z h0 a .char n gc) (hp : p.toInt = (n : Int)) (hn : n ≤ 10000) (hcap : n ≤ 1) (hlat : Lat n gc) : ∀ l, Does l Z (⟨"java/lang/StringUTF16", "compress", "([CII)[B"⟩ : MethodName) jdk_52_method_16_code 6 (some (.array .byte)) ({ frames := 1, cells := 1, slots := 1, locals := 18 } : Room) n0 #[(.ref a), (.int (0 : Int32)), (.int p)] h0 (fun v h => ∃ b : Addr, v = some (.ref b) ∧ Keep h0 h [] ∧ n0 ≤ b ∧ h0.size ≤ b ∧ Ari Z h b .byte n (fun i => cv (gc i)) ∧ Exa Z h b "[B") := by
  intro l
  refine Does.of_wp (plainFor_of_name pn_0) (Ls := #[.val (.ref a), .val (.int (0 : Int32)), .val (.int p), .unset, .unset, .unset]) (fun m => by first | (simp [entryFrame, mkF, argsToLocals, Value.category]; done) | rfl | (rcases ref_cases hfv with rfl | ⟨_, rfl⟩ <;> rfl)) ?_
  intro C
  have K0 := Keep.refl h0 []
  refine WP.iloadN (pc' := 1) d_jdk_52_method_16_0 rfl rfl ?_
  refine WP.newB (n := n) (cap := 1) (cl' := 1) (sl' := 1) (pc' := 3) d_jdk_52_method_16_1 rfl (wd51 hw) hp hcap (by decide) rfl rfl (by decide) (by decide) ?_
  intro h1 b1 g1 E1 A1 XB1
  have ge2 : n0 ≤ b1 := by rw [g1]; exact Z0
  have sz3 : h0.size ≤ b1 := by rw [g1]; exact K0.1
  have ne4 : a ≠ b1 := by rw [g1]; exact Nat.ne_of_lt A0.lt
  have V5 := A0.ext E1
  have K6 := K0.ext E1
  have Z7 : n0 ≤ h1.size := Nat.le_trans Z0 E1.1
  refine WP.astoreN (pc' := 4) d_jdk_52_method_16_3 rfl rfl (Ls' := #[.val (.ref a), .val (.int (0 : Int32)), .val (.int p), .val (.ref b1), .unset, .unset]) rfl ?_
  refine WP.aloadN (pc' := 5) d_jdk_52_method_16_4 rfl rfl rfl ?_
  refine WP.iloadN (pc' := 6) d_jdk_52_method_16_5 rfl rfl ?_
  refine WP.aloadN (pc' := 7) d_jdk_52_method_16_6 rfl rfl rfl ?_
  refine WP.iconst (pc' := 8) d_jdk_52_method_16_7 rfl (z := 0) rfl ?_
  refine WP.iloadN (pc' := 9) d_jdk_52_method_16_8 rfl rfl ?_
  refine WP.callS (argsL := [(.ref a), (.int (0 : Int32)), (.ref b1), (.int (0 : Int32)), (.int p)]) (rest := []) (wd := 0) (cl' := 1) (sl' := 1) (pc' := 12) d_jdk_52_method_16_9 rfl (wd113 hw) (wd114 hw) (wd111 hw) (wd115 hw) (by decide) (s_c1 hw a b1 p h1 n0 n gc (fun _ => 0) V5 A1 hp hn hlat ne4 ge2) pd_0 rfl rfl rfl (Nat.le_of_eq rfl) (by decide) (by decide) rfl rfl (by decide) (by decide) ?_
  rintro v h8 ⟨rfl, K8, B8⟩
  have V9 := V5.keep K8 (ninS ne4 nin0)
  have E10 := XB1.keep K8
  have K11 := K6.trans K8 (allS (Or.inr sz3) all0)
  have Z12 : n0 ≤ h8.size := Nat.le_trans Z7 K8.1
  refine WP.castS (st' := [(.int p)]) rfl ?_
  refine WP.istore (pc' := 14) d_jdk_52_method_16_12 rfl (Ls' := #[.val (.ref a), .val (.int (0 : Int32)), .val (.int p), .val (.ref b1), .val (.int p), .unset]) rfl ?_
  refine WP.iload (pc' := 16) d_jdk_52_method_16_14 rfl rfl ?_
  refine WP.iloadN (pc' := 17) d_jdk_52_method_16_16 rfl rfl ?_
  have hc17 : p = p := rfl
  refine WP.icmp_eq (pc1 := 57) (pc2 := 20) d_jdk_52_method_16_17 (by decide) (by decide) rfl (fun _ => ?_) (fun k => absurd hc17 k)
  refine WP.aloadN (pc' := 58) d_jdk_52_method_16_57 rfl rfl rfl ?_
  refine WP.aret d_jdk_52_method_16_58 rfl rfl rfl (by decide) (by decide) ⟨_, rfl, K11, ge2, sz3, B8, E10⟩
theorem d_jdk_52_method_15_0 : decode jdk_52_method_15_code 0 = .ok (.iload_n 1, 1) := by decide +kernel
theorem d_jdk_52_method_15_1 : decode jdk_52_method_15_code 1 = .ok (.aload_n 0, 1) := by decide +kernel
theorem d_jdk_52_method_15_2 : decode jdk_52_method_15_code 2 = .ok (.arraylength, 1) := by decide +kernel
theorem d_jdk_52_method_15_3 : decode jdk_52_method_15_code 3 = .ok (.isub, 1) := by decide +kernel
theorem d_jdk_52_method_15_4 : decode jdk_52_method_15_code 4 = .ok (.bipush 31, 2) := by decide +kernel
theorem d_jdk_52_method_15_6 : decode jdk_52_method_15_code 6 = .ok (.iushr, 1) := by decide +kernel
theorem d_jdk_52_method_15_7 : decode jdk_52_method_15_code 7 = .ok (.i2b, 1) := by decide +kernel
theorem d_jdk_52_method_15_8 : decode jdk_52_method_15_code 8 = .ok (.ireturn, 1) := by decide +kernel
set_option maxRecDepth 65536 in
set_option maxHeartbeats 40000000 in
theorem s_cfl {Z : State} {a0 : Array Value} (hw : ∀ d ∈ tables_1, d.before a0 Z = true) (a : Addr) (p : Int32) (h0 : Heap) (n0 : Nat) (n : Nat) (g : Nat → Int32) (A0 : Ari Z h0 a .byte n g) (hp : p.toInt = (n : Int)) (hn : n ≤ 10000) : ∀ l, Does l Z (⟨"java/lang/StringUTF16", "coderFromArrayLen", "([BI)B"⟩ : MethodName) jdk_52_method_15_code 2 (some .byte) ({ frames := 0, cells := 0, slots := 0, locals := 0 } : Room) n0 #[(.ref a), (.int p)] h0 (fun v h => v = some (.int 0) ∧ h = h0) := by
  intro l
  refine Does.of_wp (plainFor_of_name pn_0) (Ls := #[.val (.ref a), .val (.int p)]) (fun m => by first | (simp [entryFrame, mkF, argsToLocals, Value.category]; done) | rfl | (rcases ref_cases hfv with rfl | ⟨_, rfl⟩ <;> rfl)) ?_
  intro C
  refine WP.iloadN (pc' := 1) d_jdk_52_method_15_0 rfl rfl ?_
  refine WP.aloadN (pc' := 2) d_jdk_52_method_15_1 rfl rfl rfl ?_
  refine WP.arraylengthI (z := (n : Nat).toInt32) (pc' := 3) d_jdk_52_method_15_2 rfl A0 rfl ?_
  refine WP.isub (pc' := 4) d_jdk_52_method_15_3 rfl ?_
  rw [show p - (n : Nat).toInt32 = 0 from by rw [show p = (n : Nat).toInt32 from Int32.toInt_inj.mp (by rw [hp, natI (by omega)])]; exact subS _]
  refine WP.bipush (pc' := 6) d_jdk_52_method_15_4 rfl (z := 31) rfl ?_
  refine WP.iushr (pc' := 7) d_jdk_52_method_15_6 rfl ?_
  refine WP.i2b (pc' := 8) d_jdk_52_method_15_7 rfl ?_
  refine WP.nret (t := .byte) d_jdk_52_method_15_8 rfl (by simp) rfl (by decide) (by decide) ⟨rfl, rfl⟩
theorem d_jdk_42_method_149_0 : decode jdk_42_method_149_code 0 = .ok (.aload_n 0, 1) := by decide +kernel
theorem d_jdk_42_method_149_1 : decode jdk_42_method_149_code 1 = .ok (.invokespecial 1, 3) := by decide +kernel
theorem wd107 {Z : State} {a0 : Array Value} (hw : ∀ d ∈ tables_1, d.before a0 Z = true) : (Jvm.Cond.methodLink "java/lang/String" (1 : Nat) ({ cls := "java/lang/Object", name := "<init>", desc := "()V" } : Jvm.MethodName)).before a0 Z = true := hw _ (List.mem_of_getElem? (i := 107) rfl)
theorem wd7 {Z : State} {a0 : Array Value} (hw : ∀ d ∈ tables_1, d.before a0 Z = true) : (Jvm.Cond.instanceMethod ({ cls := "java/lang/Object", name := "<init>", desc := "()V" } : Jvm.MethodName)).before a0 Z = true := hw _ (List.mem_of_getElem? (i := 7) rfl)
theorem wd8 {Z : State} {a0 : Array Value} (hw : ∀ d ∈ tables_1, d.before a0 Z = true) : (Jvm.Cond.code ({ cls := "java/lang/Object", name := "<init>", desc := "()V" } : Jvm.MethodName) object_method_1_code (1 : Nat) (Option.none : Option Jvm.ClassFile.FieldType)).before a0 Z = true := hw _ (List.mem_of_getElem? (i := 8) rfl)
theorem d_jdk_42_method_149_4 : decode jdk_42_method_149_code 4 = .ok (.iload_n 3, 1) := by decide +kernel
theorem d_jdk_42_method_149_5 : decode jdk_42_method_149_code 5 = .ok (.ifCond .ne 22, 3) := by decide +kernel
theorem d_jdk_42_method_149_27 : decode jdk_42_method_149_code 27 = .ok (.getstatic 38, 3) := by decide +kernel
theorem wd108 {Z : State} {a0 : Array Value} (hw : ∀ d ∈ tables_1, d.before a0 Z = true) : (Jvm.Cond.fieldLink "java/lang/String" (38 : Nat) "java/lang/String" "COMPACT_STRINGS" "Z").before a0 Z = true := hw _ (List.mem_of_getElem? (i := 108) rfl)
theorem d_jdk_42_method_149_30 : decode jdk_42_method_149_code 30 = .ok (.ifCond .eq 28, 3) := by decide +kernel
theorem d_jdk_42_method_149_33 : decode jdk_42_method_149_code 33 = .ok (.aload_n 1, 1) := by decide +kernel
theorem d_jdk_42_method_149_34 : decode jdk_42_method_149_code 34 = .ok (.iload_n 2, 1) := by decide +kernel
theorem d_jdk_42_method_149_35 : decode jdk_42_method_149_code 35 = .ok (.iload_n 3, 1) := by decide +kernel
theorem d_jdk_42_method_149_36 : decode jdk_42_method_149_code 36 = .ok (.invokestatic 177, 3) := by decide +kernel
theorem wd109 {Z : State} {a0 : Array Value} (hw : ∀ d ∈ tables_1, d.before a0 Z = true) : (Jvm.Cond.methodLink "java/lang/String" (177 : Nat) ({ cls := "java/lang/StringUTF16", name := "compress", desc := "([CII)[B" } : Jvm.MethodName)).before a0 Z = true := hw _ (List.mem_of_getElem? (i := 109) rfl)
theorem wd112 {Z : State} {a0 : Array Value} (hw : ∀ d ∈ tables_1, d.before a0 Z = true) : (Jvm.Cond.code ({ cls := "java/lang/StringUTF16", name := "compress", desc := "([CII)[B" } : Jvm.MethodName) jdk_52_method_16_code (6 : Nat) (Option.some (Jvm.ClassFile.FieldType.array Jvm.ClassFile.FieldType.byte))).before a0 Z = true := hw _ (List.mem_of_getElem? (i := 112) rfl)
theorem pd_1 : parseMethodDescriptor "([CII)[B" = some ⟨[(.array .char), .int, .int], some (.array .byte)⟩ := by decide +kernel
theorem wd110 {Z : State} {a0 : Array Value} (hw : ∀ d ∈ tables_1, d.before a0 Z = true) : (Jvm.Cond.static ({ cls := "java/lang/StringUTF16", name := "compress", desc := "([CII)[B" } : Jvm.MethodName)).before a0 Z = true := hw _ (List.mem_of_getElem? (i := 110) rfl)
theorem d_jdk_42_method_149_39 : decode jdk_42_method_149_code 39 = .ok (.astore 5, 2) := by decide +kernel
theorem d_jdk_42_method_149_41 : decode jdk_42_method_149_code 41 = .ok (.aload_n 0, 1) := by decide +kernel
theorem d_jdk_42_method_149_42 : decode jdk_42_method_149_code 42 = .ok (.aload 5, 2) := by decide +kernel
theorem d_jdk_42_method_149_44 : decode jdk_42_method_149_code 44 = .ok (.iload_n 3, 1) := by decide +kernel
theorem d_jdk_42_method_149_45 : decode jdk_42_method_149_code 45 = .ok (.invokestatic 47, 3) := by decide +kernel
theorem wd116 {Z : State} {a0 : Array Value} (hw : ∀ d ∈ tables_1, d.before a0 Z = true) : (Jvm.Cond.methodLink "java/lang/String" (47 : Nat) ({ cls := "java/lang/StringUTF16", name := "coderFromArrayLen", desc := "([BI)B" } : Jvm.MethodName)).before a0 Z = true := hw _ (List.mem_of_getElem? (i := 116) rfl)
theorem wd118 {Z : State} {a0 : Array Value} (hw : ∀ d ∈ tables_1, d.before a0 Z = true) : (Jvm.Cond.code ({ cls := "java/lang/StringUTF16", name := "coderFromArrayLen", desc := "([BI)B" } : Jvm.MethodName) jdk_52_method_15_code (2 : Nat) (Option.some Jvm.ClassFile.FieldType.byte)).before a0 Z = true := hw _ (List.mem_of_getElem? (i := 118) rfl)
theorem pd_2 : parseMethodDescriptor "([BI)B" = some ⟨[(.array .byte), .int], some .byte⟩ := by decide +kernel
theorem wd117 {Z : State} {a0 : Array Value} (hw : ∀ d ∈ tables_1, d.before a0 Z = true) : (Jvm.Cond.static ({ cls := "java/lang/StringUTF16", name := "coderFromArrayLen", desc := "([BI)B" } : Jvm.MethodName)).before a0 Z = true := hw _ (List.mem_of_getElem? (i := 117) rfl)
theorem d_jdk_42_method_149_48 : decode jdk_42_method_149_code 48 = .ok (.putfield 15, 3) := by decide +kernel
theorem wd119 {Z : State} {a0 : Array Value} (hw : ∀ d ∈ tables_1, d.before a0 Z = true) : (Jvm.Cond.fieldLink "java/lang/String" (15 : Nat) "java/lang/String" "coder" "B").before a0 Z = true := hw _ (List.mem_of_getElem? (i := 119) rfl)
theorem wd53 {Z : State} {a0 : Array Value} (hw : ∀ d ∈ tables_1, d.before a0 Z = true) : (Jvm.Cond.laysFinal "java/lang/String" "java/lang/String" "coder" "B").before a0 Z = true := hw _ (List.mem_of_getElem? (i := 53) rfl)
theorem wd50 {Z : State} {a0 : Array Value} (hw : ∀ d ∈ tables_1, d.before a0 Z = true) : (Jvm.Cond.instantiable "java/lang/String" (4 : Nat)).before a0 Z = true := hw _ (List.mem_of_getElem? (i := 50) rfl)
theorem wd52 {Z : State} {a0 : Array Value} (hw : ∀ d ∈ tables_1, d.before a0 Z = true) : (Jvm.Cond.laysFinal "java/lang/String" "java/lang/String" "value" "[B").before a0 Z = true := hw _ (List.mem_of_getElem? (i := 52) rfl)
theorem d_jdk_42_method_149_51 : decode jdk_42_method_149_code 51 = .ok (.aload_n 0, 1) := by decide +kernel
theorem d_jdk_42_method_149_52 : decode jdk_42_method_149_code 52 = .ok (.aload 5, 2) := by decide +kernel
theorem d_jdk_42_method_149_54 : decode jdk_42_method_149_code 54 = .ok (.putfield 9, 3) := by decide +kernel
theorem wd120 {Z : State} {a0 : Array Value} (hw : ∀ d ∈ tables_1, d.before a0 Z = true) : (Jvm.Cond.fieldLink "java/lang/String" (9 : Nat) "java/lang/String" "value" "[B").before a0 Z = true := hw _ (List.mem_of_getElem? (i := 120) rfl)
theorem d_jdk_42_method_149_57 : decode jdk_42_method_149_code 57 = .ok (.return_, 1) := by decide +kernel
theorem pn_1 : plainName "java/lang/String" = true := by first | (simp [plainName, overriddenIn]; done) | decide +kernel
set_option maxRecDepth 65536 in
set_option maxHeartbeats 40000000 in
theorem s_si4 {Z : State} {a0 : Array Value} (hw : ∀ d ∈ tables_1, d.before a0 Z = true) (a : Addr) (c : Addr) (p : Int32) (h0 : Heap) (n0 : Nat) (Z0 : n0 ≤ h0.size) (g_a : n0 ≤ a) (E0 : Exa Z h0 a "java/lang/String") (F_v : Fld Z h0 a "java/lang/String" "value" "[B" .null) (F_c : Fld Z h0 a "java/lang/String" "coder" "B" (.int 0)) (cs : Int32) (S_CS : Sta Z h0 "java/lang/String" "COMPACT_STRINGS" "Z" (.int cs)) (hcs : ¬ cs = 0) (n : Nat) (gc : Nat → Int32) (A0 : Ari Z h0 c .char n gc) (h1 : 1 ≤ n) (hn : n ≤ 10000) (hcap : n ≤ 1) (hlat : Lat n gc) (n_ca : c ≠ a) (hp : p.toInt = (n : Int)) : ∀ l, Does l Z (⟨"java/lang/String", "<init>", "([CIILjava/lang/Void;)V"⟩ : MethodName) jdk_42_method_149_code 6 none ({ frames := 2, cells := 1, slots := 1, locals := 35 } : Room) n0 #[(.ref a), (.ref c), (.int (0 : Int32)), (.int p), .null] h0 (fun v h => v = none ∧ ∃ b : Addr, Keep h0 h [a] ∧ n0 ≤ b ∧ h0.size ≤ b ∧ Exa Z h a "java/lang/String" ∧ Fld Z h a "java/lang/String" "value" "[B" (.ref b) ∧ Fld Z h a "java/lang/String" "coder" "B" (.int 0) ∧ Ari Z h b .byte n (fun i => cv (gc i)) ∧ Exa Z h b "[B") := by
  intro l
  refine Does.of_wp (plainFor_of_name pn_1) (Ls := #[.val (.ref a), .val (.ref c), .val (.int (0 : Int32)), .val (.int p), .val .null, .unset]) (fun m => by first | (simp [entryFrame, mkF, argsToLocals, Value.category]; done) | rfl | (rcases ref_cases hfv with rfl | ⟨_, rfl⟩ <;> rfl)) ?_
  intro C
  have K0 := Keep.refl h0 [a]
  refine WP.aloadN (pc' := 1) d_jdk_42_method_149_0 rfl rfl rfl ?_
  refine WP.initO (wd := 0) (pc' := 4) d_jdk_42_method_149_1 rfl (wd107 hw) (wd7 hw) (wd8 hw) rfl (by decide) (Nat.le_of_eq rfl) (by decide) ?_
  refine WP.iloadN (pc' := 5) d_jdk_42_method_149_4 rfl rfl ?_
  have hc5 : ¬ p = (0 : Int32) := fun q => by rw [q] at hp; have e : (0 : Int32).toInt = 0 := rfl; omega
  refine WP.ifc_ne (pc1 := 27) (pc2 := 8) d_jdk_42_method_149_5 (by decide) (by decide) rfl (fun _ => ?_) (fun k => absurd k hc5)
  refine WP.getS (pc' := 30) d_jdk_42_method_149_27 rfl (host := "") (Or.inl (wd108 hw)) Via.refl (S_CS) ?_
  have hc30 : ¬ cs = (0 : Int32) := hcs
  refine WP.ifc_eq (pc1 := 58) (pc2 := 33) d_jdk_42_method_149_30 (by decide) (by decide) rfl (fun k => absurd k hc30) (fun _ => ?_)
  refine WP.aloadN (pc' := 34) d_jdk_42_method_149_33 rfl rfl rfl ?_
  refine WP.iloadN (pc' := 35) d_jdk_42_method_149_34 rfl rfl ?_
  refine WP.iloadN (pc' := 36) d_jdk_42_method_149_35 rfl rfl ?_
  refine WP.callS (argsL := [(.ref c), (.int (0 : Int32)), (.int p)]) (rest := []) (wd := 0) (cl' := 1) (sl' := 1) (pc' := 39) d_jdk_42_method_149_36 rfl (wd109 hw) (wd110 hw) (wd111 hw) (wd112 hw) (by decide) (s_c2 hw c p h0 n0 Z0 n gc A0 hp hn hcap hlat) pd_1 rfl rfl rfl (Nat.le_of_eq rfl) (by decide) (by decide) rfl rfl (by decide) (by decide) ?_
  rintro v h1 ⟨c1, rfl, K1, ge1, sz1, B1, XB1⟩
  have ne2 : a ≠ c1 := Nat.ne_of_lt (Nat.lt_of_lt_of_le E0.lt sz1)
  have ne3 : c ≠ c1 := Nat.ne_of_lt (Nat.lt_of_lt_of_le A0.lt sz1)
  have sy4 : h0.size ≤ c1 := Nat.le_trans K0.1 sz1
  have E5 := E0.keep K1
  have F6 := F_v.keep K1 nin0
  have F7 := F_c.keep K1 nin0
  have V8 := A0.keep K1 nin0
  have K9 := K0.trans K1 all0
  have Z10 : n0 ≤ h1.size := Nat.le_trans Z0 K1.1
  refine WP.castS (st' := [(.ref c1)]) rfl ?_
  refine WP.astore (pc' := 41) d_jdk_42_method_149_39 rfl rfl (Ls' := #[.val (.ref a), .val (.ref c), .val (.int (0 : Int32)), .val (.int p), .val .null, .val (.ref c1)]) rfl ?_
  refine WP.aloadN (pc' := 42) d_jdk_42_method_149_41 rfl rfl rfl ?_
  refine WP.aload (pc' := 44) d_jdk_42_method_149_42 rfl rfl rfl ?_
  refine WP.iloadN (pc' := 45) d_jdk_42_method_149_44 rfl rfl ?_
  refine WP.callS (argsL := [(.ref c1), (.int p)]) (rest := [(.ref a)]) (wd := 1) (cl' := 1) (sl' := 1) (pc' := 48) d_jdk_42_method_149_45 rfl (wd116 hw) (wd117 hw) (wd111 hw) (wd118 hw) (by decide) (s_cfl hw c1 p h1 n0 n (fun i => cv (gc i)) B1 hp hn) pd_2 rfl rfl rfl (Nat.le_of_eq rfl) (by decide) (by decide) rfl rfl (by decide) (by decide) ?_
  rintro v hh11 ⟨rfl, he11⟩
  rw [he11]
  refine WP.castS (st' := [(.int (0 : Int32)), (.ref a)]) rfl ?_
  refine WP.putFN (pc' := 51) d_jdk_42_method_149_48 rfl (wd119 hw) Via.refl F7 E5 (Or.inr ⟨(wd53 hw), rfl, rfl⟩) (wd50 hw) (ty := .byte) (v' := (.int (0 : Int32))) (by decide) rfl (by decide) g_a ?_
  intro h12 W13
  have Kw14 := Keep.of_wr W13
  have E15 := E5.keep Kw14
  have V16 := V8.keep Kw14 (ninS n_ca nin0)
  have V17 := B1.keep Kw14 (ninS (Ne.symm ne2) nin0)
  have E18 := XB1.keep Kw14
  have K19 := K9.trans Kw14 (allS (Or.inl (by simp)) all0)
  have Z20 : n0 ≤ h12.size := Nat.le_trans Z10 Kw14.1
  have F21 := F6.other W13 (Or.inr (slot_ne (Or.inr (wd52 hw)) (Or.inr (wd53 hw)) (by decide) (t := (.array .byte)) (t' := .byte) (by decide) (by decide)))
  have F22 := F7.same W13
  refine WP.aloadN (pc' := 52) d_jdk_42_method_149_51 rfl rfl rfl ?_
  refine WP.aload (pc' := 54) d_jdk_42_method_149_52 rfl rfl rfl ?_
  refine WP.putF (pc' := 57) d_jdk_42_method_149_54 rfl (host := "") (Or.inl (wd120 hw)) Via.refl F21 E15 (Or.inr ⟨(wd52 hw), rfl, rfl⟩) (wd50 hw) (ty := (.array .byte)) (by decide) rfl rfl g_a ?_
  intro h23 W24
  have Kw25 := Keep.of_wr W24
  have E26 := E15.keep Kw25
  have V27 := V16.keep Kw25 (ninS n_ca nin0)
  have V28 := V17.keep Kw25 (ninS (Ne.symm ne2) nin0)
  have E29 := E18.keep Kw25
  have K30 := K19.trans Kw25 (allS (Or.inl (by simp)) all0)
  have Z31 : n0 ≤ h23.size := Nat.le_trans Z20 Kw25.1
  have F32 := F21.same W24
  have F33 := F22.other W24 (Or.inr (slot_ne (Or.inr (wd53 hw)) (Or.inr (wd52 hw)) (by decide) (t := .byte) (t' := (.array .byte)) (by decide) (by decide)))
  exact WP.vret d_jdk_42_method_149_57 rfl (by decide) (by decide) ⟨rfl, _, K30, ge1, sy4, E26, F32, F33, V28, E29⟩
theorem d_jdk_42_method_3_0 : decode jdk_42_method_3_code 0 = .ok (.aload_n 0, 1) := by decide +kernel
theorem d_jdk_42_method_3_1 : decode jdk_42_method_3_code 1 = .ok (.aload_n 1, 1) := by decide +kernel
theorem d_jdk_42_method_3_2 : decode jdk_42_method_3_code 2 = .ok (.iconst 0, 1) := by decide +kernel
theorem d_jdk_42_method_3_3 : decode jdk_42_method_3_code 3 = .ok (.aload_n 1, 1) := by decide +kernel
theorem d_jdk_42_method_3_4 : decode jdk_42_method_3_code 4 = .ok (.arraylength, 1) := by decide +kernel
theorem d_jdk_42_method_3_5 : decode jdk_42_method_3_code 5 = .ok (.aconst_null, 1) := by decide +kernel
theorem d_jdk_42_method_3_6 : decode jdk_42_method_3_code 6 = .ok (.invokespecial 27, 3) := by decide +kernel
theorem wd103 {Z : State} {a0 : Array Value} (hw : ∀ d ∈ tables_1, d.before a0 Z = true) : (Jvm.Cond.methodLink "java/lang/String" (27 : Nat) ({ cls := "java/lang/String", name := "<init>", desc := "([CIILjava/lang/Void;)V" } : Jvm.MethodName)).before a0 Z = true := hw _ (List.mem_of_getElem? (i := 103) rfl)
theorem wd106 {Z : State} {a0 : Array Value} (hw : ∀ d ∈ tables_1, d.before a0 Z = true) : (Jvm.Cond.code ({ cls := "java/lang/String", name := "<init>", desc := "([CIILjava/lang/Void;)V" } : Jvm.MethodName) jdk_42_method_149_code (6 : Nat) (Option.none : Option Jvm.ClassFile.FieldType)).before a0 Z = true := hw _ (List.mem_of_getElem? (i := 106) rfl)
theorem wd49 {Z : State} {a0 : Array Value} (hw : ∀ d ∈ tables_1, d.before a0 Z = true) : (Jvm.Cond.initialized "java/lang/String").before a0 Z = true := hw _ (List.mem_of_getElem? (i := 49) rfl)
theorem pd_3 : parseMethodDescriptor "([CIILjava/lang/Void;)V" = some ⟨[(.array .char), .int, .int, (.object "java/lang/Void")], none⟩ := by decide +kernel
theorem wd104 {Z : State} {a0 : Array Value} (hw : ∀ d ∈ tables_1, d.before a0 Z = true) : (Jvm.Cond.instanceMethod ({ cls := "java/lang/String", name := "<init>", desc := "([CIILjava/lang/Void;)V" } : Jvm.MethodName)).before a0 Z = true := hw _ (List.mem_of_getElem? (i := 104) rfl)
theorem d_jdk_42_method_3_9 : decode jdk_42_method_3_code 9 = .ok (.return_, 1) := by decide +kernel
set_option maxRecDepth 65536 in
set_option maxHeartbeats 40000000 in
theorem s_si {Z : State} {a0 : Array Value} (hw : ∀ d ∈ tables_1, d.before a0 Z = true) (a : Addr) (c : Addr) (h0 : Heap) (n0 : Nat) (Z0 : n0 ≤ h0.size) (g_a : n0 ≤ a) (E0 : Exa Z h0 a "java/lang/String") (F_v : Fld Z h0 a "java/lang/String" "value" "[B" .null) (F_c : Fld Z h0 a "java/lang/String" "coder" "B" (.int 0)) (cs : Int32) (S_CS : Sta Z h0 "java/lang/String" "COMPACT_STRINGS" "Z" (.int cs)) (hcs : ¬ cs = 0) (n : Nat) (gc : Nat → Int32) (A0 : Ari Z h0 c .char n gc) (h1 : 1 ≤ n) (hn : n ≤ 10000) (hcap : n ≤ 1) (hlat : Lat n gc) (n_ca : c ≠ a) : ∀ l, Does l Z (⟨"java/lang/String", "<init>", "([C)V"⟩ : MethodName) jdk_42_method_3_code 2 none ({ frames := 3, cells := 1, slots := 1, locals := 52 } : Room) n0 #[(.ref a), (.ref c)] h0 (fun v h => v = none ∧ ∃ b : Addr, Keep h0 h [a] ∧ n0 ≤ b ∧ h0.size ≤ b ∧ Exa Z h a "java/lang/String" ∧ Fld Z h a "java/lang/String" "value" "[B" (.ref b) ∧ Fld Z h a "java/lang/String" "coder" "B" (.int 0) ∧ Ari Z h b .byte n (fun i => cv (gc i)) ∧ Exa Z h b "[B") := by
  intro l
  refine Does.of_wp (plainFor_of_name pn_1) (Ls := #[.val (.ref a), .val (.ref c)]) (fun m => by first | (simp [entryFrame, mkF, argsToLocals, Value.category]; done) | rfl | (rcases ref_cases hfv with rfl | ⟨_, rfl⟩ <;> rfl)) ?_
  intro C
  have K0 := Keep.refl h0 [a]
  refine WP.aloadN (pc' := 1) d_jdk_42_method_3_0 rfl rfl rfl ?_
  refine WP.aloadN (pc' := 2) d_jdk_42_method_3_1 rfl rfl rfl ?_
  refine WP.iconst (pc' := 3) d_jdk_42_method_3_2 rfl (z := 0) rfl ?_
  refine WP.aloadN (pc' := 4) d_jdk_42_method_3_3 rfl rfl rfl ?_
  refine WP.arraylengthI (z := (n : Nat).toInt32) (pc' := 5) d_jdk_42_method_3_4 rfl A0 rfl ?_
  refine WP.aconstNull (pc' := 6) d_jdk_42_method_3_5 rfl ?_
  refine WP.callI (a := a) (argsL := [(.ref c), (.int (0 : Int32)), (.int (n : Nat).toInt32), .null]) (rest := []) (wd := 0) (cl' := 1) (sl' := 1) (pc' := 9) d_jdk_42_method_3_6 rfl rfl (wd103 hw) (wd104 hw) (wd49 hw) (wd106 hw) (by decide) (s_si4 hw a c (n : Nat).toInt32 h0 n0 Z0 g_a E0 F_v F_c cs S_CS hcs n gc A0 h1 hn hcap hlat n_ca (natI (by omega))) pd_3 rfl rfl rfl (Nat.le_of_eq rfl) (by decide) (by decide) rfl rfl (by decide) (by decide) ?_
  rintro v h1 ⟨rfl, c1, K1, ge1, sz1, E1, Fv1, Fc1, B1, XB1⟩
  have ne2 : a ≠ c1 := Nat.ne_of_lt (Nat.lt_of_lt_of_le E0.lt sz1)
  have ne3 : c ≠ c1 := Nat.ne_of_lt (Nat.lt_of_lt_of_le A0.lt sz1)
  have sy4 : h0.size ≤ c1 := Nat.le_trans K0.1 sz1
  have E5 := E0.keep K1
  have V6 := A0.keep K1 (ninS n_ca nin0)
  have K7 := K0.trans K1 (allS (Or.inl (by simp)) all0)
  have Z8 : n0 ≤ h1.size := Nat.le_trans Z0 K1.1
  refine WP.castS (st' := []) rfl ?_
  exact WP.vret d_jdk_42_method_3_9 rfl (by decide) (by decide) ⟨rfl, _, K7, ge1, sy4, E1, Fv1, Fc1, B1, XB1⟩
theorem wd54 {Z : State} {a0 : Array Value} (hw : ∀ d ∈ tables_1, d.before a0 Z = true) : (Jvm.Cond.soleField "java/lang/String" "value").before a0 Z = true := hw _ (List.mem_of_getElem? (i := 54) rfl)
theorem wd55 {Z : State} {a0 : Array Value} (hw : ∀ d ∈ tables_1, d.before a0 Z = true) : (Jvm.Cond.soleField "java/lang/String" "coder").before a0 Z = true := hw _ (List.mem_of_getElem? (i := 55) rfl)
theorem wSw {Z : State} {a0 : Array Value} (hw : ∀ d ∈ tables_1, d.before a0 Z = true) : ∀ a ∈ Bundle.stringAtoms, a.before a0 Z = true := fun a ha => by
  simp only [Bundle.stringAtoms, List.mem_cons, List.not_mem_nil, or_false] at ha
  rcases ha with rfl | rfl | rfl | rfl | rfl | rfl | rfl
  · exact (wd49 hw)
  · exact (wd50 hw)
  · exact (wd51 hw)
  · exact (wd52 hw)
  · exact (wd53 hw)
  · exact (wd54 hw)
  · exact (wd55 hw)
theorem wd98 {Z : State} {a0 : Array Value} (hw : ∀ d ∈ tables_1, d.before a0 Z = true) : (Jvm.Cond.stringLink "com/example/cordon/cordon/http/AnswerIsGivenPinLaw" (33 : Nat) "text/plain").before a0 Z = true := hw _ (List.mem_of_getElem? (i := 98) rfl)
theorem wd56 {Z : State} {a0 : Array Value} (hw : ∀ d ∈ tables_1, d.before a0 Z = true) : (Jvm.Cond.stringLink "com/example/cordon/cordon/http/AnswerIsGivenPinLaw" (27 : Nat) "a=b").before a0 Z = true := hw _ (List.mem_of_getElem? (i := 56) rfl)
theorem wd48 {Z : State} {a0 : Array Value} (hw : ∀ d ∈ tables_1, d.before a0 Z = true) : (Jvm.Cond.stringLink "com/example/cordon/cordon/http/AnswerIsGivenPinLaw" (25 : Nat) "Set-Cookie").before a0 Z = true := hw _ (List.mem_of_getElem? (i := 48) rfl)
theorem wd217 {Z : State} {a0 : Array Value} (hw : ∀ d ∈ tables_1, d.before a0 Z = true) : (Jvm.Cond.stringLink "com/example/cordon/cordon/http/AnswerIsGivenPinLaw" (14 : Nat) "X-A").before a0 Z = true := hw _ (List.mem_of_getElem? (i := 217) rfl)
theorem wd130 {Z : State} {a0 : Array Value} (hw : ∀ d ∈ tables_1, d.before a0 Z = true) : (Jvm.Cond.stringLink "com/example/cordon/cordon/http/Answer" (51 : Nat) "Content-Type").before a0 Z = true := hw _ (List.mem_of_getElem? (i := 130) rfl)
theorem hELw {Z : State} {a0 : Array Value} (hw : ∀ d ∈ tables_1, d.before a0 Z = true) : EW Z a0 consts_1 := (EW.cons (wd130 hw) (by decide) (EW.cons (wd217 hw) (by decide) (EW.cons (wd48 hw) (by decide) (EW.cons (wd56 hw) (by decide) (EW.cons (wd98 hw) (by decide) EW.nil)))))
def sgm : Jvm.Lambda.Shape := (Jvm.Lambda.Shape.mk "java/util/function/Predicate" "test" (Jvm.ClassFile.MethodDescriptor.mk ([(Jvm.ClassFile.FieldType.object "java/lang/Object")] : List Jvm.ClassFile.FieldType) (Option.some Jvm.ClassFile.FieldType.boolean)) ([(Jvm.ClassFile.FieldType.object "java/lang/String")] : List Jvm.ClassFile.FieldType) (6 : Nat) "com/example/cordon/cordon/http/Answer" "lambda$set$0" (Jvm.ClassFile.MethodDescriptor.mk ([(Jvm.ClassFile.FieldType.object "java/lang/String"), (Jvm.ClassFile.FieldType.object "com/example/cordon/cordon/http/HttpHead$Field")] : List Jvm.ClassFile.FieldType) (Option.some Jvm.ClassFile.FieldType.boolean)) false (Jvm.ClassFile.MethodDescriptor.mk ([(Jvm.ClassFile.FieldType.object "com/example/cordon/cordon/http/HttpHead$Field")] : List Jvm.ClassFile.FieldType) (Option.some Jvm.ClassFile.FieldType.boolean)))
def fwdc : ByteArray := ⟨#[42, 180, 0, 15, 43, 192, 0, 19, 184, 0, 25, 172]⟩
theorem f0 : decode fwdc 0 = .ok (.aload_n 0, 1) := by decide +kernel
theorem f1 : decode fwdc 1 = .ok (.getfield 15, 3) := by decide +kernel
theorem f4 : decode fwdc 4 = .ok (.aload_n 1, 1) := by decide +kernel
theorem f5 : decode fwdc 5 = .ok (.checkcast 19, 3) := by decide +kernel
theorem f8 : decode fwdc 8 = .ok (.invokestatic 25, 3) := by decide +kernel
theorem f11 : decode fwdc 11 = .ok (.ireturn, 1) := by decide +kernel
theorem fwd_ok : Jvm.LamKit.fwdOK sgm "com/example/cordon/cordon/http/Answer" fwdc 2 (some .boolean) 25 21 = true := by decide +kernel
theorem cap_ok : Jvm.LamKit.capOK sgm "com/example/cordon/cordon/http/Answer" 15 0 = true := by decide +kernel
theorem cls_ok : clsOK sgm "com/example/cordon/cordon/http/Answer" 19 "com/example/cordon/cordon/http/HttpHead$Field" = true := by decide +kernel
theorem xi_ok : "java/util/function/Predicate" = sgm.iface ∧ "test" = sgm.name ∧ "(Ljava/lang/Object;)Z" = sgm.sam.toString := by decide +kernel
theorem y_ok : "com/example/cordon/cordon/http/Answer" = sgm.implClass ∧ "lambda$set$0" = sgm.implName ∧ "(Ljava/lang/String;Lcom/example/cordon/cordon/http/HttpHead$Field;)Z" = sgm.implDesc.toString := by decide +kernel
theorem fit1 {t : FieldType} {v : Value} (h : narrow t v = v ∧ fits t v = true) : ∀ (i : Nat) t' v', [t][i]? = some t' → [v][i]? = some v' → narrow t' v' = v' ∧ fits t' v' = true := by
  intro i t' v' h1 h2
  cases i with
  | zero => cases h1; cases h2; exact h
  | succ i => cases h1
/-- the list's element: a field of the head whose name is another text than one of L chars; nothing of it is a -/
def ElemOk (Z : State) (h : Heap) (L : Nat) (a : Addr) (v : Value) : Prop := ∃ (x s b : Addr) (m : Nat) (gb : Nat → Int32), v = .ref x ∧ (x ≠ a ∧ s ≠ a ∧ b ≠ a) ∧ Exa Z h x "com/example/cordon/cordon/http/HttpHead$Field" ∧ Fld Z h x "com/example/cordon/cordon/http/HttpHead$Field" "name" "Ljava/lang/String;" (.ref s) ∧ Exa Z h s "java/lang/String" ∧ Fld Z h s "java/lang/String" "value" "[B" (.ref b) ∧ Fld Z h s "java/lang/String" "coder" "B" (.int 0) ∧ Ari Z h b .byte m gb ∧ m ≠ L ∧ m ≤ 10000
theorem ElemOk.ext {Z : State} {h h' : Heap} {L : Nat} {a : Addr} {v : Value} (H : ElemOk Z h L a v) (E : Ext h h') : ElemOk Z h' L a v := by
  obtain ⟨x, s, b, m, gb, h1, h2, h3, h4, h5, h6, h7, h8, h9⟩ := H
  exact ⟨x, s, b, m, gb, h1, h2, h3.ext E, h4.ext E, h5.ext E, h6.ext E, h7.ext E, h8.ext E, h9⟩
theorem ElemOk.keep {Z : State} {h h' : Heap} {L : Nat} {a : Addr} {v : Value} (H : ElemOk Z h L a v) (K : Keep h h' [a]) : ElemOk Z h' L a v := by
  obtain ⟨x, s, b, m, gb, h1, h2, h3, h4, h5, h6, h7, h8, h9⟩ := H
  exact ⟨x, s, b, m, gb, h1, h2, h3.keep K, h4.keep K (ninS h2.1 nin0), h5.keep K, h6.keep K (ninS h2.2.1 nin0), h7.keep K (ninS h2.2.1 nin0), h8.keep K (ninS h2.2.2 nin0), h9⟩
theorem len_ne {Z : State} {h : Heap} {a o b c : Addr} {n m : Nat} {g g' : Nat → Int32} (V : Fld Z h a "java/lang/String" "value" "[B" (.ref b)) (W : Fld Z h o "java/lang/String" "value" "[B" (.ref c)) (A : Ari Z h b .byte n g) (A' : Ari Z h c .byte m g') (q : n ≠ m) : a ≠ o := by
  intro e
  subst e
  obtain ⟨c1, cf1, k1, i1, f1, p1, p2, -, -, -, -, p7⟩ := V
  obtain ⟨c2, cf2, k2, i2, f2, q1, q2, -, -, -, -, q7⟩ := W
  cases p1.symm.trans q1
  cases p2.symm.trans q2
  cases p7.symm.trans q7
  obtain ⟨d1, B1, r1, -⟩ := A
  obtain ⟨d2, B2, r2, -⟩ := A'
  cases B1.1.symm.trans B2.1
  exact q (r1.symm.trans r2)
theorem natI_ne {n m : Nat} (hn : n ≤ 10000) (hm : m ≤ 10000) (q : n ≠ m) : ¬ (n : Nat).toInt32 = (m : Nat).toInt32 := fun e => by
  have := congrArg Int32.toInt e
  rw [natI (by omega), natI (by omega)] at this
  omega
def B8 (x : Int32) : Prop := 0 ≤ x.toInt ∧ x.toInt ≤ 255
theorem narC {x : Int32} (h : B8 x) : nar .char x = x := by
  have h1 := c_i2c x
  obtain ⟨h2, h3⟩ := h
  apply Int32.toInt_inj.mp
  show x.toUInt32.toUInt16.toUInt32.toInt32.toInt = x.toInt
  omega
theorem i2c_b8 (x : Int32) : B8 (x &&& 255).toUInt32.toUInt16.toUInt32.toInt32 := by
  have h1 := c_mask x 255 8 (by decide) (by decide)
  have h2 := c_i2c (x &&& 255)
  unfold B8; omega
theorem lat1 {a : Int32} (ha : B8 a) : Lat 1 (updI (fun _ => 0) 0 a) := fun i hi => by
  unfold updI; split; · exact ha
  show 0 ≤ (0 : Int32).toInt ∧ (0 : Int32).toInt ≤ 255; decide
theorem nonneg (x : Int32) : ¬ (x &&& 2147483647) < 0 := by
  have h1 := c_mask x 2147483647 31 (by decide) (by decide)
  rw [Int32.lt_iff_toInt_lt]
  have e : (0 : Int32).toInt = 0 := rfl
  omega
theorem d_jdk_22_method_1_0 : decode jdk_22_method_1_code 0 = .ok (.aload_n 0, 1) := by decide +kernel
theorem d_jdk_22_method_1_1 : decode jdk_22_method_1_code 1 = .ok (.invokespecial 1, 3) := by decide +kernel
theorem wd29 {Z : State} {a0 : Array Value} (hw : ∀ d ∈ tables_1, d.before a0 Z = true) : (Jvm.Cond.methodLink "java/util/AbstractCollection" (1 : Nat) ({ cls := "java/lang/Object", name := "<init>", desc := "()V" } : Jvm.MethodName)).before a0 Z = true := hw _ (List.mem_of_getElem? (i := 29) rfl)
theorem d_jdk_22_method_1_4 : decode jdk_22_method_1_code 4 = .ok (.return_, 1) := by decide +kernel
theorem pn_2 : plainName "java/util/AbstractCollection" = true := by first | (simp [plainName, overriddenIn]; done) | decide +kernel
set_option maxRecDepth 65536 in
set_option maxHeartbeats 40000000 in
theorem m_abc {Z : State} {a0 : Array Value} (hw : ∀ d ∈ tables_1, d.before a0 Z = true) (a : Addr) (h0 : Heap) (n0 : Nat)  : ∀ l, Does l Z (⟨"java/util/AbstractCollection", "<init>", "()V"⟩ : MethodName) jdk_22_method_1_code 1 none ({ frames := 1, cells := 0, slots := 0, locals := 12 } : Room) n0 #[(.ref a)] h0 (fun v h => v = none ∧ h = h0) := by
  intro l
  refine Does.of_wp (plainFor_of_name pn_2) (Ls := #[.val (.ref a)]) (fun m => by first | (simp [entryFrame, mkF, argsToLocals, Value.category]; done) | rfl | (rcases ref_cases hfv with rfl | ⟨_, rfl⟩ <;> rfl)) ?_
  intro C
  refine WP.aloadN (pc' := 1) d_jdk_22_method_1_0 rfl rfl rfl ?_
  refine WP.initO (wd := 0) (pc' := 4) d_jdk_22_method_1_1 rfl (wd29 hw) (wd7 hw) (wd8 hw) rfl (by decide) (Nat.le_of_eq rfl) (by decide) ?_
  exact WP.vret d_jdk_22_method_1_4 rfl (by decide) (by decide) ⟨rfl, rfl⟩
theorem d_jdk_30_method_1_0 : decode jdk_30_method_1_code 0 = .ok (.aload_n 0, 1) := by decide +kernel
theorem d_jdk_30_method_1_1 : decode jdk_30_method_1_code 1 = .ok (.invokespecial 1, 3) := by decide +kernel
theorem wd73 {Z : State} {a0 : Array Value} (hw : ∀ d ∈ tables_1, d.before a0 Z = true) : (Jvm.Cond.methodLink "java/lang/Record" (1 : Nat) ({ cls := "java/lang/Object", name := "<init>", desc := "()V" } : Jvm.MethodName)).before a0 Z = true := hw _ (List.mem_of_getElem? (i := 73) rfl)
theorem d_jdk_30_method_1_4 : decode jdk_30_method_1_code 4 = .ok (.return_, 1) := by decide +kernel
theorem pn_3 : plainName "java/lang/Record" = true := by first | (simp [plainName, overriddenIn]; done) | decide +kernel
set_option maxRecDepth 65536 in
set_option maxHeartbeats 40000000 in
theorem m_rec {Z : State} {a0 : Array Value} (hw : ∀ d ∈ tables_1, d.before a0 Z = true) (a : Addr) (h0 : Heap) (n0 : Nat)  : ∀ l, Does l Z (⟨"java/lang/Record", "<init>", "()V"⟩ : MethodName) jdk_30_method_1_code 1 none ({ frames := 1, cells := 0, slots := 0, locals := 12 } : Room) n0 #[(.ref a)] h0 (fun v h => v = none ∧ h = h0) := by
  intro l
  refine Does.of_wp (plainFor_of_name pn_3) (Ls := #[.val (.ref a)]) (fun m => by first | (simp [entryFrame, mkF, argsToLocals, Value.category]; done) | rfl | (rcases ref_cases hfv with rfl | ⟨_, rfl⟩ <;> rfl)) ?_
  intro C
  refine WP.aloadN (pc' := 1) d_jdk_30_method_1_0 rfl rfl rfl ?_
  refine WP.initO (wd := 0) (pc' := 4) d_jdk_30_method_1_1 rfl (wd73 hw) (wd7 hw) (wd8 hw) rfl (by decide) (Nat.le_of_eq rfl) (by decide) ?_
  exact WP.vret d_jdk_30_method_1_4 rfl (by decide) (by decide) ⟨rfl, rfl⟩
theorem d_jdk_39_method_1_0 : decode jdk_39_method_1_code 0 = .ok (.aload_n 0, 1) := by decide +kernel
theorem d_jdk_39_method_1_1 : decode jdk_39_method_1_code 1 = .ok (.invokespecial 1, 3) := by decide +kernel
theorem wd23 {Z : State} {a0 : Array Value} (hw : ∀ d ∈ tables_1, d.before a0 Z = true) : (Jvm.Cond.methodLink "java/util/AbstractList" (1 : Nat) ({ cls := "java/util/AbstractCollection", name := "<init>", desc := "()V" } : Jvm.MethodName)).before a0 Z = true := hw _ (List.mem_of_getElem? (i := 23) rfl)
theorem wd28 {Z : State} {a0 : Array Value} (hw : ∀ d ∈ tables_1, d.before a0 Z = true) : (Jvm.Cond.code ({ cls := "java/util/AbstractCollection", name := "<init>", desc := "()V" } : Jvm.MethodName) jdk_22_method_1_code (1 : Nat) (Option.none : Option Jvm.ClassFile.FieldType)).before a0 Z = true := hw _ (List.mem_of_getElem? (i := 28) rfl)
theorem wd27 {Z : State} {a0 : Array Value} (hw : ∀ d ∈ tables_1, d.before a0 Z = true) : (Jvm.Cond.initialized "java/util/AbstractCollection").before a0 Z = true := hw _ (List.mem_of_getElem? (i := 27) rfl)
theorem pd_4 : parseMethodDescriptor "()V" = some ⟨[], none⟩ := by decide +kernel
theorem wd24 {Z : State} {a0 : Array Value} (hw : ∀ d ∈ tables_1, d.before a0 Z = true) : (Jvm.Cond.instanceMethod ({ cls := "java/util/AbstractCollection", name := "<init>", desc := "()V" } : Jvm.MethodName)).before a0 Z = true := hw _ (List.mem_of_getElem? (i := 24) rfl)
theorem d_jdk_39_method_1_4 : decode jdk_39_method_1_code 4 = .ok (.aload_n 0, 1) := by decide +kernel
theorem d_jdk_39_method_1_5 : decode jdk_39_method_1_code 5 = .ok (.iconst 0, 1) := by decide +kernel
theorem d_jdk_39_method_1_6 : decode jdk_39_method_1_code 6 = .ok (.putfield 7, 3) := by decide +kernel
theorem wd30 {Z : State} {a0 : Array Value} (hw : ∀ d ∈ tables_1, d.before a0 Z = true) : (Jvm.Cond.fieldLink "java/util/AbstractList" (7 : Nat) "java/util/AbstractList" "modCount" "I").before a0 Z = true := hw _ (List.mem_of_getElem? (i := 30) rfl)
theorem wd31 {Z : State} {a0 : Array Value} (hw : ∀ d ∈ tables_1, d.before a0 Z = true) : (Jvm.Cond.lays "java/util/ArrayList" "java/util/AbstractList" "modCount" "I").before a0 Z = true := hw _ (List.mem_of_getElem? (i := 31) rfl)
theorem wd12 {Z : State} {a0 : Array Value} (hw : ∀ d ∈ tables_1, d.before a0 Z = true) : (Jvm.Cond.instantiable "java/util/ArrayList" (3 : Nat)).before a0 Z = true := hw _ (List.mem_of_getElem? (i := 12) rfl)
theorem wd35 {Z : State} {a0 : Array Value} (hw : ∀ d ∈ tables_1, d.before a0 Z = true) : (Jvm.Cond.lays "java/util/ArrayList" "java/util/ArrayList" "elementData" "[Ljava/lang/Object;").before a0 Z = true := hw _ (List.mem_of_getElem? (i := 35) rfl)
theorem wd90 {Z : State} {a0 : Array Value} (hw : ∀ d ∈ tables_1, d.before a0 Z = true) : (Jvm.Cond.lays "java/util/ArrayList" "java/util/ArrayList" "size" "I").before a0 Z = true := hw _ (List.mem_of_getElem? (i := 90) rfl)
theorem d_jdk_39_method_1_9 : decode jdk_39_method_1_code 9 = .ok (.return_, 1) := by decide +kernel
theorem pn_4 : plainName "java/util/AbstractList" = true := by first | (simp [plainName, overriddenIn]; done) | decide +kernel
set_option maxRecDepth 65536 in
set_option maxHeartbeats 40000000 in
theorem m_abl {Z : State} {a0 : Array Value} (hw : ∀ d ∈ tables_1, d.before a0 Z = true) (a : Addr) (h0 : Heap) (n0 : Nat) (Z0 : n0 ≤ h0.size) (g_a : n0 ≤ a) (E_a : Exa Z h0 a "java/util/ArrayList") (Fm_a : Fld Z h0 a "java/util/AbstractList" "modCount" "I" (.int 0)) (Fe_a : Fld Z h0 a "java/util/ArrayList" "elementData" "[Ljava/lang/Object;" .null) (Fs_a : Fld Z h0 a "java/util/ArrayList" "size" "I" (.int 0)) : ∀ l, Does l Z (⟨"java/util/AbstractList", "<init>", "()V"⟩ : MethodName) jdk_39_method_1_code 1 none ({ frames := 2, cells := 0, slots := 0, locals := 24 } : Room) n0 #[(.ref a)] h0 (fun v h => v = none ∧ Keep h0 h [a] ∧ Exa Z h a "java/util/ArrayList" ∧ Fld Z h a "java/util/AbstractList" "modCount" "I" (.int 0) ∧ Fld Z h a "java/util/ArrayList" "elementData" "[Ljava/lang/Object;" .null ∧ Fld Z h a "java/util/ArrayList" "size" "I" (.int 0)) := by
  intro l
  refine Does.of_wp (plainFor_of_name pn_4) (Ls := #[.val (.ref a)]) (fun m => by first | (simp [entryFrame, mkF, argsToLocals, Value.category]; done) | rfl | (rcases ref_cases hfv with rfl | ⟨_, rfl⟩ <;> rfl)) ?_
  intro C
  have K0 := Keep.refl h0 [a]
  refine WP.aloadN (pc' := 1) d_jdk_39_method_1_0 rfl rfl rfl ?_
  refine WP.callI (a := a) (argsL := []) (rest := []) (wd := 0) (cl' := 0) (sl' := 0) (pc' := 4) d_jdk_39_method_1_1 rfl rfl (wd23 hw) (wd24 hw) (wd27 hw) (wd28 hw) (by decide) (m_abc hw a h0 n0) pd_4 rfl rfl rfl (Nat.le_of_eq rfl) (by decide) (by decide) rfl rfl (by decide) (by decide) ?_
  rintro v hh1 ⟨rfl, he1⟩
  rw [he1]
  refine WP.castS (st' := []) rfl ?_
  refine WP.aloadN (pc' := 5) d_jdk_39_method_1_4 rfl rfl rfl ?_
  refine WP.iconst (pc' := 6) d_jdk_39_method_1_5 rfl (z := 0) rfl ?_
  refine WP.putF (pc' := 9) d_jdk_39_method_1_6 rfl (host := "") (Or.inl (wd30 hw)) Via.refl Fm_a E_a (Or.inl (wd31 hw)) (wd12 hw) (ty := .int) (by decide) rfl rfl g_a ?_
  intro h2 W3
  have Kw4 := Keep.of_wr W3
  have E5 := E_a.keep Kw4
  have K6 := K0.trans Kw4 (allS (Or.inl (by simp)) all0)
  have Z7 : n0 ≤ h2.size := Nat.le_trans Z0 Kw4.1
  have F8 := Fm_a.same W3
  have F9 := Fe_a.other W3 (Or.inr (slot_ne (Or.inl (wd35 hw)) (Or.inl (wd31 hw)) (by decide) (t := (.array (.object "java/lang/Object"))) (t' := .int) (by decide) (by decide)))
  have F10 := Fs_a.other W3 (Or.inr (slot_ne (Or.inl (wd90 hw)) (Or.inl (wd31 hw)) (by decide) (t := .int) (t' := .int) (by decide) (by decide)))
  exact WP.vret d_jdk_39_method_1_9 rfl (by decide) (by decide) ⟨rfl, K6, E5, F8, F9, F10⟩
theorem d_jdk_38_method_1_0 : decode jdk_38_method_1_code 0 = .ok (.aload_n 0, 1) := by decide +kernel
theorem d_jdk_38_method_1_1 : decode jdk_38_method_1_code 1 = .ok (.invokespecial 1, 3) := by decide +kernel
theorem wd17 {Z : State} {a0 : Array Value} (hw : ∀ d ∈ tables_1, d.before a0 Z = true) : (Jvm.Cond.methodLink "java/util/ArrayList" (1 : Nat) ({ cls := "java/util/AbstractList", name := "<init>", desc := "()V" } : Jvm.MethodName)).before a0 Z = true := hw _ (List.mem_of_getElem? (i := 17) rfl)
theorem wd22 {Z : State} {a0 : Array Value} (hw : ∀ d ∈ tables_1, d.before a0 Z = true) : (Jvm.Cond.code ({ cls := "java/util/AbstractList", name := "<init>", desc := "()V" } : Jvm.MethodName) jdk_39_method_1_code (1 : Nat) (Option.none : Option Jvm.ClassFile.FieldType)).before a0 Z = true := hw _ (List.mem_of_getElem? (i := 22) rfl)
theorem wd21 {Z : State} {a0 : Array Value} (hw : ∀ d ∈ tables_1, d.before a0 Z = true) : (Jvm.Cond.initialized "java/util/AbstractList").before a0 Z = true := hw _ (List.mem_of_getElem? (i := 21) rfl)
theorem wd18 {Z : State} {a0 : Array Value} (hw : ∀ d ∈ tables_1, d.before a0 Z = true) : (Jvm.Cond.instanceMethod ({ cls := "java/util/AbstractList", name := "<init>", desc := "()V" } : Jvm.MethodName)).before a0 Z = true := hw _ (List.mem_of_getElem? (i := 18) rfl)
theorem d_jdk_38_method_1_4 : decode jdk_38_method_1_code 4 = .ok (.iload_n 1, 1) := by decide +kernel
theorem d_jdk_38_method_1_5 : decode jdk_38_method_1_code 5 = .ok (.ifCond .le 14, 3) := by decide +kernel
theorem d_jdk_38_method_1_8 : decode jdk_38_method_1_code 8 = .ok (.aload_n 0, 1) := by decide +kernel
theorem d_jdk_38_method_1_9 : decode jdk_38_method_1_code 9 = .ok (.iload_n 1, 1) := by decide +kernel
theorem d_jdk_38_method_1_10 : decode jdk_38_method_1_code 10 = .ok (.anewarray 7, 3) := by decide +kernel
theorem wd32 {Z : State} {a0 : Array Value} (hw : ∀ d ∈ tables_1, d.before a0 Z = true) : (Jvm.Cond.classLink "java/util/ArrayList" (7 : Nat) "java/lang/Object").before a0 Z = true := hw _ (List.mem_of_getElem? (i := 32) rfl)
theorem wd33 {Z : State} {a0 : Array Value} (hw : ∀ d ∈ tables_1, d.before a0 Z = true) : (Jvm.Cond.arrayOver (Jvm.ClassFile.FieldType.object "java/lang/Object")).before a0 Z = true := hw _ (List.mem_of_getElem? (i := 33) rfl)
theorem d_jdk_38_method_1_13 : decode jdk_38_method_1_code 13 = .ok (.putfield 9, 3) := by decide +kernel
theorem wd34 {Z : State} {a0 : Array Value} (hw : ∀ d ∈ tables_1, d.before a0 Z = true) : (Jvm.Cond.fieldLink "java/util/ArrayList" (9 : Nat) "java/util/ArrayList" "elementData" "[Ljava/lang/Object;").before a0 Z = true := hw _ (List.mem_of_getElem? (i := 34) rfl)
theorem d_jdk_38_method_1_16 : decode jdk_38_method_1_code 16 = .ok (.goto 44, 3) := by decide +kernel
theorem d_jdk_38_method_1_60 : decode jdk_38_method_1_code 60 = .ok (.return_, 1) := by decide +kernel
theorem pn_5 : plainName "java/util/ArrayList" = true := by first | (simp [plainName, overriddenIn]; done) | decide +kernel
set_option maxRecDepth 65536 in
set_option maxHeartbeats 40000000 in
theorem m_lin {Z : State} {a0 : Array Value} (hw : ∀ d ∈ tables_1, d.before a0 Z = true) (a : Addr) (h0 : Heap) (n0 : Nat) (Z0 : n0 ≤ h0.size) (g_a : n0 ≤ a) (E_a : Exa Z h0 a "java/util/ArrayList") (Fm_a : Fld Z h0 a "java/util/AbstractList" "modCount" "I" (.int 0)) (Fe_a : Fld Z h0 a "java/util/ArrayList" "elementData" "[Ljava/lang/Object;" .null) (Fs_a : Fld Z h0 a "java/util/ArrayList" "size" "I" (.int 0)) : ∀ l, Does l Z (⟨"java/util/ArrayList", "<init>", "(I)V"⟩ : MethodName) jdk_38_method_1_code 2 none ({ frames := 3, cells := 1, slots := 8, locals := 36 } : Room) n0 #[(.ref a), (.int (8 : Int32))] h0 (fun v h => v = none ∧ ∃ e : Addr, Keep h0 h [a] ∧ n0 ≤ e ∧ h0.size ≤ e ∧ Exa Z h a "java/util/ArrayList" ∧ Fld Z h a "java/util/AbstractList" "modCount" "I" (.int 0) ∧ Fld Z h a "java/util/ArrayList" "elementData" "[Ljava/lang/Object;" (.ref e) ∧ Fld Z h a "java/util/ArrayList" "size" "I" (.int 0) ∧ Arf Z h e (.object "java/lang/Object") 8 (fun _ => .null) ∧ Ocl Z h e "java/lang/Object") := by
  intro l
  refine Does.of_wp (plainFor_of_name pn_5) (Ls := #[.val (.ref a), .val (.int (8 : Int32))]) (fun m => by first | (simp [entryFrame, mkF, argsToLocals, Value.category]; done) | rfl | (rcases ref_cases hfv with rfl | ⟨_, rfl⟩ <;> rfl)) ?_
  intro C
  have K0 := Keep.refl h0 [a]
  refine WP.aloadN (pc' := 1) d_jdk_38_method_1_0 rfl rfl rfl ?_
  refine WP.callI (a := a) (argsL := []) (rest := []) (wd := 0) (cl' := 0) (sl' := 0) (pc' := 4) d_jdk_38_method_1_1 rfl rfl (wd17 hw) (wd18 hw) (wd21 hw) (wd22 hw) (by decide) (m_abl hw a h0 n0 Z0 g_a E_a Fm_a Fe_a Fs_a) pd_4 rfl rfl rfl (Nat.le_of_eq rfl) (by decide) (by decide) rfl rfl (by decide) (by decide) ?_
  rintro v h1 ⟨rfl, K1, E1, Fm1, Fe1, Fs1⟩
  have E2 := E_a.keep K1
  have K3 := K0.trans K1 (allS (Or.inl (by simp)) all0)
  have Z4 : n0 ≤ h1.size := Nat.le_trans Z0 K1.1
  refine WP.castS (st' := []) rfl ?_
  refine WP.iloadN (pc' := 5) d_jdk_38_method_1_4 rfl rfl ?_
  have hc5 : (0 : Int32) < (8 : Int32) := by decide
  refine WP.ifc_le (pc1 := 19) (pc2 := 8) d_jdk_38_method_1_5 (by decide) (by decide) rfl (fun k => absurd hc5 k) (fun _ => ?_)
  refine WP.aloadN (pc' := 9) d_jdk_38_method_1_8 rfl rfl rfl ?_
  refine WP.iloadN (pc' := 10) d_jdk_38_method_1_9 rfl rfl ?_
  refine WP.newR (n := 8) (cap := 8) (cl' := 1) (sl' := 8) (pc' := 13) d_jdk_38_method_1_10 rfl (wd32 hw) (wd33 hw) (by decide) (by decide) (by decide) rfl rfl (by decide) (by decide) ?_
  intro h5 b5 g5 E5 A5 O5
  have ge6 : n0 ≤ b5 := by rw [g5]; exact Z4
  have sz7 : h0.size ≤ b5 := by rw [g5]; exact K3.1
  have ne8 : a ≠ b5 := by rw [g5]; exact Nat.ne_of_lt E1.lt
  have E9 := E1.ext E5
  have F10 := Fm1.ext E5
  have F11 := Fe1.ext E5
  have F12 := Fs1.ext E5
  have K13 := K3.ext E5
  have Z14 : n0 ≤ h5.size := Nat.le_trans Z4 E5.1
  refine WP.putF (pc' := 16) d_jdk_38_method_1_13 rfl (host := "") (Or.inl (wd34 hw)) Via.refl F11 E9 (Or.inl (wd35 hw)) (wd12 hw) (ty := (.array (.object "java/lang/Object"))) (by decide) rfl rfl g_a ?_
  intro h15 W16
  have Kw17 := Keep.of_wr W16
  have E18 := E9.keep Kw17
  have V19 := A5.keep Kw17 (ninS (Ne.symm ne8) nin0)
  have O20 := O5.keep Kw17
  have K21 := K13.trans Kw17 (allS (Or.inl (by simp)) all0)
  have Z22 : n0 ≤ h15.size := Nat.le_trans Z14 Kw17.1
  have F23 := F10.other W16 (Or.inr (slot_ne (Or.inl (wd31 hw)) (Or.inl (wd35 hw)) (by decide) (t := .int) (t' := (.array (.object "java/lang/Object"))) (by decide) (by decide)))
  have F24 := F11.same W16
  have F25 := F12.other W16 (Or.inr (slot_ne (Or.inl (wd90 hw)) (Or.inl (wd35 hw)) (by decide) (t := .int) (t' := (.array (.object "java/lang/Object"))) (by decide) (by decide)))
  refine WP.goto (pc' := 60) d_jdk_38_method_1_16 (by decide) (by decide) ?_
  exact WP.vret d_jdk_38_method_1_60 rfl (by decide) (by decide) ⟨rfl, _, K21, ge6, sz7, E18, F23, F24, F25, V19, O20⟩
theorem d_prog_14_method_1_0 : decode prog_14_method_1_code 0 = .ok (.aload_n 0, 1) := by decide +kernel
theorem d_prog_14_method_1_1 : decode prog_14_method_1_code 1 = .ok (.invokespecial 1, 3) := by decide +kernel
theorem wd6 {Z : State} {a0 : Array Value} (hw : ∀ d ∈ tables_1, d.before a0 Z = true) : (Jvm.Cond.methodLink "com/example/cordon/cordon/http/Answer" (1 : Nat) ({ cls := "java/lang/Object", name := "<init>", desc := "()V" } : Jvm.MethodName)).before a0 Z = true := hw _ (List.mem_of_getElem? (i := 6) rfl)
theorem d_prog_14_method_1_4 : decode prog_14_method_1_code 4 = .ok (.aload_n 0, 1) := by decide +kernel
theorem d_prog_14_method_1_5 : decode prog_14_method_1_code 5 = .ok (.iconst (-1), 1) := by decide +kernel
theorem d_prog_14_method_1_6 : decode prog_14_method_1_code 6 = .ok (.putfield 7, 3) := by decide +kernel
theorem wd9 {Z : State} {a0 : Array Value} (hw : ∀ d ∈ tables_1, d.before a0 Z = true) : (Jvm.Cond.fieldLink "com/example/cordon/cordon/http/Answer" (7 : Nat) "com/example/cordon/cordon/http/Answer" "status" "I").before a0 Z = true := hw _ (List.mem_of_getElem? (i := 9) rfl)
theorem wd10 {Z : State} {a0 : Array Value} (hw : ∀ d ∈ tables_1, d.before a0 Z = true) : (Jvm.Cond.lays "com/example/cordon/cordon/http/Answer" "com/example/cordon/cordon/http/Answer" "status" "I").before a0 Z = true := hw _ (List.mem_of_getElem? (i := 10) rfl)
theorem wd1 {Z : State} {a0 : Array Value} (hw : ∀ d ∈ tables_1, d.before a0 Z = true) : (Jvm.Cond.instantiable "com/example/cordon/cordon/http/Answer" (3 : Nat)).before a0 Z = true := hw _ (List.mem_of_getElem? (i := 1) rfl)
theorem wd37 {Z : State} {a0 : Array Value} (hw : ∀ d ∈ tables_1, d.before a0 Z = true) : (Jvm.Cond.laysFinal "com/example/cordon/cordon/http/Answer" "com/example/cordon/cordon/http/Answer" "fields" "Ljava/util/List;").before a0 Z = true := hw _ (List.mem_of_getElem? (i := 37) rfl)
theorem wd41 {Z : State} {a0 : Array Value} (hw : ∀ d ∈ tables_1, d.before a0 Z = true) : (Jvm.Cond.lays "com/example/cordon/cordon/http/Answer" "com/example/cordon/cordon/http/Answer" "body" "[B").before a0 Z = true := hw _ (List.mem_of_getElem? (i := 41) rfl)
theorem d_prog_14_method_1_9 : decode prog_14_method_1_code 9 = .ok (.aload_n 0, 1) := by decide +kernel
theorem d_prog_14_method_1_10 : decode prog_14_method_1_code 10 = .ok (.new 13, 3) := by decide +kernel
theorem wd11 {Z : State} {a0 : Array Value} (hw : ∀ d ∈ tables_1, d.before a0 Z = true) : (Jvm.Cond.classLink "com/example/cordon/cordon/http/Answer" (13 : Nat) "java/util/ArrayList").before a0 Z = true := hw _ (List.mem_of_getElem? (i := 11) rfl)
theorem wd13 {Z : State} {a0 : Array Value} (hw : ∀ d ∈ tables_1, d.before a0 Z = true) : (Jvm.Cond.initialized "java/util/ArrayList").before a0 Z = true := hw _ (List.mem_of_getElem? (i := 13) rfl)
theorem d_prog_14_method_1_13 : decode prog_14_method_1_code 13 = .ok (.dup, 1) := by decide +kernel
theorem d_prog_14_method_1_14 : decode prog_14_method_1_code 14 = .ok (.bipush 8, 2) := by decide +kernel
theorem d_prog_14_method_1_16 : decode prog_14_method_1_code 16 = .ok (.invokespecial 15, 3) := by decide +kernel
theorem wd14 {Z : State} {a0 : Array Value} (hw : ∀ d ∈ tables_1, d.before a0 Z = true) : (Jvm.Cond.methodLink "com/example/cordon/cordon/http/Answer" (15 : Nat) ({ cls := "java/util/ArrayList", name := "<init>", desc := "(I)V" } : Jvm.MethodName)).before a0 Z = true := hw _ (List.mem_of_getElem? (i := 14) rfl)
theorem wd16 {Z : State} {a0 : Array Value} (hw : ∀ d ∈ tables_1, d.before a0 Z = true) : (Jvm.Cond.code ({ cls := "java/util/ArrayList", name := "<init>", desc := "(I)V" } : Jvm.MethodName) jdk_38_method_1_code (2 : Nat) (Option.none : Option Jvm.ClassFile.FieldType)).before a0 Z = true := hw _ (List.mem_of_getElem? (i := 16) rfl)
theorem pd_5 : parseMethodDescriptor "(I)V" = some ⟨[.int], none⟩ := by decide +kernel
theorem wd15 {Z : State} {a0 : Array Value} (hw : ∀ d ∈ tables_1, d.before a0 Z = true) : (Jvm.Cond.instanceMethod ({ cls := "java/util/ArrayList", name := "<init>", desc := "(I)V" } : Jvm.MethodName)).before a0 Z = true := hw _ (List.mem_of_getElem? (i := 15) rfl)
theorem d_prog_14_method_1_19 : decode prog_14_method_1_code 19 = .ok (.putfield 18, 3) := by decide +kernel
theorem wd36 {Z : State} {a0 : Array Value} (hw : ∀ d ∈ tables_1, d.before a0 Z = true) : (Jvm.Cond.fieldLink "com/example/cordon/cordon/http/Answer" (18 : Nat) "com/example/cordon/cordon/http/Answer" "fields" "Ljava/util/List;").before a0 Z = true := hw _ (List.mem_of_getElem? (i := 36) rfl)
theorem d_prog_14_method_1_22 : decode prog_14_method_1_code 22 = .ok (.aload_n 0, 1) := by decide +kernel
theorem d_prog_14_method_1_23 : decode prog_14_method_1_code 23 = .ok (.getstatic 22, 3) := by decide +kernel
theorem wd38 {Z : State} {a0 : Array Value} (hw : ∀ d ∈ tables_1, d.before a0 Z = true) : (Jvm.Cond.fieldLink "com/example/cordon/cordon/http/Answer" (22 : Nat) "com/example/cordon/cordon/http/Answer" "NO_BODY" "[B").before a0 Z = true := hw _ (List.mem_of_getElem? (i := 38) rfl)
theorem d_prog_14_method_1_26 : decode prog_14_method_1_code 26 = .ok (.putfield 26, 3) := by decide +kernel
theorem wd40 {Z : State} {a0 : Array Value} (hw : ∀ d ∈ tables_1, d.before a0 Z = true) : (Jvm.Cond.fieldLink "com/example/cordon/cordon/http/Answer" (26 : Nat) "com/example/cordon/cordon/http/Answer" "body" "[B").before a0 Z = true := hw _ (List.mem_of_getElem? (i := 40) rfl)
theorem d_prog_14_method_1_29 : decode prog_14_method_1_code 29 = .ok (.return_, 1) := by decide +kernel
theorem pn_6 : plainName "com/example/cordon/cordon/http/Answer" = true := by first | (simp [plainName, overriddenIn]; done) | decide +kernel
set_option maxRecDepth 65536 in
set_option maxHeartbeats 40000000 in
theorem m_ain {Z : State} {a0 : Array Value} (hw : ∀ d ∈ tables_1, d.before a0 Z = true) (a : Addr) (h0 : Heap) (n0 : Nat) (Z0 : n0 ≤ h0.size) (g_a : n0 ≤ a) (O0 : Old Z n0 h0) (nb : Addr) (S_NB : Sta Z Z.heap "com/example/cordon/cordon/http/Answer" "NO_BODY" "[B" (.ref nb)) (Ea_a : Exa Z h0 a "com/example/cordon/cordon/http/Answer") (Ft_a : Fld Z h0 a "com/example/cordon/cordon/http/Answer" "status" "I" (.int 0)) (Fl_a : Fld Z h0 a "com/example/cordon/cordon/http/Answer" "fields" "Ljava/util/List;" .null) (Fb_a : Fld Z h0 a "com/example/cordon/cordon/http/Answer" "body" "[B" .null) : ∀ l, Does l Z (⟨"com/example/cordon/cordon/http/Answer", "<init>", "()V"⟩ : MethodName) prog_14_method_1_code 1 none ({ frames := 4, cells := 2, slots := 11, locals := 51 } : Room) n0 #[(.ref a)] h0 (fun v h => v = none ∧ ∃ f e : Addr, Keep h0 h [a] ∧ n0 ≤ f ∧ n0 ≤ e ∧ h0.size ≤ f ∧ h0.size ≤ e ∧ f ≠ e ∧ Exa Z h a "com/example/cordon/cordon/http/Answer" ∧ Fld Z h a "com/example/cordon/cordon/http/Answer" "status" "I" (.int (-1)) ∧ Fld Z h a "com/example/cordon/cordon/http/Answer" "fields" "Ljava/util/List;" (.ref f) ∧ Fld Z h a "com/example/cordon/cordon/http/Answer" "body" "[B" (.ref nb) ∧ Exa Z h f "java/util/ArrayList" ∧ Fld Z h f "java/util/AbstractList" "modCount" "I" (.int 0) ∧ Fld Z h f "java/util/ArrayList" "elementData" "[Ljava/lang/Object;" (.ref e) ∧ Fld Z h f "java/util/ArrayList" "size" "I" (.int 0) ∧ Arf Z h e (.object "java/lang/Object") 8 (fun _ => .null) ∧ Ocl Z h e "java/lang/Object") := by
  intro l
  refine Does.of_wp (plainFor_of_name pn_6) (Ls := #[.val (.ref a)]) (fun m => by first | (simp [entryFrame, mkF, argsToLocals, Value.category]; done) | rfl | (rcases ref_cases hfv with rfl | ⟨_, rfl⟩ <;> rfl)) ?_
  intro C
  have K0 := Keep.refl h0 [a]
  refine WP.aloadN (pc' := 1) d_prog_14_method_1_0 rfl rfl rfl ?_
  refine WP.initO (wd := 0) (pc' := 4) d_prog_14_method_1_1 rfl (wd6 hw) (wd7 hw) (wd8 hw) rfl (by decide) (Nat.le_of_eq rfl) (by decide) ?_
  refine WP.aloadN (pc' := 5) d_prog_14_method_1_4 rfl rfl rfl ?_
  refine WP.iconst (pc' := 6) d_prog_14_method_1_5 rfl (z := -1) rfl ?_
  refine WP.putF (pc' := 9) d_prog_14_method_1_6 rfl (host := "") (Or.inl (wd9 hw)) Via.refl Ft_a Ea_a (Or.inl (wd10 hw)) (wd1 hw) (ty := .int) (by decide) rfl rfl g_a ?_
  intro h1 W2
  have Kw3 := Keep.of_wr W2
  have E4 := Ea_a.keep Kw3
  have O5 := O0.keep Kw3 (allS g_a all0)
  have K6 := K0.trans Kw3 (allS (Or.inl (by simp)) all0)
  have Z7 : n0 ≤ h1.size := Nat.le_trans Z0 Kw3.1
  have F8 := Ft_a.same W2
  have F9 := Fl_a.other W2 (Or.inr (slot_ne (Or.inr (wd37 hw)) (Or.inl (wd10 hw)) (by decide) (t := (.object "java/util/List")) (t' := .int) (by decide) (by decide)))
  have F10 := Fb_a.other W2 (Or.inr (slot_ne (Or.inl (wd41 hw)) (Or.inl (wd10 hw)) (by decide) (t := (.array .byte)) (t' := .int) (by decide) (by decide)))
  refine WP.aloadN (pc' := 10) d_prog_14_method_1_9 rfl rfl rfl ?_
  refine WP.newO (cl' := 1) (sl' := 3) (pc' := 13) d_prog_14_method_1_10 rfl (wd11 hw) (wd12 hw) (wd13 hw) rfl rfl (by decide) (by decide) ?_
  intro h11 b11 g11 E11 A11 D11
  have ge12 : n0 ≤ b11 := by rw [g11]; exact Z7
  have sz13 : h0.size ≤ b11 := by rw [g11]; exact K6.1
  have ne14 : a ≠ b11 := by rw [g11]; exact Nat.ne_of_lt E4.lt
  have E15 := E4.ext E11
  have F16 := F8.ext E11
  have F17 := F9.ext E11
  have F18 := F10.ext E11
  have O19 := O5.ext E11
  have K20 := K6.ext E11
  have Z21 : n0 ≤ h11.size := Nat.le_trans Z7 E11.1
  have F22 : Fld Z h11 b11 "java/util/AbstractList" "modCount" "I" (.int (0 : Int32)) := D11 (Or.inl (wd31 hw)) (ty := .int) (by decide)
  have F23 : Fld Z h11 b11 "java/util/ArrayList" "elementData" "[Ljava/lang/Object;" .null := D11 (Or.inl (wd35 hw)) (ty := (.array (.object "java/lang/Object"))) (by decide)
  have F24 : Fld Z h11 b11 "java/util/ArrayList" "size" "I" (.int (0 : Int32)) := D11 (Or.inl (wd90 hw)) (ty := .int) (by decide)
  refine WP.dup (pc' := 14) d_prog_14_method_1_13 rfl rfl ?_
  refine WP.bipush (pc' := 16) d_prog_14_method_1_14 rfl (z := 8) rfl ?_
  refine WP.callI (a := b11) (argsL := [(.int (8 : Int32))]) (rest := [(.ref b11), (.ref a)]) (wd := 2) (cl' := 2) (sl' := 11) (pc' := 19) d_prog_14_method_1_16 rfl rfl (wd14 hw) (wd15 hw) (wd13 hw) (wd16 hw) (by decide) (m_lin hw b11 h11 n0 Z21 ge12 A11 F22 F23 F24) pd_5 rfl rfl rfl (Nat.le_of_eq rfl) (by decide) (by decide) rfl rfl (by decide) (by decide) ?_
  rintro v h25 ⟨rfl, e25, K25, ge25, sz25, E25, Fm25, Fe25, Fs25, A25, O25⟩
  have ne26 : a ≠ e25 := Nat.ne_of_lt (Nat.lt_of_lt_of_le E15.lt sz25)
  have ne27 : b11 ≠ e25 := Nat.ne_of_lt (Nat.lt_of_lt_of_le A11.lt sz25)
  have sy28 : h0.size ≤ e25 := Nat.le_trans K20.1 sz25
  have E29 := E15.keep K25
  have F30 := F16.keep K25 (ninS ne14 nin0)
  have F31 := F17.keep K25 (ninS ne14 nin0)
  have F32 := F18.keep K25 (ninS ne14 nin0)
  have E33 := A11.keep K25
  have O34 := O19.keep K25 (allS ge12 all0)
  have K35 := K20.trans K25 (allS (Or.inr sz13) all0)
  have Z36 : n0 ≤ h25.size := Nat.le_trans Z21 K25.1
  refine WP.castS (st' := [(.ref b11), (.ref a)]) rfl ?_
  refine WP.putF (pc' := 22) d_prog_14_method_1_19 rfl (host := "") (Or.inl (wd36 hw)) Via.refl F31 E29 (Or.inr ⟨(wd37 hw), rfl, rfl⟩) (wd1 hw) (ty := (.object "java/util/List")) (by decide) rfl rfl g_a ?_
  intro h37 W38
  have Kw39 := Keep.of_wr W38
  have E40 := E29.keep Kw39
  have E41 := E25.keep Kw39
  have F42 := Fm25.keep Kw39 (ninS (Ne.symm ne14) nin0)
  have F43 := Fe25.keep Kw39 (ninS (Ne.symm ne14) nin0)
  have F44 := Fs25.keep Kw39 (ninS (Ne.symm ne14) nin0)
  have V45 := A25.keep Kw39 (ninS (Ne.symm ne26) nin0)
  have O46 := O25.keep Kw39
  have O47 := O34.keep Kw39 (allS g_a all0)
  have K48 := K35.trans Kw39 (allS (Or.inl (by simp)) all0)
  have Z49 : n0 ≤ h37.size := Nat.le_trans Z36 Kw39.1
  have F50 := F30.other W38 (Or.inr (slot_ne (Or.inl (wd10 hw)) (Or.inr (wd37 hw)) (by decide) (t := .int) (t' := (.object "java/util/List")) (by decide) (by decide)))
  have F51 := F31.same W38
  have F52 := F32.other W38 (Or.inr (slot_ne (Or.inl (wd41 hw)) (Or.inr (wd37 hw)) (by decide) (t := (.array .byte)) (t' := (.object "java/util/List")) (by decide) (by decide)))
  refine WP.aloadN (pc' := 23) d_prog_14_method_1_22 rfl rfl rfl ?_
  refine WP.getS (pc' := 26) d_prog_14_method_1_23 rfl (host := "") (Or.inl (wd38 hw)) Via.refl (S_NB.ext O47.2) ?_
  refine WP.putF (pc' := 29) d_prog_14_method_1_26 rfl (host := "") (Or.inl (wd40 hw)) Via.refl F52 E40 (Or.inl (wd41 hw)) (wd1 hw) (ty := (.array .byte)) (by decide) rfl rfl g_a ?_
  intro h53 W54
  have Kw55 := Keep.of_wr W54
  have E56 := E40.keep Kw55
  have E57 := E41.keep Kw55
  have F58 := F42.keep Kw55 (ninS (Ne.symm ne14) nin0)
  have F59 := F43.keep Kw55 (ninS (Ne.symm ne14) nin0)
  have F60 := F44.keep Kw55 (ninS (Ne.symm ne14) nin0)
  have V61 := V45.keep Kw55 (ninS (Ne.symm ne26) nin0)
  have O62 := O46.keep Kw55
  have O63 := O47.keep Kw55 (allS g_a all0)
  have K64 := K48.trans Kw55 (allS (Or.inl (by simp)) all0)
  have Z65 : n0 ≤ h53.size := Nat.le_trans Z49 Kw55.1
  have F66 := F50.other W54 (Or.inr (slot_ne (Or.inl (wd10 hw)) (Or.inl (wd41 hw)) (by decide) (t := .int) (t' := (.array .byte)) (by decide) (by decide)))
  have F67 := F51.other W54 (Or.inr (slot_ne (Or.inr (wd37 hw)) (Or.inl (wd41 hw)) (by decide) (t := (.object "java/util/List")) (t' := (.array .byte)) (by decide) (by decide)))
  have F68 := F52.same W54
  exact WP.vret d_prog_14_method_1_29 rfl (by decide) (by decide) ⟨rfl, _, _, K64, ge12, ge25, sz13, sy28, ne27, E56, F66, F67, F68, E57, F58, F59, F60, V61, O62⟩
theorem d_prog_14_method_9_0 : decode prog_14_method_9_code 0 = .ok (.aload_n 0, 1) := by decide +kernel
theorem d_prog_14_method_9_1 : decode prog_14_method_9_code 1 = .ok (.getfield 7, 3) := by decide +kernel
theorem d_prog_14_method_9_4 : decode prog_14_method_9_code 4 = .ok (.ifCond .lt 7, 3) := by decide +kernel
theorem d_prog_14_method_9_11 : decode prog_14_method_9_code 11 = .ok (.iconst 0, 1) := by decide +kernel
theorem d_prog_14_method_9_12 : decode prog_14_method_9_code 12 = .ok (.ireturn, 1) := by decide +kernel
theorem d_prog_14_method_9_7 : decode prog_14_method_9_code 7 = .ok (.iconst 1, 1) := by decide +kernel
theorem d_prog_14_method_9_8 : decode prog_14_method_9_code 8 = .ok (.goto 4, 3) := by decide +kernel
set_option maxRecDepth 65536 in
set_option maxHeartbeats 40000000 in
theorem m_giv {Z : State} {a0 : Array Value} (hw : ∀ d ∈ tables_1, d.before a0 Z = true) (a : Addr) (h0 : Heap) (n0 : Nat) (t : Int32) (Ft_a : Fld Z h0 a "com/example/cordon/cordon/http/Answer" "status" "I" (.int t)) : ∀ l, Does l Z (⟨"com/example/cordon/cordon/http/Answer", "isGiven", "()Z"⟩ : MethodName) prog_14_method_9_code 1 (some .boolean) ({ frames := 0, cells := 0, slots := 0, locals := 0 } : Room) n0 #[(.ref a)] h0 (fun v h => v = some (.int (b2i (decide (¬ t < 0)))) ∧ h = h0) := by
  intro l
  refine Does.of_wp (plainFor_of_name pn_6) (Ls := #[.val (.ref a)]) (fun m => by first | (simp [entryFrame, mkF, argsToLocals, Value.category]; done) | rfl | (rcases ref_cases hfv with rfl | ⟨_, rfl⟩ <;> rfl)) ?_
  intro C
  refine WP.aloadN (pc' := 1) d_prog_14_method_9_0 rfl rfl rfl ?_
  refine WP.getF (pc' := 4) d_prog_14_method_9_1 rfl (host := "") (Or.inl (wd9 hw)) Via.refl Ft_a ?_
  refine WP.ifc_lt (pc1 := 11) (pc2 := 7) d_prog_14_method_9_4 (by decide) (by decide) rfl ?_ ?_
  · intro hc4
    refine WP.iconst (pc' := 12) d_prog_14_method_9_11 rfl (z := 0) rfl ?_
    refine WP.nret (t := .boolean) d_prog_14_method_9_12 rfl (by simp) rfl (by decide) (by decide) ⟨b2i_f (fun z => z hc4), rfl⟩
  · intro hc4
    refine WP.iconst (pc' := 8) d_prog_14_method_9_7 rfl (z := 1) rfl ?_
    refine WP.goto (pc' := 12) d_prog_14_method_9_8 (by decide) (by decide) ?_
    refine WP.nret (t := .boolean) d_prog_14_method_9_12 rfl (by simp) rfl (by decide) (by decide) ⟨b2i_t hc4, rfl⟩
theorem d_prog_26_method_1_0 : decode prog_26_method_1_code 0 = .ok (.aload_n 0, 1) := by decide +kernel
theorem d_prog_26_method_1_1 : decode prog_26_method_1_code 1 = .ok (.invokespecial 1, 3) := by decide +kernel
theorem wd68 {Z : State} {a0 : Array Value} (hw : ∀ d ∈ tables_1, d.before a0 Z = true) : (Jvm.Cond.methodLink "com/example/cordon/cordon/http/HttpHead$Field" (1 : Nat) ({ cls := "java/lang/Record", name := "<init>", desc := "()V" } : Jvm.MethodName)).before a0 Z = true := hw _ (List.mem_of_getElem? (i := 68) rfl)
theorem wd72 {Z : State} {a0 : Array Value} (hw : ∀ d ∈ tables_1, d.before a0 Z = true) : (Jvm.Cond.code ({ cls := "java/lang/Record", name := "<init>", desc := "()V" } : Jvm.MethodName) jdk_30_method_1_code (1 : Nat) (Option.none : Option Jvm.ClassFile.FieldType)).before a0 Z = true := hw _ (List.mem_of_getElem? (i := 72) rfl)
theorem wd71 {Z : State} {a0 : Array Value} (hw : ∀ d ∈ tables_1, d.before a0 Z = true) : (Jvm.Cond.initialized "java/lang/Record").before a0 Z = true := hw _ (List.mem_of_getElem? (i := 71) rfl)
theorem wd69 {Z : State} {a0 : Array Value} (hw : ∀ d ∈ tables_1, d.before a0 Z = true) : (Jvm.Cond.instanceMethod ({ cls := "java/lang/Record", name := "<init>", desc := "()V" } : Jvm.MethodName)).before a0 Z = true := hw _ (List.mem_of_getElem? (i := 69) rfl)
theorem d_prog_26_method_1_4 : decode prog_26_method_1_code 4 = .ok (.aload_n 0, 1) := by decide +kernel
theorem d_prog_26_method_1_5 : decode prog_26_method_1_code 5 = .ok (.aload_n 1, 1) := by decide +kernel
theorem d_prog_26_method_1_6 : decode prog_26_method_1_code 6 = .ok (.putfield 7, 3) := by decide +kernel
theorem wd74 {Z : State} {a0 : Array Value} (hw : ∀ d ∈ tables_1, d.before a0 Z = true) : (Jvm.Cond.fieldLink "com/example/cordon/cordon/http/HttpHead$Field" (7 : Nat) "com/example/cordon/cordon/http/HttpHead$Field" "name" "Ljava/lang/String;").before a0 Z = true := hw _ (List.mem_of_getElem? (i := 74) rfl)
theorem wd75 {Z : State} {a0 : Array Value} (hw : ∀ d ∈ tables_1, d.before a0 Z = true) : (Jvm.Cond.laysFinal "com/example/cordon/cordon/http/HttpHead$Field" "com/example/cordon/cordon/http/HttpHead$Field" "name" "Ljava/lang/String;").before a0 Z = true := hw _ (List.mem_of_getElem? (i := 75) rfl)
theorem wd63 {Z : State} {a0 : Array Value} (hw : ∀ d ∈ tables_1, d.before a0 Z = true) : (Jvm.Cond.instantiable "com/example/cordon/cordon/http/HttpHead$Field" (2 : Nat)).before a0 Z = true := hw _ (List.mem_of_getElem? (i := 63) rfl)
theorem wd77 {Z : State} {a0 : Array Value} (hw : ∀ d ∈ tables_1, d.before a0 Z = true) : (Jvm.Cond.laysFinal "com/example/cordon/cordon/http/HttpHead$Field" "com/example/cordon/cordon/http/HttpHead$Field" "value" "Ljava/lang/String;").before a0 Z = true := hw _ (List.mem_of_getElem? (i := 77) rfl)
theorem d_prog_26_method_1_9 : decode prog_26_method_1_code 9 = .ok (.aload_n 0, 1) := by decide +kernel
theorem d_prog_26_method_1_10 : decode prog_26_method_1_code 10 = .ok (.aload_n 2, 1) := by decide +kernel
theorem d_prog_26_method_1_11 : decode prog_26_method_1_code 11 = .ok (.putfield 13, 3) := by decide +kernel
theorem wd76 {Z : State} {a0 : Array Value} (hw : ∀ d ∈ tables_1, d.before a0 Z = true) : (Jvm.Cond.fieldLink "com/example/cordon/cordon/http/HttpHead$Field" (13 : Nat) "com/example/cordon/cordon/http/HttpHead$Field" "value" "Ljava/lang/String;").before a0 Z = true := hw _ (List.mem_of_getElem? (i := 76) rfl)
theorem d_prog_26_method_1_14 : decode prog_26_method_1_code 14 = .ok (.return_, 1) := by decide +kernel
theorem pn_7 : plainName "com/example/cordon/cordon/http/HttpHead$Field" = true := by first | (simp [plainName, overriddenIn]; done) | decide +kernel
set_option maxRecDepth 65536 in
set_option maxHeartbeats 40000000 in
theorem m_fin {Z : State} {a0 : Array Value} (hw : ∀ d ∈ tables_1, d.before a0 Z = true) (a : Addr) (nm : Addr) (vl : Addr) (h0 : Heap) (n0 : Nat) (Z0 : n0 ≤ h0.size) (g_a : n0 ≤ a) (E_a : Exa Z h0 a "com/example/cordon/cordon/http/HttpHead$Field") (Fn_a : Fld Z h0 a "com/example/cordon/cordon/http/HttpHead$Field" "name" "Ljava/lang/String;" .null) (Fv_a : Fld Z h0 a "com/example/cordon/cordon/http/HttpHead$Field" "value" "Ljava/lang/String;" .null) : ∀ l, Does l Z (⟨"com/example/cordon/cordon/http/HttpHead$Field", "<init>", "(Ljava/lang/String;Ljava/lang/String;)V"⟩ : MethodName) prog_26_method_1_code 3 none ({ frames := 2, cells := 0, slots := 0, locals := 24 } : Room) n0 #[(.ref a), (.ref nm), (.ref vl)] h0 (fun v h => v = none ∧ Keep h0 h [a] ∧ Exa Z h a "com/example/cordon/cordon/http/HttpHead$Field" ∧ Fld Z h a "com/example/cordon/cordon/http/HttpHead$Field" "name" "Ljava/lang/String;" (.ref nm) ∧ Fld Z h a "com/example/cordon/cordon/http/HttpHead$Field" "value" "Ljava/lang/String;" (.ref vl)) := by
  intro l
  refine Does.of_wp (plainFor_of_name pn_7) (Ls := #[.val (.ref a), .val (.ref nm), .val (.ref vl)]) (fun m => by first | (simp [entryFrame, mkF, argsToLocals, Value.category]; done) | rfl | (rcases ref_cases hfv with rfl | ⟨_, rfl⟩ <;> rfl)) ?_
  intro C
  have K0 := Keep.refl h0 [a]
  refine WP.aloadN (pc' := 1) d_prog_26_method_1_0 rfl rfl rfl ?_
  refine WP.callI (a := a) (argsL := []) (rest := []) (wd := 0) (cl' := 0) (sl' := 0) (pc' := 4) d_prog_26_method_1_1 rfl rfl (wd68 hw) (wd69 hw) (wd71 hw) (wd72 hw) (by decide) (m_rec hw a h0 n0) pd_4 rfl rfl rfl (Nat.le_of_eq rfl) (by decide) (by decide) rfl rfl (by decide) (by decide) ?_
  rintro v hh1 ⟨rfl, he1⟩
  rw [he1]
  refine WP.castS (st' := []) rfl ?_
  refine WP.aloadN (pc' := 5) d_prog_26_method_1_4 rfl rfl rfl ?_
  refine WP.aloadN (pc' := 6) d_prog_26_method_1_5 rfl rfl rfl ?_
  refine WP.putF (pc' := 9) d_prog_26_method_1_6 rfl (host := "") (Or.inl (wd74 hw)) Via.refl Fn_a E_a (Or.inr ⟨(wd75 hw), rfl, rfl⟩) (wd63 hw) (ty := (.object "java/lang/String")) (by decide) rfl rfl g_a ?_
  intro h2 W3
  have Kw4 := Keep.of_wr W3
  have E5 := E_a.keep Kw4
  have K6 := K0.trans Kw4 (allS (Or.inl (by simp)) all0)
  have Z7 : n0 ≤ h2.size := Nat.le_trans Z0 Kw4.1
  have F8 := Fn_a.same W3
  have F9 := Fv_a.other W3 (Or.inr (slot_ne (Or.inr (wd77 hw)) (Or.inr (wd75 hw)) (by decide) (t := (.object "java/lang/String")) (t' := (.object "java/lang/String")) (by decide) (by decide)))
  refine WP.aloadN (pc' := 10) d_prog_26_method_1_9 rfl rfl rfl ?_
  refine WP.aloadN (pc' := 11) d_prog_26_method_1_10 rfl rfl rfl ?_
  refine WP.putF (pc' := 14) d_prog_26_method_1_11 rfl (host := "") (Or.inl (wd76 hw)) Via.refl F9 E5 (Or.inr ⟨(wd77 hw), rfl, rfl⟩) (wd63 hw) (ty := (.object "java/lang/String")) (by decide) rfl rfl g_a ?_
  intro h10 W11
  have Kw12 := Keep.of_wr W11
  have E13 := E5.keep Kw12
  have K14 := K6.trans Kw12 (allS (Or.inl (by simp)) all0)
  have Z15 : n0 ≤ h10.size := Nat.le_trans Z7 Kw12.1
  have F16 := F8.other W11 (Or.inr (slot_ne (Or.inr (wd75 hw)) (Or.inr (wd77 hw)) (by decide) (t := (.object "java/lang/String")) (t' := (.object "java/lang/String")) (by decide) (by decide)))
  have F17 := F9.same W11
  exact WP.vret d_prog_26_method_1_14 rfl (by decide) (by decide) ⟨rfl, K14, E13, F16, F17⟩
theorem d_jdk_38_method_24_0 : decode jdk_38_method_24_code 0 = .ok (.iload_n 3, 1) := by decide +kernel
theorem d_jdk_38_method_24_1 : decode jdk_38_method_24_code 1 = .ok (.aload_n 2, 1) := by decide +kernel
theorem d_jdk_38_method_24_2 : decode jdk_38_method_24_code 2 = .ok (.arraylength, 1) := by decide +kernel
theorem d_jdk_38_method_24_3 : decode jdk_38_method_24_code 3 = .ok (.if_icmp .ne 8, 3) := by decide +kernel
theorem d_jdk_38_method_24_11 : decode jdk_38_method_24_code 11 = .ok (.aload_n 2, 1) := by decide +kernel
theorem d_jdk_38_method_24_12 : decode jdk_38_method_24_code 12 = .ok (.iload_n 3, 1) := by decide +kernel
theorem d_jdk_38_method_24_13 : decode jdk_38_method_24_code 13 = .ok (.aload_n 1, 1) := by decide +kernel
theorem d_jdk_38_method_24_14 : decode jdk_38_method_24_code 14 = .ok (.aastore, 1) := by decide +kernel
theorem wd96 {Z : State} {a0 : Array Value} (hw : ∀ d ∈ tables_1, d.before a0 Z = true) : (Jvm.Cond.castable "com/example/cordon/cordon/http/HttpHead$Field" "java/lang/Object").before a0 Z = true := hw _ (List.mem_of_getElem? (i := 96) rfl)
theorem d_jdk_38_method_24_15 : decode jdk_38_method_24_code 15 = .ok (.aload_n 0, 1) := by decide +kernel
theorem d_jdk_38_method_24_16 : decode jdk_38_method_24_code 16 = .ok (.iload_n 3, 1) := by decide +kernel
theorem d_jdk_38_method_24_17 : decode jdk_38_method_24_code 17 = .ok (.iconst 1, 1) := by decide +kernel
theorem d_jdk_38_method_24_18 : decode jdk_38_method_24_code 18 = .ok (.iadd, 1) := by decide +kernel
theorem d_jdk_38_method_24_19 : decode jdk_38_method_24_code 19 = .ok (.putfield 48, 3) := by decide +kernel
theorem wd89 {Z : State} {a0 : Array Value} (hw : ∀ d ∈ tables_1, d.before a0 Z = true) : (Jvm.Cond.fieldLink "java/util/ArrayList" (48 : Nat) "java/util/ArrayList" "size" "I").before a0 Z = true := hw _ (List.mem_of_getElem? (i := 89) rfl)
theorem d_jdk_38_method_24_22 : decode jdk_38_method_24_code 22 = .ok (.return_, 1) := by decide +kernel
set_option maxRecDepth 65536 in
set_option maxHeartbeats 40000000 in
theorem m_add3 {Z : State} {a0 : Array Value} (hw : ∀ d ∈ tables_1, d.before a0 Z = true) (a : Addr) (x : Addr) (h0 : Heap) (n0 : Nat) (Z0 : n0 ≤ h0.size) (g_a : n0 ≤ a) (e : Addr) (g_e : n0 ≤ e) (n_fe : a ≠ e) (mc z : Int32) (n : Nat) (hz : z.toInt = (n : Int)) (hn : n < 8) (g : Nat → Value) (E_a : Exa Z h0 a "java/util/ArrayList") (Fm_a : Fld Z h0 a "java/util/AbstractList" "modCount" "I" (.int mc)) (Fe_a : Fld Z h0 a "java/util/ArrayList" "elementData" "[Ljava/lang/Object;" (.ref e)) (Fs_a : Fld Z h0 a "java/util/ArrayList" "size" "I" (.int z)) (A_e : Arf Z h0 e (.object "java/lang/Object") 8 g) (O_e : Ocl Z h0 e "java/lang/Object") (E_x : Exa Z h0 x "com/example/cordon/cordon/http/HttpHead$Field") : ∀ l, Does l Z (⟨"java/util/ArrayList", "add", "(Ljava/lang/Object;[Ljava/lang/Object;I)V"⟩ : MethodName) jdk_38_method_24_code 4 none ({ frames := 0, cells := 0, slots := 0, locals := 0 } : Room) n0 #[(.ref a), (.ref x), (.ref e), (.int z)] h0 (fun v h => v = none ∧ Keep h0 h [a, e] ∧ Exa Z h a "java/util/ArrayList" ∧ Fld Z h a "java/util/AbstractList" "modCount" "I" (.int mc) ∧ Fld Z h a "java/util/ArrayList" "elementData" "[Ljava/lang/Object;" (.ref e) ∧ Fld Z h a "java/util/ArrayList" "size" "I" (.int (z + (1 : Int32))) ∧ Arf Z h e (.object "java/lang/Object") 8 (updV g n (.ref x)) ∧ Ocl Z h e "java/lang/Object") := by
  intro l
  refine Does.of_wp (plainFor_of_name pn_5) (Ls := #[.val (.ref a), .val (.ref x), .val (.ref e), .val (.int z)]) (fun m => by first | (simp [entryFrame, mkF, argsToLocals, Value.category]; done) | rfl | (rcases ref_cases hfv with rfl | ⟨_, rfl⟩ <;> rfl)) ?_
  intro C
  have K0 := Keep.refl h0 [a, e]
  refine WP.iloadN (pc' := 1) d_jdk_38_method_24_0 rfl rfl ?_
  refine WP.aloadN (pc' := 2) d_jdk_38_method_24_1 rfl rfl rfl ?_
  refine WP.arraylength (z := (8 : Int32)) (pc' := 3) d_jdk_38_method_24_2 rfl A_e rfl ?_
  have hc3 : ¬ z = (8 : Int32) := fun q => by rw [q] at hz; have e8 : (8 : Int32).toInt = 8 := rfl; omega
  refine WP.icmp_ne (pc1 := 11) (pc2 := 6) d_jdk_38_method_24_3 (by decide) (by decide) rfl (fun _ => ?_) (fun k => absurd k hc3)
  refine WP.aloadN (pc' := 12) d_jdk_38_method_24_11 rfl rfl rfl ?_
  refine WP.iloadN (pc' := 13) d_jdk_38_method_24_12 rfl rfl ?_
  refine WP.aloadN (pc' := 14) d_jdk_38_method_24_13 rfl rfl rfl ?_
  refine WP.aastore (n) (pc' := 15) d_jdk_38_method_24_14 rfl A_e rfl (O_e.sto A_e (Ins.of_exa E_x (wd96 hw))) rfl hz (by omega) g_e ?_
  intro h1 K2 A3
  have E4 := E_a.keep K2
  have F5 := Fm_a.keep K2 (ninS n_fe nin0)
  have F6 := Fe_a.keep K2 (ninS n_fe nin0)
  have F7 := Fs_a.keep K2 (ninS n_fe nin0)
  have O8 := O_e.keep K2
  have E9 := E_x.keep K2
  have K10 := K0.trans K2 (allS (Or.inl (by simp)) all0)
  have Z11 : n0 ≤ h1.size := Nat.le_trans Z0 K2.1
  refine WP.aloadN (pc' := 16) d_jdk_38_method_24_15 rfl rfl rfl ?_
  refine WP.iloadN (pc' := 17) d_jdk_38_method_24_16 rfl rfl ?_
  refine WP.iconst (pc' := 18) d_jdk_38_method_24_17 rfl (z := 1) rfl ?_
  refine WP.iadd (pc' := 19) d_jdk_38_method_24_18 rfl ?_
  refine WP.putF (pc' := 22) d_jdk_38_method_24_19 rfl (host := "") (Or.inl (wd89 hw)) Via.refl F7 E4 (Or.inl (wd90 hw)) (wd12 hw) (ty := .int) (by decide) rfl rfl g_a ?_
  intro h12 W13
  have Kw14 := Keep.of_wr W13
  have E15 := E4.keep Kw14
  have O16 := O8.keep Kw14
  have E17 := E9.keep Kw14
  have V18 := A3.keep Kw14 (ninS (Ne.symm n_fe) nin0)
  have K19 := K10.trans Kw14 (allS (Or.inl (by simp)) all0)
  have Z20 : n0 ≤ h12.size := Nat.le_trans Z11 Kw14.1
  have F21 := F5.other W13 (Or.inr (slot_ne (Or.inl (wd31 hw)) (Or.inl (wd90 hw)) (by decide) (t := .int) (t' := .int) (by decide) (by decide)))
  have F22 := F6.other W13 (Or.inr (slot_ne (Or.inl (wd35 hw)) (Or.inl (wd90 hw)) (by decide) (t := (.array (.object "java/lang/Object"))) (t' := .int) (by decide) (by decide)))
  have F23 := F7.same W13
  exact WP.vret d_jdk_38_method_24_22 rfl (by decide) (by decide) ⟨rfl, K19, E15, F21, F22, F23, V18, O16⟩
theorem d_jdk_38_method_25_0 : decode jdk_38_method_25_code 0 = .ok (.aload_n 0, 1) := by decide +kernel
theorem d_jdk_38_method_25_1 : decode jdk_38_method_25_code 1 = .ok (.dup, 1) := by decide +kernel
theorem d_jdk_38_method_25_2 : decode jdk_38_method_25_code 2 = .ok (.getfield 63, 3) := by decide +kernel
theorem wd87 {Z : State} {a0 : Array Value} (hw : ∀ d ∈ tables_1, d.before a0 Z = true) : (Jvm.Cond.fieldLink "java/util/ArrayList" (63 : Nat) "java/util/ArrayList" "modCount" "I").before a0 Z = true := hw _ (List.mem_of_getElem? (i := 87) rfl)
theorem wd88 {Z : State} {a0 : Array Value} (hw : ∀ d ∈ tables_1, d.before a0 Z = true) : (Jvm.Cond.sameField "java/util/ArrayList" "java/util/AbstractList" "modCount" "I").before a0 Z = true := hw _ (List.mem_of_getElem? (i := 88) rfl)
theorem d_jdk_38_method_25_5 : decode jdk_38_method_25_code 5 = .ok (.iconst 1, 1) := by decide +kernel
theorem d_jdk_38_method_25_6 : decode jdk_38_method_25_code 6 = .ok (.iadd, 1) := by decide +kernel
theorem d_jdk_38_method_25_7 : decode jdk_38_method_25_code 7 = .ok (.putfield 63, 3) := by decide +kernel
theorem d_jdk_38_method_25_10 : decode jdk_38_method_25_code 10 = .ok (.aload_n 0, 1) := by decide +kernel
theorem d_jdk_38_method_25_11 : decode jdk_38_method_25_code 11 = .ok (.aload_n 1, 1) := by decide +kernel
theorem d_jdk_38_method_25_12 : decode jdk_38_method_25_code 12 = .ok (.aload_n 0, 1) := by decide +kernel
theorem d_jdk_38_method_25_13 : decode jdk_38_method_25_code 13 = .ok (.getfield 9, 3) := by decide +kernel
theorem d_jdk_38_method_25_16 : decode jdk_38_method_25_code 16 = .ok (.aload_n 0, 1) := by decide +kernel
theorem d_jdk_38_method_25_17 : decode jdk_38_method_25_code 17 = .ok (.getfield 48, 3) := by decide +kernel
theorem d_jdk_38_method_25_20 : decode jdk_38_method_25_code 20 = .ok (.invokevirtual 131, 3) := by decide +kernel
theorem wd91 {Z : State} {a0 : Array Value} (hw : ∀ d ∈ tables_1, d.before a0 Z = true) : (Jvm.Cond.methodLink "java/util/ArrayList" (131 : Nat) ({ cls := "java/util/ArrayList", name := "add", desc := "(Ljava/lang/Object;[Ljava/lang/Object;I)V" } : Jvm.MethodName)).before a0 Z = true := hw _ (List.mem_of_getElem? (i := 91) rfl)
theorem wd95 {Z : State} {a0 : Array Value} (hw : ∀ d ∈ tables_1, d.before a0 Z = true) : (Jvm.Cond.code ({ cls := "java/util/ArrayList", name := "add", desc := "(Ljava/lang/Object;[Ljava/lang/Object;I)V" } : Jvm.MethodName) jdk_38_method_24_code (4 : Nat) (Option.none : Option Jvm.ClassFile.FieldType)).before a0 Z = true := hw _ (List.mem_of_getElem? (i := 95) rfl)
theorem pd_6 : parseMethodDescriptor "(Ljava/lang/Object;[Ljava/lang/Object;I)V" = some ⟨[(.object "java/lang/Object"), (.array (.object "java/lang/Object")), .int], none⟩ := by decide +kernel
theorem wd92 {Z : State} {a0 : Array Value} (hw : ∀ d ∈ tables_1, d.before a0 Z = true) : (Jvm.Cond.instanceMethod ({ cls := "java/util/ArrayList", name := "add", desc := "(Ljava/lang/Object;[Ljava/lang/Object;I)V" } : Jvm.MethodName)).before a0 Z = true := hw _ (List.mem_of_getElem? (i := 92) rfl)
theorem wd94 {Z : State} {a0 : Array Value} (hw : ∀ d ∈ tables_1, d.before a0 Z = true) : (Jvm.Cond.selects "java/util/ArrayList" ({ cls := "java/util/ArrayList", name := "add", desc := "(Ljava/lang/Object;[Ljava/lang/Object;I)V" } : Jvm.MethodName) ({ cls := "java/util/ArrayList", name := "add", desc := "(Ljava/lang/Object;[Ljava/lang/Object;I)V" } : Jvm.MethodName)).before a0 Z = true := hw _ (List.mem_of_getElem? (i := 94) rfl)
theorem wd93 {Z : State} {a0 : Array Value} (hw : ∀ d ∈ tables_1, d.before a0 Z = true) : (Jvm.Cond.privateMethod ({ cls := "java/util/ArrayList", name := "add", desc := "(Ljava/lang/Object;[Ljava/lang/Object;I)V" } : Jvm.MethodName)).before a0 Z = true := hw _ (List.mem_of_getElem? (i := 93) rfl)
theorem d_jdk_38_method_25_23 : decode jdk_38_method_25_code 23 = .ok (.iconst 1, 1) := by decide +kernel
theorem d_jdk_38_method_25_24 : decode jdk_38_method_25_code 24 = .ok (.ireturn, 1) := by decide +kernel
set_option maxRecDepth 65536 in
set_option maxHeartbeats 40000000 in
theorem m_add1 {Z : State} {a0 : Array Value} (hw : ∀ d ∈ tables_1, d.before a0 Z = true) (a : Addr) (x : Addr) (h0 : Heap) (n0 : Nat) (Z0 : n0 ≤ h0.size) (g_a : n0 ≤ a) (e : Addr) (g_e : n0 ≤ e) (n_fe : a ≠ e) (mc z : Int32) (n : Nat) (hz : z.toInt = (n : Int)) (hn : n < 8) (g : Nat → Value) (E_a : Exa Z h0 a "java/util/ArrayList") (Fm_a : Fld Z h0 a "java/util/AbstractList" "modCount" "I" (.int mc)) (Fe_a : Fld Z h0 a "java/util/ArrayList" "elementData" "[Ljava/lang/Object;" (.ref e)) (Fs_a : Fld Z h0 a "java/util/ArrayList" "size" "I" (.int z)) (A_e : Arf Z h0 e (.object "java/lang/Object") 8 g) (O_e : Ocl Z h0 e "java/lang/Object") (E_x : Exa Z h0 x "com/example/cordon/cordon/http/HttpHead$Field") : ∀ l, Does l Z (⟨"java/util/ArrayList", "add", "(Ljava/lang/Object;)Z"⟩ : MethodName) jdk_38_method_25_code 2 (some .boolean) ({ frames := 1, cells := 0, slots := 0, locals := 15 } : Room) n0 #[(.ref a), (.ref x)] h0 (fun v h => v = some (.int 1) ∧ Keep h0 h [a, e] ∧ Exa Z h a "java/util/ArrayList" ∧ Fld Z h a "java/util/AbstractList" "modCount" "I" (.int (mc + (1 : Int32))) ∧ Fld Z h a "java/util/ArrayList" "elementData" "[Ljava/lang/Object;" (.ref e) ∧ Fld Z h a "java/util/ArrayList" "size" "I" (.int (z + (1 : Int32))) ∧ Arf Z h e (.object "java/lang/Object") 8 (updV g n (.ref x)) ∧ Ocl Z h e "java/lang/Object") := by
  intro l
  refine Does.of_wp (plainFor_of_name pn_5) (Ls := #[.val (.ref a), .val (.ref x)]) (fun m => by first | (simp [entryFrame, mkF, argsToLocals, Value.category]; done) | rfl | (rcases ref_cases hfv with rfl | ⟨_, rfl⟩ <;> rfl)) ?_
  intro C
  have K0 := Keep.refl h0 [a, e]
  refine WP.aloadN (pc' := 1) d_jdk_38_method_25_0 rfl rfl rfl ?_
  refine WP.dup (pc' := 2) d_jdk_38_method_25_1 rfl rfl ?_
  refine WP.getF (pc' := 5) d_jdk_38_method_25_2 rfl (host := "") (Or.inl (wd87 hw)) (Via.of (wd88 hw)) Fm_a ?_
  refine WP.iconst (pc' := 6) d_jdk_38_method_25_5 rfl (z := 1) rfl ?_
  refine WP.iadd (pc' := 7) d_jdk_38_method_25_6 rfl ?_
  refine WP.putF (pc' := 10) d_jdk_38_method_25_7 rfl (host := "") (Or.inl (wd87 hw)) (Via.of (wd88 hw)) Fm_a E_a (Or.inl (wd31 hw)) (wd12 hw) (ty := .int) (by decide) rfl rfl g_a ?_
  intro h1 W2
  have Kw3 := Keep.of_wr W2
  have E4 := E_a.keep Kw3
  have V5 := A_e.keep Kw3 (ninS (Ne.symm n_fe) nin0)
  have O6 := O_e.keep Kw3
  have E7 := E_x.keep Kw3
  have K8 := K0.trans Kw3 (allS (Or.inl (by simp)) all0)
  have Z9 : n0 ≤ h1.size := Nat.le_trans Z0 Kw3.1
  have F10 := Fm_a.same W2
  have F11 := Fe_a.other W2 (Or.inr (slot_ne (Or.inl (wd35 hw)) (Or.inl (wd31 hw)) (by decide) (t := (.array (.object "java/lang/Object"))) (t' := .int) (by decide) (by decide)))
  have F12 := Fs_a.other W2 (Or.inr (slot_ne (Or.inl (wd90 hw)) (Or.inl (wd31 hw)) (by decide) (t := .int) (t' := .int) (by decide) (by decide)))
  refine WP.aloadN (pc' := 11) d_jdk_38_method_25_10 rfl rfl rfl ?_
  refine WP.aloadN (pc' := 12) d_jdk_38_method_25_11 rfl rfl rfl ?_
  refine WP.aloadN (pc' := 13) d_jdk_38_method_25_12 rfl rfl rfl ?_
  refine WP.getF (pc' := 16) d_jdk_38_method_25_13 rfl (host := "") (Or.inl (wd34 hw)) Via.refl F11 ?_
  refine WP.aloadN (pc' := 17) d_jdk_38_method_25_16 rfl rfl rfl ?_
  refine WP.getF (pc' := 20) d_jdk_38_method_25_17 rfl (host := "") (Or.inl (wd89 hw)) Via.refl F12 ?_
  refine WP.callP (a := a) (argsL := [(.ref x), (.ref e), (.int z)]) (rest := []) (wd := 0) (cl' := 0) (sl' := 0) (pc' := 23) d_jdk_38_method_25_20 rfl (wd91 hw) (wd92 hw) (wd94 hw) (wd93 hw) (wd13 hw) (wd95 hw) (by decide) E4 (m_add3 hw a x h1 n0 Z9 g_a e g_e n_fe (mc + (1 : Int32)) z n hz hn g E4 F10 F11 F12 V5 O6 E7) pd_6 rfl rfl rfl (Nat.le_of_eq rfl) (by decide) (by decide) rfl rfl (by decide) (by decide) ?_
  rintro v h13 ⟨rfl, K13, E13, Fm13, Fe13, Fs13, A13, O13⟩
  have E14 := E4.keep K13
  have O15 := O6.keep K13
  have E16 := E7.keep K13
  have K17 := K8.trans K13 (allS (Or.inl (by simp)) (allS (Or.inl (by simp)) all0))
  have Z18 : n0 ≤ h13.size := Nat.le_trans Z9 K13.1
  refine WP.castS (st' := []) rfl ?_
  refine WP.iconst (pc' := 24) d_jdk_38_method_25_23 rfl (z := 1) rfl ?_
  refine WP.nret (t := .boolean) d_jdk_38_method_25_24 rfl (by simp) rfl (by decide) (by decide) ⟨rfl, K17, E13, Fm13, Fe13, Fs13, A13, O13⟩
theorem d_prog_14_method_3_0 : decode prog_14_method_3_code 0 = .ok (.aload_n 0, 1) := by decide +kernel
theorem d_prog_14_method_3_1 : decode prog_14_method_3_code 1 = .ok (.getfield 18, 3) := by decide +kernel
theorem d_prog_14_method_3_4 : decode prog_14_method_3_code 4 = .ok (.new 39, 3) := by decide +kernel
theorem wd62 {Z : State} {a0 : Array Value} (hw : ∀ d ∈ tables_1, d.before a0 Z = true) : (Jvm.Cond.classLink "com/example/cordon/cordon/http/Answer" (39 : Nat) "com/example/cordon/cordon/http/HttpHead$Field").before a0 Z = true := hw _ (List.mem_of_getElem? (i := 62) rfl)
theorem wd64 {Z : State} {a0 : Array Value} (hw : ∀ d ∈ tables_1, d.before a0 Z = true) : (Jvm.Cond.initialized "com/example/cordon/cordon/http/HttpHead$Field").before a0 Z = true := hw _ (List.mem_of_getElem? (i := 64) rfl)
theorem d_prog_14_method_3_7 : decode prog_14_method_3_code 7 = .ok (.dup, 1) := by decide +kernel
theorem d_prog_14_method_3_8 : decode prog_14_method_3_code 8 = .ok (.aload_n 1, 1) := by decide +kernel
theorem d_prog_14_method_3_9 : decode prog_14_method_3_code 9 = .ok (.aload_n 2, 1) := by decide +kernel
theorem d_prog_14_method_3_10 : decode prog_14_method_3_code 10 = .ok (.invokespecial 41, 3) := by decide +kernel
theorem wd65 {Z : State} {a0 : Array Value} (hw : ∀ d ∈ tables_1, d.before a0 Z = true) : (Jvm.Cond.methodLink "com/example/cordon/cordon/http/Answer" (41 : Nat) ({ cls := "com/example/cordon/cordon/http/HttpHead$Field", name := "<init>", desc := "(Ljava/lang/String;Ljava/lang/String;)V" } : Jvm.MethodName)).before a0 Z = true := hw _ (List.mem_of_getElem? (i := 65) rfl)
theorem wd67 {Z : State} {a0 : Array Value} (hw : ∀ d ∈ tables_1, d.before a0 Z = true) : (Jvm.Cond.code ({ cls := "com/example/cordon/cordon/http/HttpHead$Field", name := "<init>", desc := "(Ljava/lang/String;Ljava/lang/String;)V" } : Jvm.MethodName) prog_26_method_1_code (3 : Nat) (Option.none : Option Jvm.ClassFile.FieldType)).before a0 Z = true := hw _ (List.mem_of_getElem? (i := 67) rfl)
theorem pd_7 : parseMethodDescriptor "(Ljava/lang/String;Ljava/lang/String;)V" = some ⟨[(.object "java/lang/String"), (.object "java/lang/String")], none⟩ := by decide +kernel
theorem wd66 {Z : State} {a0 : Array Value} (hw : ∀ d ∈ tables_1, d.before a0 Z = true) : (Jvm.Cond.instanceMethod ({ cls := "com/example/cordon/cordon/http/HttpHead$Field", name := "<init>", desc := "(Ljava/lang/String;Ljava/lang/String;)V" } : Jvm.MethodName)).before a0 Z = true := hw _ (List.mem_of_getElem? (i := 66) rfl)
theorem d_prog_14_method_3_13 : decode prog_14_method_3_code 13 = .ok (.invokeinterface 44 2, 5) := by decide +kernel
theorem wd78 {Z : State} {a0 : Array Value} (hw : ∀ d ∈ tables_1, d.before a0 Z = true) : (Jvm.Cond.methodLink "com/example/cordon/cordon/http/Answer" (44 : Nat) ({ cls := "java/util/List", name := "add", desc := "(Ljava/lang/Object;)Z" } : Jvm.MethodName)).before a0 Z = true := hw _ (List.mem_of_getElem? (i := 78) rfl)
theorem wd86 {Z : State} {a0 : Array Value} (hw : ∀ d ∈ tables_1, d.before a0 Z = true) : (Jvm.Cond.code ({ cls := "java/util/ArrayList", name := "add", desc := "(Ljava/lang/Object;)Z" } : Jvm.MethodName) jdk_38_method_25_code (2 : Nat) (Option.some Jvm.ClassFile.FieldType.boolean)).before a0 Z = true := hw _ (List.mem_of_getElem? (i := 86) rfl)
theorem pd_8 : parseMethodDescriptor "(Ljava/lang/Object;)Z" = some ⟨[(.object "java/lang/Object")], some .boolean⟩ := by decide +kernel
theorem wd81 {Z : State} {a0 : Array Value} (hw : ∀ d ∈ tables_1, d.before a0 Z = true) : (Jvm.Cond.selects "java/util/ArrayList" ({ cls := "java/util/List", name := "add", desc := "(Ljava/lang/Object;)Z" } : Jvm.MethodName) ({ cls := "java/util/ArrayList", name := "add", desc := "(Ljava/lang/Object;)Z" } : Jvm.MethodName)).before a0 Z = true := hw _ (List.mem_of_getElem? (i := 81) rfl)
theorem wd80 {Z : State} {a0 : Array Value} (hw : ∀ d ∈ tables_1, d.before a0 Z = true) : (Jvm.Cond.interfaceMethod "java/util/List" "java/util/List" "add" "(Ljava/lang/Object;)Z").before a0 Z = true := hw _ (List.mem_of_getElem? (i := 80) rfl)
theorem wd84 {Z : State} {a0 : Array Value} (hw : ∀ d ∈ tables_1, d.before a0 Z = true) : (Jvm.Cond.unhidden "java/util/ArrayList" "add" "(Ljava/lang/Object;)Z").before a0 Z = true := hw _ (List.mem_of_getElem? (i := 84) rfl)
theorem wd85 {Z : State} {a0 : Array Value} (hw : ∀ d ∈ tables_1, d.before a0 Z = true) : (Jvm.Cond.castable "java/util/ArrayList" "java/util/List").before a0 Z = true := hw _ (List.mem_of_getElem? (i := 85) rfl)
theorem wd82 {Z : State} {a0 : Array Value} (hw : ∀ d ∈ tables_1, d.before a0 Z = true) : (Jvm.Cond.instanceMethod ({ cls := "java/util/ArrayList", name := "add", desc := "(Ljava/lang/Object;)Z" } : Jvm.MethodName)).before a0 Z = true := hw _ (List.mem_of_getElem? (i := 82) rfl)
theorem wd83 {Z : State} {a0 : Array Value} (hw : ∀ d ∈ tables_1, d.before a0 Z = true) : (Jvm.Cond.publicMethod ({ cls := "java/util/ArrayList", name := "add", desc := "(Ljava/lang/Object;)Z" } : Jvm.MethodName)).before a0 Z = true := hw _ (List.mem_of_getElem? (i := 83) rfl)
theorem wd79 {Z : State} {a0 : Array Value} (hw : ∀ d ∈ tables_1, d.before a0 Z = true) : (Jvm.Cond.declares ({ cls := "java/util/List", name := "add", desc := "(Ljava/lang/Object;)Z" } : Jvm.MethodName)).before a0 Z = true := hw _ (List.mem_of_getElem? (i := 79) rfl)
theorem d_prog_14_method_3_18 : decode prog_14_method_3_code 18 = .ok (.pop, 1) := by decide +kernel
theorem d_prog_14_method_3_19 : decode prog_14_method_3_code 19 = .ok (.return_, 1) := by decide +kernel
set_option maxRecDepth 65536 in
set_option maxHeartbeats 40000000 in
theorem m_aad {Z : State} {a0 : Array Value} (hw : ∀ d ∈ tables_1, d.before a0 Z = true) (a : Addr) (nm : Addr) (vl : Addr) (h0 : Heap) (n0 : Nat) (Z0 : n0 ≤ h0.size) (f : Addr) (g_f : n0 ≤ f) (e : Addr) (g_e : n0 ≤ e) (n_fe : f ≠ e) (mc z : Int32) (n : Nat) (hz : z.toInt = (n : Int)) (hn : n < 8) (g : Nat → Value) (E_f : Exa Z h0 f "java/util/ArrayList") (Fm_f : Fld Z h0 f "java/util/AbstractList" "modCount" "I" (.int mc)) (Fe_f : Fld Z h0 f "java/util/ArrayList" "elementData" "[Ljava/lang/Object;" (.ref e)) (Fs_f : Fld Z h0 f "java/util/ArrayList" "size" "I" (.int z)) (A_e : Arf Z h0 e (.object "java/lang/Object") 8 g) (O_e : Ocl Z h0 e "java/lang/Object") (Fl_a : Fld Z h0 a "com/example/cordon/cordon/http/Answer" "fields" "Ljava/util/List;" (.ref f)) : ∀ l, Does l Z (⟨"com/example/cordon/cordon/http/Answer", "add", "(Ljava/lang/String;Ljava/lang/String;)V"⟩ : MethodName) prog_14_method_3_code 3 none ({ frames := 3, cells := 1, slots := 2, locals := 40 } : Room) n0 #[(.ref a), (.ref nm), (.ref vl)] h0 (fun v h => v = none ∧ ∃ x : Addr, Keep h0 h [f, e] ∧ n0 ≤ x ∧ h0.size ≤ x ∧ Exa Z h f "java/util/ArrayList" ∧ Fld Z h f "java/util/AbstractList" "modCount" "I" (.int (mc + (1 : Int32))) ∧ Fld Z h f "java/util/ArrayList" "elementData" "[Ljava/lang/Object;" (.ref e) ∧ Fld Z h f "java/util/ArrayList" "size" "I" (.int (z + (1 : Int32))) ∧ Arf Z h e (.object "java/lang/Object") 8 (updV g n (.ref x)) ∧ Ocl Z h e "java/lang/Object" ∧ Exa Z h x "com/example/cordon/cordon/http/HttpHead$Field" ∧ Fld Z h x "com/example/cordon/cordon/http/HttpHead$Field" "name" "Ljava/lang/String;" (.ref nm)) := by
  intro l
  refine Does.of_wp (plainFor_of_name pn_6) (Ls := #[.val (.ref a), .val (.ref nm), .val (.ref vl)]) (fun m => by first | (simp [entryFrame, mkF, argsToLocals, Value.category]; done) | rfl | (rcases ref_cases hfv with rfl | ⟨_, rfl⟩ <;> rfl)) ?_
  intro C
  have K0 := Keep.refl h0 [f, e]
  refine WP.aloadN (pc' := 1) d_prog_14_method_3_0 rfl rfl rfl ?_
  refine WP.getF (pc' := 4) d_prog_14_method_3_1 rfl (host := "") (Or.inl (wd36 hw)) Via.refl Fl_a ?_
  refine WP.newO (cl' := 1) (sl' := 2) (pc' := 7) d_prog_14_method_3_4 rfl (wd62 hw) (wd63 hw) (wd64 hw) rfl rfl (by decide) (by decide) ?_
  intro h1 b1 g1 E1 A1 D1
  have ge2 : n0 ≤ b1 := by rw [g1]; exact Z0
  have sz3 : h0.size ≤ b1 := by rw [g1]; exact K0.1
  have ne4 : f ≠ b1 := by rw [g1]; exact Nat.ne_of_lt E_f.lt
  have ne5 : e ≠ b1 := by rw [g1]; exact Nat.ne_of_lt A_e.lt
  have E6 := E_f.ext E1
  have F7 := Fm_f.ext E1
  have F8 := Fe_f.ext E1
  have F9 := Fs_f.ext E1
  have V10 := A_e.ext E1
  have O11 := O_e.ext E1
  have K12 := K0.ext E1
  have Z13 : n0 ≤ h1.size := Nat.le_trans Z0 E1.1
  have F14 : Fld Z h1 b1 "com/example/cordon/cordon/http/HttpHead$Field" "name" "Ljava/lang/String;" .null := D1 (Or.inr (wd75 hw)) (ty := (.object "java/lang/String")) (by decide)
  have F15 : Fld Z h1 b1 "com/example/cordon/cordon/http/HttpHead$Field" "value" "Ljava/lang/String;" .null := D1 (Or.inr (wd77 hw)) (ty := (.object "java/lang/String")) (by decide)
  refine WP.dup (pc' := 8) d_prog_14_method_3_7 rfl rfl ?_
  refine WP.aloadN (pc' := 9) d_prog_14_method_3_8 rfl rfl rfl ?_
  refine WP.aloadN (pc' := 10) d_prog_14_method_3_9 rfl rfl rfl ?_
  refine WP.callI (a := b1) (argsL := [(.ref nm), (.ref vl)]) (rest := [(.ref b1), (.ref f)]) (wd := 2) (cl' := 1) (sl' := 2) (pc' := 13) d_prog_14_method_3_10 rfl rfl (wd65 hw) (wd66 hw) (wd64 hw) (wd67 hw) (by decide) (m_fin hw b1 nm vl h1 n0 Z13 ge2 A1 F14 F15) pd_7 rfl rfl rfl (Nat.le_of_eq rfl) (by decide) (by decide) rfl rfl (by decide) (by decide) ?_
  rintro v h16 ⟨rfl, K16, E16, Fn16, Fv16⟩
  have E17 := E6.keep K16
  have F18 := F7.keep K16 (ninS ne4 nin0)
  have F19 := F8.keep K16 (ninS ne4 nin0)
  have F20 := F9.keep K16 (ninS ne4 nin0)
  have V21 := V10.keep K16 (ninS ne5 nin0)
  have O22 := O11.keep K16
  have E23 := A1.keep K16
  have K24 := K12.trans K16 (allS (Or.inr sz3) all0)
  have Z25 : n0 ≤ h16.size := Nat.le_trans Z13 K16.1
  refine WP.castS (st' := [(.ref b1), (.ref f)]) rfl ?_
  refine WP.callF (a := f) (K := "java/util/ArrayList") (argsL := [(.ref b1)]) (rest := []) (wd := 0) (cl' := 1) (sl' := 2) (pc' := 18) d_prog_14_method_3_13 rfl (wd78 hw) (wd79 hw) (wd80 hw) (wd81 hw) (wd82 hw) (wd83 hw) (wd84 hw) (wd85 hw) (wd13 hw) (wd86 hw) (by decide) E17 (m_add1 hw f b1 h16 n0 Z25 g_f e g_e n_fe mc z n hz hn g E17 F18 F19 F20 V21 O22 E16) pd_8 rfl rfl rfl (Nat.le_of_eq rfl) (by decide) (by decide) rfl rfl (by decide) (by decide) ?_
  rintro v h26 ⟨rfl, K26, E26, Fm26, Fe26, Fs26, A26, O26⟩
  have E27 := E17.keep K26
  have O28 := O22.keep K26
  have E29 := E16.keep K26
  have F30 := Fn16.keep K26 (ninS (Ne.symm ne4) (ninS (Ne.symm ne5) nin0))
  have F31 := Fv16.keep K26 (ninS (Ne.symm ne4) (ninS (Ne.symm ne5) nin0))
  have K32 := K24.trans K26 (allS (Or.inl (by simp)) (allS (Or.inl (by simp)) all0))
  have Z33 : n0 ≤ h26.size := Nat.le_trans Z25 K26.1
  refine WP.castS (st' := [(.int (1 : Int32))]) rfl ?_
  refine WP.pop (pc' := 19) d_prog_14_method_3_18 rfl rfl ?_
  exact WP.vret d_prog_14_method_3_19 rfl (by decide) (by decide) ⟨rfl, _, K32, ge2, sz3, E26, Fm26, Fe26, Fs26, A26, O26, E29, F30⟩
theorem shr0 (x : Int32) : x >>> ((0 : Int32) &&& 31) = x := by
  rw [show ((0 : Int32) &&& 31) = 0 from by decide]; apply Int32.toBitVec_inj.mp; simp
theorem d_jdk_42_method_152_0 : decode jdk_42_method_152_code 0 = .ok (.getstatic 38, 3) := by decide +kernel
theorem d_jdk_42_method_152_3 : decode jdk_42_method_152_code 3 = .ok (.ifCond .eq 10, 3) := by decide +kernel
theorem d_jdk_42_method_152_6 : decode jdk_42_method_152_code 6 = .ok (.aload_n 0, 1) := by decide +kernel
theorem d_jdk_42_method_152_7 : decode jdk_42_method_152_code 7 = .ok (.getfield 15, 3) := by decide +kernel
theorem d_jdk_42_method_152_10 : decode jdk_42_method_152_code 10 = .ok (.goto 4, 3) := by decide +kernel
theorem d_jdk_42_method_152_14 : decode jdk_42_method_152_code 14 = .ok (.ireturn, 1) := by decide +kernel
set_option maxRecDepth 65536 in
set_option maxHeartbeats 40000000 in
theorem s_cod {Z : State} {a0 : Array Value} (hw : ∀ d ∈ tables_1, d.before a0 Z = true) (a : Addr) (h0 : Heap) (n0 : Nat) (E_a : Exa Z h0 a "java/lang/String") (C_a : Fld Z h0 a "java/lang/String" "coder" "B" (.int 0)) (cs : Int32) (S_CS : Sta Z h0 "java/lang/String" "COMPACT_STRINGS" "Z" (.int cs)) (hcs : ¬ cs = 0) : ∀ l, Does l Z (⟨"java/lang/String", "coder", "()B"⟩ : MethodName) jdk_42_method_152_code 1 (some .byte) ({ frames := 0, cells := 0, slots := 0, locals := 0 } : Room) n0 #[(.ref a)] h0 (fun v h => v = some (.int 0) ∧ h = h0) := by
  intro l
  refine Does.of_wp (plainFor_of_name pn_1) (Ls := #[.val (.ref a)]) (fun m => by first | (simp [entryFrame, mkF, argsToLocals, Value.category]; done) | rfl | (rcases ref_cases hfv with rfl | ⟨_, rfl⟩ <;> rfl)) ?_
  intro C
  refine WP.getS (pc' := 3) d_jdk_42_method_152_0 rfl (host := "") (Or.inl (wd108 hw)) Via.refl (S_CS) ?_
  have hc3 : ¬ cs = (0 : Int32) := hcs
  refine WP.ifc_eq (pc1 := 13) (pc2 := 6) d_jdk_42_method_152_3 (by decide) (by decide) rfl (fun k => absurd k hc3) (fun _ => ?_)
  refine WP.aloadN (pc' := 7) d_jdk_42_method_152_6 rfl rfl rfl ?_
  refine WP.getF (pc' := 10) d_jdk_42_method_152_7 rfl (host := "") (Or.inl (wd119 hw)) Via.refl C_a ?_
  refine WP.goto (pc' := 14) d_jdk_42_method_152_10 (by decide) (by decide) ?_
  refine WP.nret (t := .byte) d_jdk_42_method_152_14 rfl (by simp) rfl (by decide) (by decide) ⟨rfl, rfl⟩
theorem d_jdk_42_method_54_0 : decode jdk_42_method_54_code 0 = .ok (.aload_n 0, 1) := by decide +kernel
theorem d_jdk_42_method_54_1 : decode jdk_42_method_54_code 1 = .ok (.getfield 9, 3) := by decide +kernel
theorem d_jdk_42_method_54_4 : decode jdk_42_method_54_code 4 = .ok (.arraylength, 1) := by decide +kernel
theorem d_jdk_42_method_54_5 : decode jdk_42_method_54_code 5 = .ok (.aload_n 0, 1) := by decide +kernel
theorem d_jdk_42_method_54_6 : decode jdk_42_method_54_code 6 = .ok (.invokevirtual 335, 3) := by decide +kernel
theorem wd181 {Z : State} {a0 : Array Value} (hw : ∀ d ∈ tables_1, d.before a0 Z = true) : (Jvm.Cond.methodLink "java/lang/String" (335 : Nat) ({ cls := "java/lang/String", name := "coder", desc := "()B" } : Jvm.MethodName)).before a0 Z = true := hw _ (List.mem_of_getElem? (i := 181) rfl)
theorem wd185 {Z : State} {a0 : Array Value} (hw : ∀ d ∈ tables_1, d.before a0 Z = true) : (Jvm.Cond.code ({ cls := "java/lang/String", name := "coder", desc := "()B" } : Jvm.MethodName) jdk_42_method_152_code (1 : Nat) (Option.some Jvm.ClassFile.FieldType.byte)).before a0 Z = true := hw _ (List.mem_of_getElem? (i := 185) rfl)
theorem pd_9 : parseMethodDescriptor "()B" = some ⟨[], some .byte⟩ := by decide +kernel
theorem wd184 {Z : State} {a0 : Array Value} (hw : ∀ d ∈ tables_1, d.before a0 Z = true) : (Jvm.Cond.selects "java/lang/String" ({ cls := "java/lang/String", name := "coder", desc := "()B" } : Jvm.MethodName) ({ cls := "java/lang/String", name := "coder", desc := "()B" } : Jvm.MethodName)).before a0 Z = true := hw _ (List.mem_of_getElem? (i := 184) rfl)
theorem wd182 {Z : State} {a0 : Array Value} (hw : ∀ d ∈ tables_1, d.before a0 Z = true) : (Jvm.Cond.declares ({ cls := "java/lang/String", name := "coder", desc := "()B" } : Jvm.MethodName)).before a0 Z = true := hw _ (List.mem_of_getElem? (i := 182) rfl)
theorem wd183 {Z : State} {a0 : Array Value} (hw : ∀ d ∈ tables_1, d.before a0 Z = true) : (Jvm.Cond.instanceMethod ({ cls := "java/lang/String", name := "coder", desc := "()B" } : Jvm.MethodName)).before a0 Z = true := hw _ (List.mem_of_getElem? (i := 183) rfl)
theorem d_jdk_42_method_54_9 : decode jdk_42_method_54_code 9 = .ok (.ishr, 1) := by decide +kernel
theorem d_jdk_42_method_54_10 : decode jdk_42_method_54_code 10 = .ok (.ireturn, 1) := by decide +kernel
set_option maxRecDepth 65536 in
set_option maxHeartbeats 40000000 in
theorem s_len {Z : State} {a0 : Array Value} (hw : ∀ d ∈ tables_1, d.before a0 Z = true) (a : Addr) (h0 : Heap) (n0 : Nat) (b : Addr) (n : Nat) (g : Nat → Int32) (E_a : Exa Z h0 a "java/lang/String") (V_a : Fld Z h0 a "java/lang/String" "value" "[B" (.ref b)) (C_a : Fld Z h0 a "java/lang/String" "coder" "B" (.int 0)) (A_b : Ari Z h0 b .byte n g) (cs : Int32) (S_CS : Sta Z h0 "java/lang/String" "COMPACT_STRINGS" "Z" (.int cs)) (hcs : ¬ cs = 0) : ∀ l, Does l Z (⟨"java/lang/String", "length", "()I"⟩ : MethodName) jdk_42_method_54_code 1 (some .int) ({ frames := 1, cells := 0, slots := 0, locals := 13 } : Room) n0 #[(.ref a)] h0 (fun v h => v = some (.int (n : Nat).toInt32) ∧ h = h0) := by
  intro l
  refine Does.of_wp (plainFor_of_name pn_1) (Ls := #[.val (.ref a)]) (fun m => by first | (simp [entryFrame, mkF, argsToLocals, Value.category]; done) | rfl | (rcases ref_cases hfv with rfl | ⟨_, rfl⟩ <;> rfl)) ?_
  intro C
  refine WP.aloadN (pc' := 1) d_jdk_42_method_54_0 rfl rfl rfl ?_
  refine WP.getF (pc' := 4) d_jdk_42_method_54_1 rfl (host := "") (Or.inl (wd120 hw)) Via.refl V_a ?_
  refine WP.arraylengthI (z := (n : Nat).toInt32) (pc' := 5) d_jdk_42_method_54_4 rfl A_b rfl ?_
  refine WP.aloadN (pc' := 6) d_jdk_42_method_54_5 rfl rfl rfl ?_
  refine WP.callV (a := a) (K := "java/lang/String") (argsL := []) (rest := [(.int (n : Nat).toInt32)]) (wd := 1) (cl' := 0) (sl' := 0) (pc' := 9) d_jdk_42_method_54_6 rfl (wd181 hw) (wd182 hw) (nfS (wd184 hw) rfl) (wd184 hw) (wd183 hw) (wd49 hw) (wd185 hw) (by decide) E_a (s_cod hw a h0 n0 E_a C_a cs S_CS hcs) pd_9 rfl rfl rfl (Nat.le_of_eq rfl) (by decide) (by decide) rfl rfl (by decide) (by decide) ?_
  rintro v hh1 ⟨rfl, he1⟩
  rw [he1]
  refine WP.castS (st' := [(.int (0 : Int32)), (.int (n : Nat).toInt32)]) rfl ?_
  refine WP.ishr (pc' := 10) d_jdk_42_method_54_9 rfl ?_
  refine WP.iret d_jdk_42_method_54_10 rfl (by decide) (by decide) ⟨by rw [shr0], rfl⟩
theorem d_jdk_42_method_70_0 : decode jdk_42_method_70_code 0 = .ok (.aload_n 0, 1) := by decide +kernel
theorem d_jdk_42_method_70_1 : decode jdk_42_method_70_code 1 = .ok (.aload_n 1, 1) := by decide +kernel
theorem d_jdk_42_method_70_2 : decode jdk_42_method_70_code 2 = .ok (.if_acmp .ne 7, 3) := by decide +kernel
theorem d_jdk_42_method_70_9 : decode jdk_42_method_70_code 9 = .ok (.aload_n 1, 1) := by decide +kernel
theorem d_jdk_42_method_70_10 : decode jdk_42_method_70_code 10 = .ok (.ifnull 33, 3) := by decide +kernel
theorem d_jdk_42_method_70_13 : decode jdk_42_method_70_code 13 = .ok (.aload_n 1, 1) := by decide +kernel
theorem d_jdk_42_method_70_14 : decode jdk_42_method_70_code 14 = .ok (.invokevirtual 505, 3) := by decide +kernel
theorem wd176 {Z : State} {a0 : Array Value} (hw : ∀ d ∈ tables_1, d.before a0 Z = true) : (Jvm.Cond.methodLink "java/lang/String" (505 : Nat) ({ cls := "java/lang/String", name := "length", desc := "()I" } : Jvm.MethodName)).before a0 Z = true := hw _ (List.mem_of_getElem? (i := 176) rfl)
theorem wd180 {Z : State} {a0 : Array Value} (hw : ∀ d ∈ tables_1, d.before a0 Z = true) : (Jvm.Cond.code ({ cls := "java/lang/String", name := "length", desc := "()I" } : Jvm.MethodName) jdk_42_method_54_code (1 : Nat) (Option.some Jvm.ClassFile.FieldType.int)).before a0 Z = true := hw _ (List.mem_of_getElem? (i := 180) rfl)
theorem pd_10 : parseMethodDescriptor "()I" = some ⟨[], some .int⟩ := by decide +kernel
theorem wd179 {Z : State} {a0 : Array Value} (hw : ∀ d ∈ tables_1, d.before a0 Z = true) : (Jvm.Cond.selects "java/lang/String" ({ cls := "java/lang/String", name := "length", desc := "()I" } : Jvm.MethodName) ({ cls := "java/lang/String", name := "length", desc := "()I" } : Jvm.MethodName)).before a0 Z = true := hw _ (List.mem_of_getElem? (i := 179) rfl)
theorem wd177 {Z : State} {a0 : Array Value} (hw : ∀ d ∈ tables_1, d.before a0 Z = true) : (Jvm.Cond.declares ({ cls := "java/lang/String", name := "length", desc := "()I" } : Jvm.MethodName)).before a0 Z = true := hw _ (List.mem_of_getElem? (i := 177) rfl)
theorem wd178 {Z : State} {a0 : Array Value} (hw : ∀ d ∈ tables_1, d.before a0 Z = true) : (Jvm.Cond.instanceMethod ({ cls := "java/lang/String", name := "length", desc := "()I" } : Jvm.MethodName)).before a0 Z = true := hw _ (List.mem_of_getElem? (i := 178) rfl)
theorem d_jdk_42_method_70_17 : decode jdk_42_method_70_code 17 = .ok (.aload_n 0, 1) := by decide +kernel
theorem d_jdk_42_method_70_18 : decode jdk_42_method_70_code 18 = .ok (.invokevirtual 505, 3) := by decide +kernel
theorem d_jdk_42_method_70_21 : decode jdk_42_method_70_code 21 = .ok (.if_icmp .ne 22, 3) := by decide +kernel
theorem d_jdk_42_method_70_43 : decode jdk_42_method_70_code 43 = .ok (.iconst 0, 1) := by decide +kernel
theorem d_jdk_42_method_70_44 : decode jdk_42_method_70_code 44 = .ok (.ireturn, 1) := by decide +kernel
set_option maxRecDepth 65536 in
set_option maxHeartbeats 40000000 in
theorem m_eic {Z : State} {a0 : Array Value} (hw : ∀ d ∈ tables_1, d.before a0 Z = true) (a : Addr) (o : Addr) (h0 : Heap) (n0 : Nat) (b c : Addr) (n m : Nat) (g g' : Nat → Int32) (E_a : Exa Z h0 a "java/lang/String") (V_a : Fld Z h0 a "java/lang/String" "value" "[B" (.ref b)) (C_a : Fld Z h0 a "java/lang/String" "coder" "B" (.int 0)) (A_b : Ari Z h0 b .byte n g) (E_o : Exa Z h0 o "java/lang/String") (V_o : Fld Z h0 o "java/lang/String" "value" "[B" (.ref c)) (C_o : Fld Z h0 o "java/lang/String" "coder" "B" (.int 0)) (A_c : Ari Z h0 c .byte m g') (hnm : n ≠ m) (hn : n ≤ 10000) (hm : m ≤ 10000) (cs : Int32) (S_CS : Sta Z h0 "java/lang/String" "COMPACT_STRINGS" "Z" (.int cs)) (hcs : ¬ cs = 0) : ∀ l, Does l Z (⟨"java/lang/String", "equalsIgnoreCase", "(Ljava/lang/String;)Z"⟩ : MethodName) jdk_42_method_70_code 2 (some .boolean) ({ frames := 2, cells := 0, slots := 0, locals := 26 } : Room) n0 #[(.ref a), (.ref o)] h0 (fun v h => v = some (.int 0) ∧ h = h0) := by
  intro l
  refine Does.of_wp (plainFor_of_name pn_1) (Ls := #[.val (.ref a), .val (.ref o)]) (fun m => by first | (simp [entryFrame, mkF, argsToLocals, Value.category]; done) | rfl | (rcases ref_cases hfv with rfl | ⟨_, rfl⟩ <;> rfl)) ?_
  intro C
  refine WP.aloadN (pc' := 1) d_jdk_42_method_70_0 rfl rfl rfl ?_
  refine WP.aloadN (pc' := 2) d_jdk_42_method_70_1 rfl rfl rfl ?_
  have hc2 : ¬ ((.ref a) : Value) = (.ref o) := fun q => len_ne V_a V_o A_b A_c hnm (Value.ref.inj q)
  refine WP.acmp_ne (pc1 := 9) (pc2 := 5) d_jdk_42_method_70_2 rfl rfl (by decide) (by decide) rfl (fun _ => ?_) (fun k => absurd k hc2)
  refine WP.aloadN (pc' := 10) d_jdk_42_method_70_9 rfl rfl rfl ?_
  refine WP.ifnullN (pc' := 13) d_jdk_42_method_70_10 rfl ?_
  refine WP.aloadN (pc' := 14) d_jdk_42_method_70_13 rfl rfl rfl ?_
  refine WP.callV (a := o) (K := "java/lang/String") (argsL := []) (rest := []) (wd := 0) (cl' := 0) (sl' := 0) (pc' := 17) d_jdk_42_method_70_14 rfl (wd176 hw) (wd177 hw) (nfS (wd179 hw) rfl) (wd179 hw) (wd178 hw) (wd49 hw) (wd180 hw) (by decide) E_o (s_len hw o h0 n0 c m g' E_o V_o C_o A_c cs S_CS hcs) pd_10 rfl rfl rfl (Nat.le_of_eq rfl) (by decide) (by decide) rfl rfl (by decide) (by decide) ?_
  rintro v hh1 ⟨rfl, he1⟩
  rw [he1]
  refine WP.castS (st' := [(.int (m : Nat).toInt32)]) rfl ?_
  refine WP.aloadN (pc' := 18) d_jdk_42_method_70_17 rfl rfl rfl ?_
  refine WP.callV (a := a) (K := "java/lang/String") (argsL := []) (rest := [(.int (m : Nat).toInt32)]) (wd := 1) (cl' := 0) (sl' := 0) (pc' := 21) d_jdk_42_method_70_18 rfl (wd176 hw) (wd177 hw) (nfS (wd179 hw) rfl) (wd179 hw) (wd178 hw) (wd49 hw) (wd180 hw) (by decide) E_a (s_len hw a h0 n0 b n g E_a V_a C_a A_b cs S_CS hcs) pd_10 rfl rfl rfl (Nat.le_of_eq rfl) (by decide) (by decide) rfl rfl (by decide) (by decide) ?_
  rintro v hh2 ⟨rfl, he2⟩
  rw [he2]
  refine WP.castS (st' := [(.int (n : Nat).toInt32), (.int (m : Nat).toInt32)]) rfl ?_
  have hc21 : ¬ (m : Nat).toInt32 = (n : Nat).toInt32 := natI_ne hm hn (Ne.symm hnm)
  refine WP.icmp_ne (pc1 := 43) (pc2 := 24) d_jdk_42_method_70_21 (by decide) (by decide) rfl (fun _ => ?_) (fun k => absurd k hc21)
  refine WP.iconst (pc' := 44) d_jdk_42_method_70_43 rfl (z := 0) rfl ?_
  refine WP.nret (t := .boolean) d_jdk_42_method_70_44 rfl (by simp) rfl (by decide) (by decide) ⟨rfl, rfl⟩
theorem d_prog_26_method_5_0 : decode prog_26_method_5_code 0 = .ok (.aload_n 0, 1) := by decide +kernel
theorem d_prog_26_method_5_1 : decode prog_26_method_5_code 1 = .ok (.getfield 7, 3) := by decide +kernel
theorem d_prog_26_method_5_4 : decode prog_26_method_5_code 4 = .ok (.areturn, 1) := by decide +kernel
set_option maxRecDepth 65536 in
set_option maxHeartbeats 40000000 in
theorem m_fnm {Z : State} {a0 : Array Value} (hw : ∀ d ∈ tables_1, d.before a0 Z = true) (a : Addr) (h0 : Heap) (n0 : Nat) (s : Addr) (Fn_a : Fld Z h0 a "com/example/cordon/cordon/http/HttpHead$Field" "name" "Ljava/lang/String;" (.ref s)) : ∀ l, Does l Z (⟨"com/example/cordon/cordon/http/HttpHead$Field", "name", "()Ljava/lang/String;"⟩ : MethodName) prog_26_method_5_code 1 (some (.object "java/lang/String")) ({ frames := 0, cells := 0, slots := 0, locals := 0 } : Room) n0 #[(.ref a)] h0 (fun v h => v = some (.ref s) ∧ h = h0) := by
  intro l
  refine Does.of_wp (plainFor_of_name pn_7) (Ls := #[.val (.ref a)]) (fun m => by first | (simp [entryFrame, mkF, argsToLocals, Value.category]; done) | rfl | (rcases ref_cases hfv with rfl | ⟨_, rfl⟩ <;> rfl)) ?_
  intro C
  refine WP.aloadN (pc' := 1) d_prog_26_method_5_0 rfl rfl rfl ?_
  refine WP.getF (pc' := 4) d_prog_26_method_5_1 rfl (host := "") (Or.inl (wd74 hw)) Via.refl Fn_a ?_
  refine WP.aret d_prog_26_method_5_4 rfl rfl rfl (by decide) (by decide) ⟨rfl, rfl⟩
theorem d_prog_14_method_13_0 : decode prog_14_method_13_code 0 = .ok (.aload_n 1, 1) := by decide +kernel
theorem d_prog_14_method_13_1 : decode prog_14_method_13_code 1 = .ok (.invokevirtual 163, 3) := by decide +kernel
theorem wd166 {Z : State} {a0 : Array Value} (hw : ∀ d ∈ tables_1, d.before a0 Z = true) : (Jvm.Cond.methodLink "com/example/cordon/cordon/http/Answer" (163 : Nat) ({ cls := "com/example/cordon/cordon/http/HttpHead$Field", name := "name", desc := "()Ljava/lang/String;" } : Jvm.MethodName)).before a0 Z = true := hw _ (List.mem_of_getElem? (i := 166) rfl)
theorem wd170 {Z : State} {a0 : Array Value} (hw : ∀ d ∈ tables_1, d.before a0 Z = true) : (Jvm.Cond.code ({ cls := "com/example/cordon/cordon/http/HttpHead$Field", name := "name", desc := "()Ljava/lang/String;" } : Jvm.MethodName) prog_26_method_5_code (1 : Nat) (Option.some (Jvm.ClassFile.FieldType.object "java/lang/String"))).before a0 Z = true := hw _ (List.mem_of_getElem? (i := 170) rfl)
theorem pd_11 : parseMethodDescriptor "()Ljava/lang/String;" = some ⟨[], some (.object "java/lang/String")⟩ := by decide +kernel
theorem wd169 {Z : State} {a0 : Array Value} (hw : ∀ d ∈ tables_1, d.before a0 Z = true) : (Jvm.Cond.selects "com/example/cordon/cordon/http/HttpHead$Field" ({ cls := "com/example/cordon/cordon/http/HttpHead$Field", name := "name", desc := "()Ljava/lang/String;" } : Jvm.MethodName) ({ cls := "com/example/cordon/cordon/http/HttpHead$Field", name := "name", desc := "()Ljava/lang/String;" } : Jvm.MethodName)).before a0 Z = true := hw _ (List.mem_of_getElem? (i := 169) rfl)
theorem wd167 {Z : State} {a0 : Array Value} (hw : ∀ d ∈ tables_1, d.before a0 Z = true) : (Jvm.Cond.declares ({ cls := "com/example/cordon/cordon/http/HttpHead$Field", name := "name", desc := "()Ljava/lang/String;" } : Jvm.MethodName)).before a0 Z = true := hw _ (List.mem_of_getElem? (i := 167) rfl)
theorem wd168 {Z : State} {a0 : Array Value} (hw : ∀ d ∈ tables_1, d.before a0 Z = true) : (Jvm.Cond.instanceMethod ({ cls := "com/example/cordon/cordon/http/HttpHead$Field", name := "name", desc := "()Ljava/lang/String;" } : Jvm.MethodName)).before a0 Z = true := hw _ (List.mem_of_getElem? (i := 168) rfl)
theorem d_prog_14_method_13_4 : decode prog_14_method_13_code 4 = .ok (.aload_n 0, 1) := by decide +kernel
theorem d_prog_14_method_13_5 : decode prog_14_method_13_code 5 = .ok (.invokevirtual 233, 3) := by decide +kernel
theorem wd171 {Z : State} {a0 : Array Value} (hw : ∀ d ∈ tables_1, d.before a0 Z = true) : (Jvm.Cond.methodLink "com/example/cordon/cordon/http/Answer" (233 : Nat) ({ cls := "java/lang/String", name := "equalsIgnoreCase", desc := "(Ljava/lang/String;)Z" } : Jvm.MethodName)).before a0 Z = true := hw _ (List.mem_of_getElem? (i := 171) rfl)
theorem wd175 {Z : State} {a0 : Array Value} (hw : ∀ d ∈ tables_1, d.before a0 Z = true) : (Jvm.Cond.code ({ cls := "java/lang/String", name := "equalsIgnoreCase", desc := "(Ljava/lang/String;)Z" } : Jvm.MethodName) jdk_42_method_70_code (2 : Nat) (Option.some Jvm.ClassFile.FieldType.boolean)).before a0 Z = true := hw _ (List.mem_of_getElem? (i := 175) rfl)
theorem pd_12 : parseMethodDescriptor "(Ljava/lang/String;)Z" = some ⟨[(.object "java/lang/String")], some .boolean⟩ := by decide +kernel
theorem wd174 {Z : State} {a0 : Array Value} (hw : ∀ d ∈ tables_1, d.before a0 Z = true) : (Jvm.Cond.selects "java/lang/String" ({ cls := "java/lang/String", name := "equalsIgnoreCase", desc := "(Ljava/lang/String;)Z" } : Jvm.MethodName) ({ cls := "java/lang/String", name := "equalsIgnoreCase", desc := "(Ljava/lang/String;)Z" } : Jvm.MethodName)).before a0 Z = true := hw _ (List.mem_of_getElem? (i := 174) rfl)
theorem wd172 {Z : State} {a0 : Array Value} (hw : ∀ d ∈ tables_1, d.before a0 Z = true) : (Jvm.Cond.declares ({ cls := "java/lang/String", name := "equalsIgnoreCase", desc := "(Ljava/lang/String;)Z" } : Jvm.MethodName)).before a0 Z = true := hw _ (List.mem_of_getElem? (i := 172) rfl)
theorem wd173 {Z : State} {a0 : Array Value} (hw : ∀ d ∈ tables_1, d.before a0 Z = true) : (Jvm.Cond.instanceMethod ({ cls := "java/lang/String", name := "equalsIgnoreCase", desc := "(Ljava/lang/String;)Z" } : Jvm.MethodName)).before a0 Z = true := hw _ (List.mem_of_getElem? (i := 173) rfl)
theorem d_prog_14_method_13_8 : decode prog_14_method_13_code 8 = .ok (.ireturn, 1) := by decide +kernel
set_option maxRecDepth 65536 in
set_option maxHeartbeats 40000000 in
theorem m_lam {Z : State} {a0 : Array Value} (hw : ∀ d ∈ tables_1, d.before a0 Z = true) (nm : Addr) (x : Addr) (h0 : Heap) (n0 : Nat) (s : Addr) (b c : Addr) (n m : Nat) (g g' : Nat → Int32) (E_nm : Exa Z h0 nm "java/lang/String") (V_nm : Fld Z h0 nm "java/lang/String" "value" "[B" (.ref b)) (C_nm : Fld Z h0 nm "java/lang/String" "coder" "B" (.int 0)) (A_b : Ari Z h0 b .byte n g) (E_x : Exa Z h0 x "com/example/cordon/cordon/http/HttpHead$Field") (Fn_x : Fld Z h0 x "com/example/cordon/cordon/http/HttpHead$Field" "name" "Ljava/lang/String;" (.ref s)) (E_s : Exa Z h0 s "java/lang/String") (V_s : Fld Z h0 s "java/lang/String" "value" "[B" (.ref c)) (C_s : Fld Z h0 s "java/lang/String" "coder" "B" (.int 0)) (A_c : Ari Z h0 c .byte m g') (hnm : n ≠ m) (hn : n ≤ 10000) (hm : m ≤ 10000) (cs : Int32) (S_CS : Sta Z h0 "java/lang/String" "COMPACT_STRINGS" "Z" (.int cs)) (hcs : ¬ cs = 0) : ∀ l, Does l Z (⟨"com/example/cordon/cordon/http/Answer", "lambda$set$0", "(Ljava/lang/String;Lcom/example/cordon/cordon/http/HttpHead$Field;)Z"⟩ : MethodName) prog_14_method_13_code 2 (some .boolean) ({ frames := 3, cells := 0, slots := 0, locals := 39 } : Room) n0 #[(.ref nm), (.ref x)] h0 (fun v h => v = some (.int 0) ∧ h = h0) := by
  intro l
  refine Does.of_wp (plainFor_of_name pn_6) (Ls := #[.val (.ref nm), .val (.ref x)]) (fun m => by first | (simp [entryFrame, mkF, argsToLocals, Value.category]; done) | rfl | (rcases ref_cases hfv with rfl | ⟨_, rfl⟩ <;> rfl)) ?_
  intro C
  refine WP.aloadN (pc' := 1) d_prog_14_method_13_0 rfl rfl rfl ?_
  refine WP.callV (a := x) (K := "com/example/cordon/cordon/http/HttpHead$Field") (argsL := []) (rest := []) (wd := 0) (cl' := 0) (sl' := 0) (pc' := 4) d_prog_14_method_13_1 rfl (wd166 hw) (wd167 hw) (nfS (wd169 hw) rfl) (wd169 hw) (wd168 hw) (wd64 hw) (wd170 hw) (by decide) E_x (m_fnm hw x h0 n0 s Fn_x) pd_11 rfl rfl rfl (Nat.le_of_eq rfl) (by decide) (by decide) rfl rfl (by decide) (by decide) ?_
  rintro v hh1 ⟨rfl, he1⟩
  rw [he1]
  refine WP.castS (st' := [(.ref s)]) rfl ?_
  refine WP.aloadN (pc' := 5) d_prog_14_method_13_4 rfl rfl rfl ?_
  refine WP.callV (a := s) (K := "java/lang/String") (argsL := [(.ref nm)]) (rest := []) (wd := 0) (cl' := 0) (sl' := 0) (pc' := 8) d_prog_14_method_13_5 rfl (wd171 hw) (wd172 hw) (nfS (wd174 hw) rfl) (wd174 hw) (wd173 hw) (wd49 hw) (wd175 hw) (by decide) E_s (m_eic hw s nm h0 n0 c b m n g' g E_s V_s C_s A_c E_nm V_nm C_nm A_b (Ne.symm hnm) hm hn cs S_CS hcs) pd_12 rfl rfl rfl (Nat.le_of_eq rfl) (by decide) (by decide) rfl rfl (by decide) (by decide) ?_
  rintro v hh2 ⟨rfl, he2⟩
  rw [he2]
  refine WP.castS (st' := [(.int (0 : Int32))]) rfl ?_
  refine WP.nret (t := .boolean) d_prog_14_method_13_8 rfl (by simp) rfl (by decide) (by decide) ⟨rfl, rfl⟩
theorem d_jdk_38_method_19_0 : decode jdk_38_method_19_code 0 = .ok (.aload_n 0, 1) := by decide +kernel
theorem d_jdk_38_method_19_1 : decode jdk_38_method_19_code 1 = .ok (.iload_n 1, 1) := by decide +kernel
theorem d_jdk_38_method_19_2 : decode jdk_38_method_19_code 2 = .ok (.aaload, 1) := by decide +kernel
theorem d_jdk_38_method_19_3 : decode jdk_38_method_19_code 3 = .ok (.areturn, 1) := by decide +kernel
set_option maxRecDepth 65536 in
set_option maxHeartbeats 40000000 in
theorem m_eat {Z : State} {a0 : Array Value} (hw : ∀ d ∈ tables_1, d.before a0 Z = true) (i : Int32) (h0 : Heap) (n0 : Nat) (e : Addr) (g : Nat → Value) (A_e : Arf Z h0 e (.object "java/lang/Object") 8 g) (I : Nat) (hi : i.toInt = (I : Int)) (hl : I < 8) (x : Addr) (hg : g I = .ref x) : ∀ l, Does l Z (⟨"java/util/ArrayList", "elementAt", "([Ljava/lang/Object;I)Ljava/lang/Object;"⟩ : MethodName) jdk_38_method_19_code 2 (some (.object "java/lang/Object")) ({ frames := 0, cells := 0, slots := 0, locals := 0 } : Room) n0 #[(.ref e), (.int i)] h0 (fun v h => v = some (.ref x) ∧ h = h0) := by
  intro l
  refine Does.of_wp (plainFor_of_name pn_5) (Ls := #[.val (.ref e), .val (.int i)]) (fun m => by first | (simp [entryFrame, mkF, argsToLocals, Value.category]; done) | rfl | (rcases ref_cases hfv with rfl | ⟨_, rfl⟩ <;> rfl)) ?_
  intro C
  refine WP.aloadN (pc' := 1) d_jdk_38_method_19_0 rfl rfl rfl ?_
  refine WP.iloadN (pc' := 2) d_jdk_38_method_19_1 rfl rfl ?_
  refine WP.aaload (I) (pc' := 3) d_jdk_38_method_19_2 rfl A_e rfl hi hl hg ?_
  refine WP.aret d_jdk_38_method_19_3 rfl rfl rfl (by decide) (by decide) ⟨rfl, rfl⟩
theorem d_jdk_31_method_10_0 : decode jdk_31_method_10_code 0 = .ok (.aload_n 0, 1) := by decide +kernel
theorem d_jdk_31_method_10_1 : decode jdk_31_method_10_code 1 = .ok (.ifnonnull 11, 3) := by decide +kernel
theorem d_jdk_31_method_10_12 : decode jdk_31_method_10_code 12 = .ok (.aload_n 0, 1) := by decide +kernel
theorem d_jdk_31_method_10_13 : decode jdk_31_method_10_code 13 = .ok (.areturn, 1) := by decide +kernel
theorem pn_8 : plainName "java/util/Objects" = true := by first | (simp [plainName, overriddenIn]; done) | decide +kernel
set_option maxRecDepth 65536 in
set_option maxHeartbeats 40000000 in
theorem m_rnn {Z : State} {a0 : Array Value} (hw : ∀ d ∈ tables_1, d.before a0 Z = true) (q : Addr) (h0 : Heap) (n0 : Nat)  : ∀ l, Does l Z (⟨"java/util/Objects", "requireNonNull", "(Ljava/lang/Object;)Ljava/lang/Object;"⟩ : MethodName) jdk_31_method_10_code 1 (some (.object "java/lang/Object")) ({ frames := 0, cells := 0, slots := 0, locals := 0 } : Room) n0 #[(.ref q)] h0 (fun v h => v = some (.ref q) ∧ h = h0) := by
  intro l
  refine Does.of_wp (plainFor_of_name pn_8) (Ls := #[.val (.ref q)]) (fun m => by first | (simp [entryFrame, mkF, argsToLocals, Value.category]; done) | rfl | (rcases ref_cases hfv with rfl | ⟨_, rfl⟩ <;> rfl)) ?_
  intro C
  refine WP.aloadN (pc' := 1) d_jdk_31_method_10_0 rfl rfl rfl ?_
  refine WP.ifnonnullY (pc' := 12) d_jdk_31_method_10_1 (by decide) (by decide) ?_
  refine WP.aloadN (pc' := 13) d_jdk_31_method_10_12 rfl rfl rfl ?_
  refine WP.aret d_jdk_31_method_10_13 rfl rfl rfl (by decide) (by decide) ⟨rfl, rfl⟩
theorem d_jdk_38_method_63_0 : decode jdk_38_method_63_code 0 = .ok (.aload_n 1, 1) := by decide +kernel
theorem d_jdk_38_method_63_1 : decode jdk_38_method_63_code 1 = .ok (.invokestatic 213, 3) := by decide +kernel
theorem wd153 {Z : State} {a0 : Array Value} (hw : ∀ d ∈ tables_1, d.before a0 Z = true) : (Jvm.Cond.methodLink "java/util/ArrayList" (213 : Nat) ({ cls := "java/util/Objects", name := "requireNonNull", desc := "(Ljava/lang/Object;)Ljava/lang/Object;" } : Jvm.MethodName)).before a0 Z = true := hw _ (List.mem_of_getElem? (i := 153) rfl)
theorem wd156 {Z : State} {a0 : Array Value} (hw : ∀ d ∈ tables_1, d.before a0 Z = true) : (Jvm.Cond.code ({ cls := "java/util/Objects", name := "requireNonNull", desc := "(Ljava/lang/Object;)Ljava/lang/Object;" } : Jvm.MethodName) jdk_31_method_10_code (1 : Nat) (Option.some (Jvm.ClassFile.FieldType.object "java/lang/Object"))).before a0 Z = true := hw _ (List.mem_of_getElem? (i := 156) rfl)
theorem wd155 {Z : State} {a0 : Array Value} (hw : ∀ d ∈ tables_1, d.before a0 Z = true) : (Jvm.Cond.initialized "java/util/Objects").before a0 Z = true := hw _ (List.mem_of_getElem? (i := 155) rfl)
theorem pd_13 : parseMethodDescriptor "(Ljava/lang/Object;)Ljava/lang/Object;" = some ⟨[(.object "java/lang/Object")], some (.object "java/lang/Object")⟩ := by decide +kernel
theorem wd154 {Z : State} {a0 : Array Value} (hw : ∀ d ∈ tables_1, d.before a0 Z = true) : (Jvm.Cond.static ({ cls := "java/util/Objects", name := "requireNonNull", desc := "(Ljava/lang/Object;)Ljava/lang/Object;" } : Jvm.MethodName)).before a0 Z = true := hw _ (List.mem_of_getElem? (i := 154) rfl)
theorem d_jdk_38_method_63_4 : decode jdk_38_method_63_code 4 = .ok (.pop, 1) := by decide +kernel
theorem d_jdk_38_method_63_5 : decode jdk_38_method_63_code 5 = .ok (.aload_n 0, 1) := by decide +kernel
theorem d_jdk_38_method_63_6 : decode jdk_38_method_63_code 6 = .ok (.getfield 63, 3) := by decide +kernel
theorem d_jdk_38_method_63_9 : decode jdk_38_method_63_code 9 = .ok (.istore 4, 2) := by decide +kernel
theorem d_jdk_38_method_63_11 : decode jdk_38_method_63_code 11 = .ok (.aload_n 0, 1) := by decide +kernel
theorem d_jdk_38_method_63_12 : decode jdk_38_method_63_code 12 = .ok (.getfield 9, 3) := by decide +kernel
theorem d_jdk_38_method_63_15 : decode jdk_38_method_63_code 15 = .ok (.astore 5, 2) := by decide +kernel
theorem d_jdk_38_method_63_17 : decode jdk_38_method_63_code 17 = .ok (.iload_n 2, 1) := by decide +kernel
theorem d_jdk_38_method_63_18 : decode jdk_38_method_63_code 18 = .ok (.iload_n 3, 1) := by decide +kernel
theorem d_jdk_38_method_63_19 : decode jdk_38_method_63_code 19 = .ok (.if_icmp .ge 24, 3) := by decide +kernel
theorem d_jdk_38_method_63_43 : decode jdk_38_method_63_code 43 = .ok (.iload_n 2, 1) := by decide +kernel
theorem d_jdk_38_method_63_44 : decode jdk_38_method_63_code 44 = .ok (.iload_n 3, 1) := by decide +kernel
theorem d_jdk_38_method_63_45 : decode jdk_38_method_63_code 45 = .ok (.if_icmp .ge 140, 3) := by decide +kernel
theorem d_jdk_38_method_63_185 : decode jdk_38_method_63_code 185 = .ok (.aload_n 0, 1) := by decide +kernel
theorem d_jdk_38_method_63_186 : decode jdk_38_method_63_code 186 = .ok (.getfield 63, 3) := by decide +kernel
theorem d_jdk_38_method_63_189 : decode jdk_38_method_63_code 189 = .ok (.iload 4, 2) := by decide +kernel
theorem d_jdk_38_method_63_191 : decode jdk_38_method_63_code 191 = .ok (.if_icmp .eq 11, 3) := by decide +kernel
theorem d_jdk_38_method_63_202 : decode jdk_38_method_63_code 202 = .ok (.iconst 0, 1) := by decide +kernel
theorem d_jdk_38_method_63_203 : decode jdk_38_method_63_code 203 = .ok (.ireturn, 1) := by decide +kernel
theorem d_jdk_38_method_63_22 : decode jdk_38_method_63_code 22 = .ok (.aload_n 1, 1) := by decide +kernel
theorem d_jdk_38_method_63_23 : decode jdk_38_method_63_code 23 = .ok (.aload 5, 2) := by decide +kernel
theorem d_jdk_38_method_63_25 : decode jdk_38_method_63_code 25 = .ok (.iload_n 2, 1) := by decide +kernel
theorem d_jdk_38_method_63_26 : decode jdk_38_method_63_code 26 = .ok (.invokestatic 281, 3) := by decide +kernel
theorem wd157 {Z : State} {a0 : Array Value} (hw : ∀ d ∈ tables_1, d.before a0 Z = true) : (Jvm.Cond.methodLink "java/util/ArrayList" (281 : Nat) ({ cls := "java/util/ArrayList", name := "elementAt", desc := "([Ljava/lang/Object;I)Ljava/lang/Object;" } : Jvm.MethodName)).before a0 Z = true := hw _ (List.mem_of_getElem? (i := 157) rfl)
theorem wd159 {Z : State} {a0 : Array Value} (hw : ∀ d ∈ tables_1, d.before a0 Z = true) : (Jvm.Cond.code ({ cls := "java/util/ArrayList", name := "elementAt", desc := "([Ljava/lang/Object;I)Ljava/lang/Object;" } : Jvm.MethodName) jdk_38_method_19_code (2 : Nat) (Option.some (Jvm.ClassFile.FieldType.object "java/lang/Object"))).before a0 Z = true := hw _ (List.mem_of_getElem? (i := 159) rfl)
theorem pd_14 : parseMethodDescriptor "([Ljava/lang/Object;I)Ljava/lang/Object;" = some ⟨[(.array (.object "java/lang/Object")), .int], some (.object "java/lang/Object")⟩ := by decide +kernel
theorem wd158 {Z : State} {a0 : Array Value} (hw : ∀ d ∈ tables_1, d.before a0 Z = true) : (Jvm.Cond.static ({ cls := "java/util/ArrayList", name := "elementAt", desc := "([Ljava/lang/Object;I)Ljava/lang/Object;" } : Jvm.MethodName)).before a0 Z = true := hw _ (List.mem_of_getElem? (i := 158) rfl)
theorem wd160 {Z : State} {a0 : Array Value} (hw : ∀ d ∈ tables_1, d.before a0 Z = true) : (Jvm.Cond.methodLink "java/util/ArrayList" (299 : Nat) ({ cls := "java/util/function/Predicate", name := "test", desc := "(Ljava/lang/Object;)Z" } : Jvm.MethodName)).before a0 Z = true := hw _ (List.mem_of_getElem? (i := 160) rfl)
theorem d_jdk_38_method_63_29 : decode jdk_38_method_63_code 29 = .ok (.invokeinterface 299 2, 5) := by decide +kernel
theorem wd161 {Z : State} {a0 : Array Value} (hw : ∀ d ∈ tables_1, d.before a0 Z = true) : (Jvm.Cond.declares ({ cls := "java/util/function/Predicate", name := "test", desc := "(Ljava/lang/Object;)Z" } : Jvm.MethodName)).before a0 Z = true := hw _ (List.mem_of_getElem? (i := 161) rfl)
theorem wd162 {Z : State} {a0 : Array Value} (hw : ∀ d ∈ tables_1, d.before a0 Z = true) : (Jvm.Cond.interfaceMethod "java/util/function/Predicate" "java/util/function/Predicate" "test" "(Ljava/lang/Object;)Z").before a0 Z = true := hw _ (List.mem_of_getElem? (i := 162) rfl)
theorem wd164 {Z : State} {a0 : Array Value} (hw : ∀ d ∈ tables_1, d.before a0 Z = true) : (Jvm.Cond.static ({ cls := "com/example/cordon/cordon/http/Answer", name := "lambda$set$0", desc := "(Ljava/lang/String;Lcom/example/cordon/cordon/http/HttpHead$Field;)Z" } : Jvm.MethodName)).before a0 Z = true := hw _ (List.mem_of_getElem? (i := 164) rfl)
theorem wd2 {Z : State} {a0 : Array Value} (hw : ∀ d ∈ tables_1, d.before a0 Z = true) : (Jvm.Cond.initialized "com/example/cordon/cordon/http/Answer").before a0 Z = true := hw _ (List.mem_of_getElem? (i := 2) rfl)
theorem wd165 {Z : State} {a0 : Array Value} (hw : ∀ d ∈ tables_1, d.before a0 Z = true) : (Jvm.Cond.code ({ cls := "com/example/cordon/cordon/http/Answer", name := "lambda$set$0", desc := "(Ljava/lang/String;Lcom/example/cordon/cordon/http/HttpHead$Field;)Z" } : Jvm.MethodName) prog_14_method_13_code (2 : Nat) (Option.some Jvm.ClassFile.FieldType.boolean)).before a0 Z = true := hw _ (List.mem_of_getElem? (i := 165) rfl)
theorem wd139 {Z : State} {a0 : Array Value} (hw : ∀ d ∈ tables_1, d.before a0 Z = true) : (Jvm.Cond.instantiable "java/lang/Object" (0 : Nat)).before a0 Z = true := hw _ (List.mem_of_getElem? (i := 139) rfl)
theorem pd_15 : parseMethodDescriptor "(Ljava/lang/String;Lcom/example/cordon/cordon/http/HttpHead$Field;)Z" = some ⟨[(.object "java/lang/String"), (.object "com/example/cordon/cordon/http/HttpHead$Field")], some .boolean⟩ := by decide +kernel
theorem d_jdk_38_method_63_34 : decode jdk_38_method_63_code 34 = .ok (.ifCond .ne 9, 3) := by decide +kernel
theorem d_jdk_38_method_63_37 : decode jdk_38_method_63_code 37 = .ok (.iinc 2 1, 3) := by decide +kernel
theorem d_jdk_38_method_63_40 : decode jdk_38_method_63_code 40 = .ok (.goto (-23), 3) := by decide +kernel
set_option maxRecDepth 65536 in
set_option maxHeartbeats 40000000 in
theorem m_rif3 {Z : State} {a0 : Array Value} (hw : ∀ d ∈ tables_1, d.before a0 Z = true) (a : Addr) (q : Addr) (h0 : Heap) (n0 : Nat) (nm bn : Addr) (L : Nat) (gn : Nat → Int32) (E_nm : Exa Z h0 nm "java/lang/String") (V_nm : Fld Z h0 nm "java/lang/String" "value" "[B" (.ref bn)) (C_nm : Fld Z h0 nm "java/lang/String" "coder" "B" (.int 0)) (A_bn : Ari Z h0 bn .byte L gn) (hL : L ≤ 10000) (L_q : Lam Z h0 q "com/example/cordon/cordon/http/Answer" sgm [.ref nm]) (e : Addr) (mc z : Int32) (n : Nat) (hz : z.toInt = (n : Int)) (hn : n < 8) (g : Nat → Value) (E_a : Exa Z h0 a "java/util/ArrayList") (Fm_a : Fld Z h0 a "java/util/AbstractList" "modCount" "I" (.int mc)) (Fe_a : Fld Z h0 a "java/util/ArrayList" "elementData" "[Ljava/lang/Object;" (.ref e)) (Fs_a : Fld Z h0 a "java/util/ArrayList" "size" "I" (.int z)) (A_e : Arf Z h0 e (.object "java/lang/Object") 8 g) (w0 : Addr) (hel : ∀ i, i < n → ElemOk Z h0 L w0 (g i)) (cs : Int32) (S_CS : Sta Z h0 "java/lang/String" "COMPACT_STRINGS" "Z" (.int cs)) (hcs : ¬ cs = 0) : ∀ l, Does l Z (⟨"java/util/ArrayList", "removeIf", "(Ljava/util/function/Predicate;II)Z"⟩ : MethodName) jdk_38_method_63_code 9 (some .boolean) ({ frames := 5, cells := 0, slots := 0, locals := 65 } : Room) n0 #[(.ref a), (.ref q), (.int (0 : Int32)), (.int z)] h0 (fun v h => v = some (.int 0) ∧ h = h0) := by
  intro l
  refine Does.of_wp (plainFor_of_name pn_5) (Ls := #[.val (.ref a), .val (.ref q), .val (.int (0 : Int32)), .val (.int z), .unset, .unset, .unset, .unset, .unset]) (fun m => by first | (simp [entryFrame, mkF, argsToLocals, Value.category]; done) | rfl | (rcases ref_cases hfv with rfl | ⟨_, rfl⟩ <;> rfl)) ?_
  intro C
  refine WP.aloadN (pc' := 1) d_jdk_38_method_63_0 rfl rfl rfl ?_
  refine WP.callS (argsL := [(.ref q)]) (rest := []) (wd := 0) (cl' := 0) (sl' := 0) (pc' := 4) d_jdk_38_method_63_1 rfl (wd153 hw) (wd154 hw) (wd155 hw) (wd156 hw) (by decide) (m_rnn hw q h0 n0) pd_13 rfl rfl rfl (Nat.le_of_eq rfl) (by decide) (by decide) rfl rfl (by decide) (by decide) ?_
  rintro v hh1 ⟨rfl, he1⟩
  rw [he1]
  refine WP.castS (st' := [(.ref q)]) rfl ?_
  refine WP.pop (pc' := 5) d_jdk_38_method_63_4 rfl rfl ?_
  refine WP.aloadN (pc' := 6) d_jdk_38_method_63_5 rfl rfl rfl ?_
  refine WP.getF (pc' := 9) d_jdk_38_method_63_6 rfl (host := "") (Or.inl (wd87 hw)) (Via.of (wd88 hw)) Fm_a ?_
  refine WP.istore (pc' := 11) d_jdk_38_method_63_9 rfl (Ls' := #[.val (.ref a), .val (.ref q), .val (.int (0 : Int32)), .val (.int z), .val (.int mc), .unset, .unset, .unset, .unset]) rfl ?_
  refine WP.aloadN (pc' := 12) d_jdk_38_method_63_11 rfl rfl rfl ?_
  refine WP.getF (pc' := 15) d_jdk_38_method_63_12 rfl (host := "") (Or.inl (wd34 hw)) Via.refl Fe_a ?_
  refine WP.astore (pc' := 17) d_jdk_38_method_63_15 rfl rfl (Ls' := #[.val (.ref a), .val (.ref q), .val (.int (0 : Int32)), .val (.int z), .val (.int mc), .val (.ref e), .unset, .unset, .unset]) rfl ?_
  have loop : ∀ (k I : Nat) (i : Int32), i.toInt = (I : Int) → I ≤ n → n - I < k → WP C Z jdk_38_method_63_code 9 "java/util/ArrayList" (some .boolean) "removeIf" ({ frames := 5, cells := 0, slots := 0, locals := 65 } : Room) n0 (fun v h => v = some (.int 0) ∧ h = h0) 0 0 h0 17 #[.val (.ref a), .val (.ref q), .val (.int i), .val (.int z), .val (.int mc), .val (.ref e), .unset, .unset, .unset] [] := by
    intro k
    induction k with
    | zero => intro I i h1 h2 h3; omega
    | succ k IH =>
      intro I i hi hI hk
      refine WP.iloadN (pc' := 18) d_jdk_38_method_63_17 rfl rfl ?_
      refine WP.iloadN (pc' := 19) d_jdk_38_method_63_18 rfl rfl ?_
      refine WP.icmp_ge (pc1 := 43) (pc2 := 22) d_jdk_38_method_63_19 (by decide) (by decide) rfl ?_ ?_
      · intro hc19
        refine WP.iloadN (pc' := 44) d_jdk_38_method_63_43 rfl rfl ?_
        refine WP.iloadN (pc' := 45) d_jdk_38_method_63_44 rfl rfl ?_
        have hc45 : ¬ i < z := hc19
        refine WP.icmp_ge (pc1 := 185) (pc2 := 48) d_jdk_38_method_63_45 (by decide) (by decide) rfl (fun _ => ?_) (fun k => absurd k hc45)
        refine WP.aloadN (pc' := 186) d_jdk_38_method_63_185 rfl rfl rfl ?_
        refine WP.getF (pc' := 189) d_jdk_38_method_63_186 rfl (host := "") (Or.inl (wd87 hw)) (Via.of (wd88 hw)) Fm_a ?_
        refine WP.iload (pc' := 191) d_jdk_38_method_63_189 rfl rfl ?_
        have hc191 : mc = mc := rfl
        refine WP.icmp_eq (pc1 := 202) (pc2 := 194) d_jdk_38_method_63_191 (by decide) (by decide) rfl (fun _ => ?_) (fun k => absurd hc191 k)
        refine WP.iconst (pc' := 203) d_jdk_38_method_63_202 rfl (z := 0) rfl ?_
        refine WP.nret (t := .boolean) d_jdk_38_method_63_203 rfl (by simp) rfl (by decide) (by decide) ⟨rfl, rfl⟩
      · intro hc19
        have lt1 : I < n := by rw [Int32.lt_iff_toInt_lt] at hc19; omega
        obtain ⟨x, s, b, m, gb, hgx, -, X1, X2, X3, X4, X5, X6, hm1, hm2⟩ := hel I lt1
        refine WP.aloadN (pc' := 23) d_jdk_38_method_63_22 rfl rfl rfl ?_
        refine WP.aload (pc' := 25) d_jdk_38_method_63_23 rfl rfl rfl ?_
        refine WP.iloadN (pc' := 26) d_jdk_38_method_63_25 rfl rfl ?_
        refine WP.callS (argsL := [(.ref e), (.int i)]) (rest := [(.ref q)]) (wd := 1) (cl' := 0) (sl' := 0) (pc' := 29) d_jdk_38_method_63_26 rfl (wd157 hw) (wd158 hw) (wd13 hw) (wd159 hw) (by decide) (m_eat hw i h0 n0 e g A_e I hi (by omega) x hgx) pd_14 rfl rfl rfl (Nat.le_of_eq rfl) (by decide) (by decide) rfl rfl (by decide) (by decide) ?_
        rintro v hh2 ⟨rfl, he2⟩
        rw [he2]
        refine WP.castS (st' := [(.ref x), (.ref q)]) rfl ?_
        refine WP.callLam (a := q) (b := x) (fi := 15) (ki := 19) (idx := 25) (ci := 21) (xi := (⟨"java/util/function/Predicate", "test", "(Ljava/lang/Object;)Z"⟩ : MethodName)) (y := (⟨"com/example/cordon/cordon/http/Answer", "lambda$set$0", "(Ljava/lang/String;Lcom/example/cordon/cordon/http/HttpHead$Field;)Z"⟩ : MethodName)) (host := "com/example/cordon/cordon/http/Answer") (K := "com/example/cordon/cordon/http/HttpHead$Field") (σ := sgm) (v := .ref nm) (fcode := fwdc) (rest := []) (wd := 0) (cl' := 0) (sl' := 0) (pc' := 34) d_jdk_38_method_63_29 rfl (wd160 hw) (wd161 hw) (wd162 hw) (wd164 hw) (wd2 hw) (wd165 hw) (wd139 hw) xi_ok y_ok ⟨by decide, by decide⟩ L_q fwd_ok cap_ok cls_ok f0 f1 f4 f5 f8 f11 (Ins.self X1) (m_lam hw nm x h0 n0 s bn b L m gn gb E_nm V_nm C_nm A_bn X1 X2 X3 X4 X5 X6 (Ne.symm hm1) hL hm2 cs S_CS hcs) (fun u gg hq => ⟨0, hq.1, rfl⟩) pd_8 rfl pd_15 rfl rfl rfl (Nat.le_of_eq rfl) (by decide) (by decide) rfl rfl (by decide) (by decide) ?_
        rintro v hh3 ⟨rfl, he3⟩
        rw [he3]
        refine WP.castS (st' := [(.int (0 : Int32))]) rfl ?_
        have hc34 : (0 : Int32) = (0 : Int32) := by decide
        refine WP.ifc_ne (pc1 := 43) (pc2 := 37) d_jdk_38_method_63_34 (by decide) (by decide) rfl (fun k => absurd hc34 k) (fun _ => ?_)
        refine WP.iinc (pc' := 40) d_jdk_38_method_63_37 rfl rfl (z := (i + (1 : Int32))) rfl (Ls' := #[.val (.ref a), .val (.ref q), .val (.int (i + (1 : Int32))), .val (.int z), .val (.int mc), .val (.ref e), .unset, .unset, .unset]) rfl ?_
        refine WP.goto (pc' := 17) d_jdk_38_method_63_40 (by decide) (by decide) ?_
        exact IH (I + 1) _ (adds hi rfl (by omega)) (by omega) (by omega)
  exact loop (n + 1) 0 0 rfl (by omega) (by omega)
theorem d_jdk_38_method_62_0 : decode jdk_38_method_62_code 0 = .ok (.aload_n 0, 1) := by decide +kernel
theorem d_jdk_38_method_62_1 : decode jdk_38_method_62_code 1 = .ok (.aload_n 1, 1) := by decide +kernel
theorem d_jdk_38_method_62_2 : decode jdk_38_method_62_code 2 = .ok (.iconst 0, 1) := by decide +kernel
theorem d_jdk_38_method_62_3 : decode jdk_38_method_62_code 3 = .ok (.aload_n 0, 1) := by decide +kernel
theorem d_jdk_38_method_62_4 : decode jdk_38_method_62_code 4 = .ok (.getfield 48, 3) := by decide +kernel
theorem d_jdk_38_method_62_7 : decode jdk_38_method_62_code 7 = .ok (.invokevirtual 295, 3) := by decide +kernel
theorem wd148 {Z : State} {a0 : Array Value} (hw : ∀ d ∈ tables_1, d.before a0 Z = true) : (Jvm.Cond.methodLink "java/util/ArrayList" (295 : Nat) ({ cls := "java/util/ArrayList", name := "removeIf", desc := "(Ljava/util/function/Predicate;II)Z" } : Jvm.MethodName)).before a0 Z = true := hw _ (List.mem_of_getElem? (i := 148) rfl)
theorem wd152 {Z : State} {a0 : Array Value} (hw : ∀ d ∈ tables_1, d.before a0 Z = true) : (Jvm.Cond.code ({ cls := "java/util/ArrayList", name := "removeIf", desc := "(Ljava/util/function/Predicate;II)Z" } : Jvm.MethodName) jdk_38_method_63_code (9 : Nat) (Option.some Jvm.ClassFile.FieldType.boolean)).before a0 Z = true := hw _ (List.mem_of_getElem? (i := 152) rfl)
theorem pd_16 : parseMethodDescriptor "(Ljava/util/function/Predicate;II)Z" = some ⟨[(.object "java/util/function/Predicate"), .int, .int], some .boolean⟩ := by decide +kernel
theorem wd151 {Z : State} {a0 : Array Value} (hw : ∀ d ∈ tables_1, d.before a0 Z = true) : (Jvm.Cond.selects "java/util/ArrayList" ({ cls := "java/util/ArrayList", name := "removeIf", desc := "(Ljava/util/function/Predicate;II)Z" } : Jvm.MethodName) ({ cls := "java/util/ArrayList", name := "removeIf", desc := "(Ljava/util/function/Predicate;II)Z" } : Jvm.MethodName)).before a0 Z = true := hw _ (List.mem_of_getElem? (i := 151) rfl)
theorem wd149 {Z : State} {a0 : Array Value} (hw : ∀ d ∈ tables_1, d.before a0 Z = true) : (Jvm.Cond.declares ({ cls := "java/util/ArrayList", name := "removeIf", desc := "(Ljava/util/function/Predicate;II)Z" } : Jvm.MethodName)).before a0 Z = true := hw _ (List.mem_of_getElem? (i := 149) rfl)
theorem wd150 {Z : State} {a0 : Array Value} (hw : ∀ d ∈ tables_1, d.before a0 Z = true) : (Jvm.Cond.instanceMethod ({ cls := "java/util/ArrayList", name := "removeIf", desc := "(Ljava/util/function/Predicate;II)Z" } : Jvm.MethodName)).before a0 Z = true := hw _ (List.mem_of_getElem? (i := 150) rfl)
theorem d_jdk_38_method_62_10 : decode jdk_38_method_62_code 10 = .ok (.ireturn, 1) := by decide +kernel
set_option maxRecDepth 65536 in
set_option maxHeartbeats 40000000 in
theorem m_rif {Z : State} {a0 : Array Value} (hw : ∀ d ∈ tables_1, d.before a0 Z = true) (a : Addr) (q : Addr) (h0 : Heap) (n0 : Nat) (nm bn : Addr) (L : Nat) (gn : Nat → Int32) (E_nm : Exa Z h0 nm "java/lang/String") (V_nm : Fld Z h0 nm "java/lang/String" "value" "[B" (.ref bn)) (C_nm : Fld Z h0 nm "java/lang/String" "coder" "B" (.int 0)) (A_bn : Ari Z h0 bn .byte L gn) (hL : L ≤ 10000) (L_q : Lam Z h0 q "com/example/cordon/cordon/http/Answer" sgm [.ref nm]) (e : Addr) (mc z : Int32) (n : Nat) (hz : z.toInt = (n : Int)) (hn : n < 8) (g : Nat → Value) (E_a : Exa Z h0 a "java/util/ArrayList") (Fm_a : Fld Z h0 a "java/util/AbstractList" "modCount" "I" (.int mc)) (Fe_a : Fld Z h0 a "java/util/ArrayList" "elementData" "[Ljava/lang/Object;" (.ref e)) (Fs_a : Fld Z h0 a "java/util/ArrayList" "size" "I" (.int z)) (A_e : Arf Z h0 e (.object "java/lang/Object") 8 g) (w0 : Addr) (hel : ∀ i, i < n → ElemOk Z h0 L w0 (g i)) (cs : Int32) (S_CS : Sta Z h0 "java/lang/String" "COMPACT_STRINGS" "Z" (.int cs)) (hcs : ¬ cs = 0) : ∀ l, Does l Z (⟨"java/util/ArrayList", "removeIf", "(Ljava/util/function/Predicate;)Z"⟩ : MethodName) jdk_38_method_62_code 2 (some .boolean) ({ frames := 6, cells := 0, slots := 0, locals := 85 } : Room) n0 #[(.ref a), (.ref q)] h0 (fun v h => v = some (.int 0) ∧ h = h0) := by
  intro l
  refine Does.of_wp (plainFor_of_name pn_5) (Ls := #[.val (.ref a), .val (.ref q)]) (fun m => by first | (simp [entryFrame, mkF, argsToLocals, Value.category]; done) | rfl | (rcases ref_cases hfv with rfl | ⟨_, rfl⟩ <;> rfl)) ?_
  intro C
  refine WP.aloadN (pc' := 1) d_jdk_38_method_62_0 rfl rfl rfl ?_
  refine WP.aloadN (pc' := 2) d_jdk_38_method_62_1 rfl rfl rfl ?_
  refine WP.iconst (pc' := 3) d_jdk_38_method_62_2 rfl (z := 0) rfl ?_
  refine WP.aloadN (pc' := 4) d_jdk_38_method_62_3 rfl rfl rfl ?_
  refine WP.getF (pc' := 7) d_jdk_38_method_62_4 rfl (host := "") (Or.inl (wd89 hw)) Via.refl Fs_a ?_
  refine WP.callV (a := a) (K := "java/util/ArrayList") (argsL := [(.ref q), (.int (0 : Int32)), (.int z)]) (rest := []) (wd := 0) (cl' := 0) (sl' := 0) (pc' := 10) d_jdk_38_method_62_7 rfl (wd148 hw) (wd149 hw) (nfS (wd151 hw) rfl) (wd151 hw) (wd150 hw) (wd13 hw) (wd152 hw) (by decide) E_a (m_rif3 hw a q h0 n0 nm bn L gn E_nm V_nm C_nm A_bn hL L_q e mc z n hz hn g E_a Fm_a Fe_a Fs_a A_e w0 hel cs S_CS hcs) pd_16 rfl rfl rfl (Nat.le_of_eq rfl) (by decide) (by decide) rfl rfl (by decide) (by decide) ?_
  rintro v hh1 ⟨rfl, he1⟩
  rw [he1]
  refine WP.castS (st' := [(.int (0 : Int32))]) rfl ?_
  refine WP.nret (t := .boolean) d_jdk_38_method_62_10 rfl (by simp) rfl (by decide) (by decide) ⟨rfl, rfl⟩
theorem d_prog_14_method_2_0 : decode prog_14_method_2_code 0 = .ok (.aload_n 0, 1) := by decide +kernel
theorem d_prog_14_method_2_1 : decode prog_14_method_2_code 1 = .ok (.getfield 18, 3) := by decide +kernel
theorem d_prog_14_method_2_4 : decode prog_14_method_2_code 4 = .ok (.aload_n 1, 1) := by decide +kernel
theorem d_prog_14_method_2_5 : decode prog_14_method_2_code 5 = .ok (.invokedynamic 29, 5) := by decide +kernel
theorem wd136 {Z : State} {a0 : Array Value} (hw : ∀ d ∈ tables_1, d.before a0 Z = true) : (Jvm.Cond.lambdaSite ({ cls := "com/example/cordon/cordon/http/Answer", name := "set", desc := "(Ljava/lang/String;Ljava/lang/String;)V" } : Jvm.MethodName) (5 : Nat) (29 : Nat) (Jvm.Lambda.Shape.mk "java/util/function/Predicate" "test" (Jvm.ClassFile.MethodDescriptor.mk ([(Jvm.ClassFile.FieldType.object "java/lang/Object")] : List Jvm.ClassFile.FieldType) (Option.some Jvm.ClassFile.FieldType.boolean)) ([(Jvm.ClassFile.FieldType.object "java/lang/String")] : List Jvm.ClassFile.FieldType) (6 : Nat) "com/example/cordon/cordon/http/Answer" "lambda$set$0" (Jvm.ClassFile.MethodDescriptor.mk ([(Jvm.ClassFile.FieldType.object "java/lang/String"), (Jvm.ClassFile.FieldType.object "com/example/cordon/cordon/http/HttpHead$Field")] : List Jvm.ClassFile.FieldType) (Option.some Jvm.ClassFile.FieldType.boolean)) false (Jvm.ClassFile.MethodDescriptor.mk ([(Jvm.ClassFile.FieldType.object "com/example/cordon/cordon/http/HttpHead$Field")] : List Jvm.ClassFile.FieldType) (Option.some Jvm.ClassFile.FieldType.boolean)))).before a0 Z = true := hw _ (List.mem_of_getElem? (i := 136) rfl)
theorem d_prog_14_method_2_10 : decode prog_14_method_2_code 10 = .ok (.invokeinterface 33 2, 5) := by decide +kernel
theorem wd140 {Z : State} {a0 : Array Value} (hw : ∀ d ∈ tables_1, d.before a0 Z = true) : (Jvm.Cond.methodLink "com/example/cordon/cordon/http/Answer" (33 : Nat) ({ cls := "java/util/List", name := "removeIf", desc := "(Ljava/util/function/Predicate;)Z" } : Jvm.MethodName)).before a0 Z = true := hw _ (List.mem_of_getElem? (i := 140) rfl)
theorem wd147 {Z : State} {a0 : Array Value} (hw : ∀ d ∈ tables_1, d.before a0 Z = true) : (Jvm.Cond.code ({ cls := "java/util/ArrayList", name := "removeIf", desc := "(Ljava/util/function/Predicate;)Z" } : Jvm.MethodName) jdk_38_method_62_code (2 : Nat) (Option.some Jvm.ClassFile.FieldType.boolean)).before a0 Z = true := hw _ (List.mem_of_getElem? (i := 147) rfl)
theorem pd_17 : parseMethodDescriptor "(Ljava/util/function/Predicate;)Z" = some ⟨[(.object "java/util/function/Predicate")], some .boolean⟩ := by decide +kernel
theorem wd143 {Z : State} {a0 : Array Value} (hw : ∀ d ∈ tables_1, d.before a0 Z = true) : (Jvm.Cond.selects "java/util/ArrayList" ({ cls := "java/util/List", name := "removeIf", desc := "(Ljava/util/function/Predicate;)Z" } : Jvm.MethodName) ({ cls := "java/util/ArrayList", name := "removeIf", desc := "(Ljava/util/function/Predicate;)Z" } : Jvm.MethodName)).before a0 Z = true := hw _ (List.mem_of_getElem? (i := 143) rfl)
theorem wd142 {Z : State} {a0 : Array Value} (hw : ∀ d ∈ tables_1, d.before a0 Z = true) : (Jvm.Cond.interfaceMethod "java/util/List" "java/util/Collection" "removeIf" "(Ljava/util/function/Predicate;)Z").before a0 Z = true := hw _ (List.mem_of_getElem? (i := 142) rfl)
theorem wd146 {Z : State} {a0 : Array Value} (hw : ∀ d ∈ tables_1, d.before a0 Z = true) : (Jvm.Cond.unhidden "java/util/ArrayList" "removeIf" "(Ljava/util/function/Predicate;)Z").before a0 Z = true := hw _ (List.mem_of_getElem? (i := 146) rfl)
theorem wd144 {Z : State} {a0 : Array Value} (hw : ∀ d ∈ tables_1, d.before a0 Z = true) : (Jvm.Cond.instanceMethod ({ cls := "java/util/ArrayList", name := "removeIf", desc := "(Ljava/util/function/Predicate;)Z" } : Jvm.MethodName)).before a0 Z = true := hw _ (List.mem_of_getElem? (i := 144) rfl)
theorem wd145 {Z : State} {a0 : Array Value} (hw : ∀ d ∈ tables_1, d.before a0 Z = true) : (Jvm.Cond.publicMethod ({ cls := "java/util/ArrayList", name := "removeIf", desc := "(Ljava/util/function/Predicate;)Z" } : Jvm.MethodName)).before a0 Z = true := hw _ (List.mem_of_getElem? (i := 145) rfl)
theorem wd141 {Z : State} {a0 : Array Value} (hw : ∀ d ∈ tables_1, d.before a0 Z = true) : (Jvm.Cond.declares ({ cls := "java/util/Collection", name := "removeIf", desc := "(Ljava/util/function/Predicate;)Z" } : Jvm.MethodName)).before a0 Z = true := hw _ (List.mem_of_getElem? (i := 141) rfl)
theorem d_prog_14_method_2_15 : decode prog_14_method_2_code 15 = .ok (.pop, 1) := by decide +kernel
theorem d_prog_14_method_2_16 : decode prog_14_method_2_code 16 = .ok (.aload_n 0, 1) := by decide +kernel
theorem d_prog_14_method_2_17 : decode prog_14_method_2_code 17 = .ok (.getfield 18, 3) := by decide +kernel
theorem d_prog_14_method_2_20 : decode prog_14_method_2_code 20 = .ok (.new 39, 3) := by decide +kernel
theorem d_prog_14_method_2_23 : decode prog_14_method_2_code 23 = .ok (.dup, 1) := by decide +kernel
theorem d_prog_14_method_2_24 : decode prog_14_method_2_code 24 = .ok (.aload_n 1, 1) := by decide +kernel
theorem d_prog_14_method_2_25 : decode prog_14_method_2_code 25 = .ok (.aload_n 2, 1) := by decide +kernel
theorem d_prog_14_method_2_26 : decode prog_14_method_2_code 26 = .ok (.invokespecial 41, 3) := by decide +kernel
theorem d_prog_14_method_2_29 : decode prog_14_method_2_code 29 = .ok (.invokeinterface 44 2, 5) := by decide +kernel
theorem d_prog_14_method_2_34 : decode prog_14_method_2_code 34 = .ok (.pop, 1) := by decide +kernel
theorem d_prog_14_method_2_35 : decode prog_14_method_2_code 35 = .ok (.return_, 1) := by decide +kernel
set_option maxRecDepth 65536 in
set_option maxHeartbeats 40000000 in
theorem m_ase {Z : State} {a0 : Array Value} (hw : ∀ d ∈ tables_1, d.before a0 Z = true) (a : Addr) (nm : Addr) (vl : Addr) (h0 : Heap) (n0 : Nat) (Z0 : n0 ≤ h0.size) (f : Addr) (g_f : n0 ≤ f) (e : Addr) (g_e : n0 ≤ e) (n_fe : f ≠ e) (mc z : Int32) (n : Nat) (hz : z.toInt = (n : Int)) (hn : n < 8) (g : Nat → Value) (E_f : Exa Z h0 f "java/util/ArrayList") (Fm_f : Fld Z h0 f "java/util/AbstractList" "modCount" "I" (.int mc)) (Fe_f : Fld Z h0 f "java/util/ArrayList" "elementData" "[Ljava/lang/Object;" (.ref e)) (Fs_f : Fld Z h0 f "java/util/ArrayList" "size" "I" (.int z)) (A_e : Arf Z h0 e (.object "java/lang/Object") 8 g) (O_e : Ocl Z h0 e "java/lang/Object") (Fl_a : Fld Z h0 a "com/example/cordon/cordon/http/Answer" "fields" "Ljava/util/List;" (.ref f)) (O0 : Old Z n0 h0) (cs : Int32) (S_CS : Sta Z Z.heap "java/lang/String" "COMPACT_STRINGS" "Z" (.int cs)) (hcs : ¬ cs = 0) (bn : Addr) (L : Nat) (gn : Nat → Int32) (E_nm : Exa Z h0 nm "java/lang/String") (V_nm : Fld Z h0 nm "java/lang/String" "value" "[B" (.ref bn)) (C_nm : Fld Z h0 nm "java/lang/String" "coder" "B" (.int 0)) (A_bn : Ari Z h0 bn .byte L gn) (hL : L ≤ 10000) (hel : ∀ i, i < n → ElemOk Z h0 L a (g i)) : ∀ l, Does l Z (⟨"com/example/cordon/cordon/http/Answer", "set", "(Ljava/lang/String;Ljava/lang/String;)V"⟩ : MethodName) prog_14_method_2_code 3 none ({ frames := 7, cells := 2, slots := 3, locals := 3074 } : Room) n0 #[(.ref a), (.ref nm), (.ref vl)] h0 (fun v h => v = none ∧ ∃ x : Addr, Keep h0 h [f, e] ∧ n0 ≤ x ∧ h0.size ≤ x ∧ Exa Z h f "java/util/ArrayList" ∧ Fld Z h f "java/util/AbstractList" "modCount" "I" (.int (mc + (1 : Int32))) ∧ Fld Z h f "java/util/ArrayList" "elementData" "[Ljava/lang/Object;" (.ref e) ∧ Fld Z h f "java/util/ArrayList" "size" "I" (.int (z + (1 : Int32))) ∧ Arf Z h e (.object "java/lang/Object") 8 (updV g n (.ref x)) ∧ Ocl Z h e "java/lang/Object" ∧ Exa Z h x "com/example/cordon/cordon/http/HttpHead$Field" ∧ Fld Z h x "com/example/cordon/cordon/http/HttpHead$Field" "name" "Ljava/lang/String;" (.ref nm)) := by
  intro l
  refine Does.of_wpN (plainFor_of_name pn_6) (Ls := #[.val (.ref a), .val (.ref nm), .val (.ref vl)]) (fun m => by first | (simp [entryFrame, mkF, argsToLocals, Value.category]; done) | rfl | (rcases ref_cases hfv with rfl | ⟨_, rfl⟩ <;> rfl)) ?_
  intro C hNm
  have K0 := Keep.refl h0 [f, e]
  refine WP.aloadN (pc' := 1) d_prog_14_method_2_0 rfl rfl rfl ?_
  refine WP.getF (pc' := 4) d_prog_14_method_2_1 rfl (host := "") (Or.inl (wd36 hw)) Via.refl Fl_a ?_
  refine WP.aloadN (pc' := 5) d_prog_14_method_2_4 rfl rfl rfl ?_
  refine WP.indy (fi := 15) (x := (⟨"com/example/cordon/cordon/http/Answer", "set", "(Ljava/lang/String;Ljava/lang/String;)V"⟩ : MethodName)) (σ := sgm) (vals := [.ref nm]) (rest := [.ref f]) (cl' := 1) (sl' := 1) (pc' := 10) d_prog_14_method_2_5 rfl hNm (wd136 hw) (wd139 hw) (by decide) cap_ok rfl rfl (fit1 ⟨rfl, rfl⟩) rfl (Nat.le_trans (m := 3074) (Nat.le_of_eq rfl) (by decide)) rfl rfl (by decide) (by decide) ?_
  intro h1 q1 g1 E1 L1
  have ge2 : n0 ≤ q1 := by rw [g1]; exact Z0
  have sz3 : h0.size ≤ q1 := by rw [g1]; exact K0.1
  have ne4 : f ≠ q1 := by rw [g1]; exact Nat.ne_of_lt E_f.lt
  have ne5 : e ≠ q1 := by rw [g1]; exact Nat.ne_of_lt A_e.lt
  have ne6 : a ≠ q1 := by rw [g1]; exact Nat.ne_of_lt Fl_a.lt
  have ne7 : nm ≠ q1 := by rw [g1]; exact Nat.ne_of_lt E_nm.lt
  have ne8 : bn ≠ q1 := by rw [g1]; exact Nat.ne_of_lt A_bn.lt
  have E9 := E_f.ext E1
  have F10 := Fm_f.ext E1
  have F11 := Fe_f.ext E1
  have F12 := Fs_f.ext E1
  have V13 := A_e.ext E1
  have O14 := O_e.ext E1
  have F15 := Fl_a.ext E1
  have E16 := E_nm.ext E1
  have F17 := V_nm.ext E1
  have F18 := C_nm.ext E1
  have V19 := A_bn.ext E1
  have O20 := O0.ext E1
  have K21 := K0.ext E1
  have Z22 : n0 ≤ h1.size := Nat.le_trans Z0 E1.1
  refine WP.callFUp (a := f) (J := "java/util/Collection") (K := "java/util/ArrayList") (argsL := [(.ref q1)]) (rest := []) (wd := 0) (cl' := 1) (sl' := 1) (pc' := 15) d_prog_14_method_2_10 rfl (wd140 hw) (wd141 hw) (wd142 hw) (by decide) (by decide) (wd143 hw) (wd144 hw) (wd145 hw) (wd146 hw) (wd85 hw) (wd13 hw) (wd147 hw) (by decide) E9 (m_rif hw f q1 h1 n0 nm bn L gn E16 F17 F18 V19 hL L1 e mc z n hz hn g E9 F10 F11 F12 V13 a (fun i hi => (hel i hi).ext E1) cs (S_CS.ext O20.2) hcs) pd_17 rfl rfl rfl (Nat.le_of_eq rfl) (by decide) (by decide) rfl rfl (by decide) (by decide) ?_
  rintro v hh23 ⟨rfl, he23⟩
  rw [he23]
  refine WP.castS (st' := [(.int (0 : Int32))]) rfl ?_
  refine WP.pop (pc' := 16) d_prog_14_method_2_15 rfl rfl ?_
  refine WP.aloadN (pc' := 17) d_prog_14_method_2_16 rfl rfl rfl ?_
  refine WP.getF (pc' := 20) d_prog_14_method_2_17 rfl (host := "") (Or.inl (wd36 hw)) Via.refl F15 ?_
  refine WP.newO (cl' := 2) (sl' := 3) (pc' := 23) d_prog_14_method_2_20 rfl (wd62 hw) (wd63 hw) (wd64 hw) rfl rfl (by decide) (by decide) ?_
  intro h24 b24 g24 E24 A24 D24
  have ge25 : n0 ≤ b24 := by rw [g24]; exact Z22
  have sz26 : h0.size ≤ b24 := by rw [g24]; exact K21.1
  have ne27 : f ≠ b24 := by rw [g24]; exact Nat.ne_of_lt E9.lt
  have ne28 : e ≠ b24 := by rw [g24]; exact Nat.ne_of_lt V13.lt
  have E29 := E9.ext E24
  have F30 := F10.ext E24
  have F31 := F11.ext E24
  have F32 := F12.ext E24
  have V33 := V13.ext E24
  have O34 := O14.ext E24
  have O35 := O20.ext E24
  have K36 := K21.ext E24
  have Z37 : n0 ≤ h24.size := Nat.le_trans Z22 E24.1
  have F38 : Fld Z h24 b24 "com/example/cordon/cordon/http/HttpHead$Field" "name" "Ljava/lang/String;" .null := D24 (Or.inr (wd75 hw)) (ty := (.object "java/lang/String")) (by decide)
  have F39 : Fld Z h24 b24 "com/example/cordon/cordon/http/HttpHead$Field" "value" "Ljava/lang/String;" .null := D24 (Or.inr (wd77 hw)) (ty := (.object "java/lang/String")) (by decide)
  refine WP.dup (pc' := 24) d_prog_14_method_2_23 rfl rfl ?_
  refine WP.aloadN (pc' := 25) d_prog_14_method_2_24 rfl rfl rfl ?_
  refine WP.aloadN (pc' := 26) d_prog_14_method_2_25 rfl rfl rfl ?_
  refine WP.callI (a := b24) (argsL := [(.ref nm), (.ref vl)]) (rest := [(.ref b24), (.ref f)]) (wd := 2) (cl' := 2) (sl' := 3) (pc' := 29) d_prog_14_method_2_26 rfl rfl (wd65 hw) (wd66 hw) (wd64 hw) (wd67 hw) (by decide) (m_fin hw b24 nm vl h24 n0 Z37 ge25 A24 F38 F39) pd_7 rfl rfl rfl (Nat.le_of_eq rfl) (by decide) (by decide) rfl rfl (by decide) (by decide) ?_
  rintro v h40 ⟨rfl, K40, E40, Fn40, Fv40⟩
  have E41 := E29.keep K40
  have F42 := F30.keep K40 (ninS ne27 nin0)
  have F43 := F31.keep K40 (ninS ne27 nin0)
  have F44 := F32.keep K40 (ninS ne27 nin0)
  have V45 := V33.keep K40 (ninS ne28 nin0)
  have O46 := O34.keep K40
  have E47 := A24.keep K40
  have O48 := O35.keep K40 (allS ge25 all0)
  have K49 := K36.trans K40 (allS (Or.inr sz26) all0)
  have Z50 : n0 ≤ h40.size := Nat.le_trans Z37 K40.1
  refine WP.castS (st' := [(.ref b24), (.ref f)]) rfl ?_
  refine WP.callF (a := f) (K := "java/util/ArrayList") (argsL := [(.ref b24)]) (rest := []) (wd := 0) (cl' := 2) (sl' := 3) (pc' := 34) d_prog_14_method_2_29 rfl (wd78 hw) (wd79 hw) (wd80 hw) (wd81 hw) (wd82 hw) (wd83 hw) (wd84 hw) (wd85 hw) (wd13 hw) (wd86 hw) (by decide) E41 (m_add1 hw f b24 h40 n0 Z50 g_f e g_e n_fe mc z n hz hn g E41 F42 F43 F44 V45 O46 E40) pd_8 rfl rfl rfl (Nat.le_of_eq rfl) (by decide) (by decide) rfl rfl (by decide) (by decide) ?_
  rintro v h51 ⟨rfl, K51, E51, Fm51, Fe51, Fs51, A51, O51⟩
  have E52 := E41.keep K51
  have O53 := O46.keep K51
  have E54 := E40.keep K51
  have F55 := Fn40.keep K51 (ninS (Ne.symm ne27) (ninS (Ne.symm ne28) nin0))
  have F56 := Fv40.keep K51 (ninS (Ne.symm ne27) (ninS (Ne.symm ne28) nin0))
  have O57 := O48.keep K51 (allS g_f (allS g_e all0))
  have K58 := K49.trans K51 (allS (Or.inl (by simp)) (allS (Or.inl (by simp)) all0))
  have Z59 : n0 ≤ h51.size := Nat.le_trans Z50 K51.1
  refine WP.castS (st' := [(.int (1 : Int32))]) rfl ?_
  refine WP.pop (pc' := 35) d_prog_14_method_2_34 rfl rfl ?_
  exact WP.vret d_prog_14_method_2_35 rfl (by decide) (by decide) ⟨rfl, _, K58, ge25, sz26, E51, Fm51, Fe51, Fs51, A51, O51, E54, F55⟩
theorem d_prog_14_method_8_0 : decode prog_14_method_8_code 0 = .ok (.aload_n 0, 1) := by decide +kernel
theorem d_prog_14_method_8_1 : decode prog_14_method_8_code 1 = .ok (.getfield 7, 3) := by decide +kernel
theorem d_prog_14_method_8_4 : decode prog_14_method_8_code 4 = .ok (.ifCond .lt 13, 3) := by decide +kernel
theorem d_prog_14_method_8_17 : decode prog_14_method_8_code 17 = .ok (.aload_n 0, 1) := by decide +kernel
theorem d_prog_14_method_8_18 : decode prog_14_method_8_code 18 = .ok (.iload_n 1, 1) := by decide +kernel
theorem d_prog_14_method_8_19 : decode prog_14_method_8_code 19 = .ok (.putfield 7, 3) := by decide +kernel
theorem d_prog_14_method_8_22 : decode prog_14_method_8_code 22 = .ok (.return_, 1) := by decide +kernel
set_option maxRecDepth 65536 in
set_option maxHeartbeats 40000000 in
theorem m_gie {Z : State} {a0 : Array Value} (hw : ∀ d ∈ tables_1, d.before a0 Z = true) (a : Addr) (s : Int32) (h0 : Heap) (n0 : Nat) (Z0 : n0 ≤ h0.size) (g_a : n0 ≤ a) (f nb : Addr) (Ea_a : Exa Z h0 a "com/example/cordon/cordon/http/Answer") (Ft_a : Fld Z h0 a "com/example/cordon/cordon/http/Answer" "status" "I" (.int (-1))) (Fl_a : Fld Z h0 a "com/example/cordon/cordon/http/Answer" "fields" "Ljava/util/List;" (.ref f)) (Fb_a : Fld Z h0 a "com/example/cordon/cordon/http/Answer" "body" "[B" (.ref nb)) : ∀ l, Does l Z (⟨"com/example/cordon/cordon/http/Answer", "give", "(I)V"⟩ : MethodName) prog_14_method_8_code 2 none ({ frames := 0, cells := 0, slots := 0, locals := 0 } : Room) n0 #[(.ref a), (.int s)] h0 (fun v h => v = none ∧ Keep h0 h [a] ∧ Exa Z h a "com/example/cordon/cordon/http/Answer" ∧ Fld Z h a "com/example/cordon/cordon/http/Answer" "status" "I" (.int s) ∧ Fld Z h a "com/example/cordon/cordon/http/Answer" "fields" "Ljava/util/List;" (.ref f) ∧ Fld Z h a "com/example/cordon/cordon/http/Answer" "body" "[B" (.ref nb)) := by
  intro l
  refine Does.of_wp (plainFor_of_name pn_6) (Ls := #[.val (.ref a), .val (.int s)]) (fun m => by first | (simp [entryFrame, mkF, argsToLocals, Value.category]; done) | rfl | (rcases ref_cases hfv with rfl | ⟨_, rfl⟩ <;> rfl)) ?_
  intro C
  have K0 := Keep.refl h0 [a]
  refine WP.aloadN (pc' := 1) d_prog_14_method_8_0 rfl rfl rfl ?_
  refine WP.getF (pc' := 4) d_prog_14_method_8_1 rfl (host := "") (Or.inl (wd9 hw)) Via.refl Ft_a ?_
  have hc4 : (-1 : Int32) < (0 : Int32) := by decide
  refine WP.ifc_lt (pc1 := 17) (pc2 := 7) d_prog_14_method_8_4 (by decide) (by decide) rfl (fun _ => ?_) (fun k => absurd hc4 k)
  refine WP.aloadN (pc' := 18) d_prog_14_method_8_17 rfl rfl rfl ?_
  refine WP.iloadN (pc' := 19) d_prog_14_method_8_18 rfl rfl ?_
  refine WP.putF (pc' := 22) d_prog_14_method_8_19 rfl (host := "") (Or.inl (wd9 hw)) Via.refl Ft_a Ea_a (Or.inl (wd10 hw)) (wd1 hw) (ty := .int) (by decide) rfl rfl g_a ?_
  intro h1 W2
  have Kw3 := Keep.of_wr W2
  have E4 := Ea_a.keep Kw3
  have K5 := K0.trans Kw3 (allS (Or.inl (by simp)) all0)
  have Z6 : n0 ≤ h1.size := Nat.le_trans Z0 Kw3.1
  have F7 := Ft_a.same W2
  have F8 := Fl_a.other W2 (Or.inr (slot_ne (Or.inr (wd37 hw)) (Or.inl (wd10 hw)) (by decide) (t := (.object "java/util/List")) (t' := .int) (by decide) (by decide)))
  have F9 := Fb_a.other W2 (Or.inr (slot_ne (Or.inl (wd41 hw)) (Or.inl (wd10 hw)) (by decide) (t := (.array .byte)) (t' := .int) (by decide) (by decide)))
  exact WP.vret d_prog_14_method_8_22 rfl (by decide) (by decide) ⟨rfl, K5, E4, F7, F8, F9⟩
theorem d_jdk_123_method_3_0 : decode jdk_123_method_3_code 0 = .ok (.iload_n 1, 1) := by decide +kernel
theorem d_jdk_123_method_3_1 : decode jdk_123_method_3_code 1 = .ok (.iload_n 2, 1) := by decide +kernel
theorem d_jdk_123_method_3_2 : decode jdk_123_method_3_code 2 = .ok (.iadd, 1) := by decide +kernel
theorem d_jdk_123_method_3_3 : decode jdk_123_method_3_code 3 = .ok (.istore_n 3, 1) := by decide +kernel
theorem d_jdk_123_method_3_4 : decode jdk_123_method_3_code 4 = .ok (.iload_n 1, 1) := by decide +kernel
theorem d_jdk_123_method_3_5 : decode jdk_123_method_3_code 5 = .ok (.istore 4, 2) := by decide +kernel
theorem d_jdk_123_method_3_7 : decode jdk_123_method_3_code 7 = .ok (.iload 4, 2) := by decide +kernel
theorem d_jdk_123_method_3_9 : decode jdk_123_method_3_code 9 = .ok (.iload_n 3, 1) := by decide +kernel
theorem d_jdk_123_method_3_10 : decode jdk_123_method_3_code 10 = .ok (.if_icmp .ge 21, 3) := by decide +kernel
theorem d_jdk_123_method_3_13 : decode jdk_123_method_3_code 13 = .ok (.aload_n 0, 1) := by decide +kernel
theorem d_jdk_123_method_3_14 : decode jdk_123_method_3_code 14 = .ok (.iload 4, 2) := by decide +kernel
theorem d_jdk_123_method_3_16 : decode jdk_123_method_3_code 16 = .ok (.baload, 1) := by decide +kernel
theorem d_jdk_123_method_3_17 : decode jdk_123_method_3_code 17 = .ok (.ifCond .ge 8, 3) := by decide +kernel
theorem d_jdk_123_method_3_25 : decode jdk_123_method_3_code 25 = .ok (.iinc 4 1, 3) := by decide +kernel
theorem d_jdk_123_method_3_28 : decode jdk_123_method_3_code 28 = .ok (.goto (-21), 3) := by decide +kernel
theorem d_jdk_123_method_3_31 : decode jdk_123_method_3_code 31 = .ok (.iload_n 2, 1) := by decide +kernel
theorem d_jdk_123_method_3_32 : decode jdk_123_method_3_code 32 = .ok (.ireturn, 1) := by decide +kernel
theorem d_jdk_123_method_3_20 : decode jdk_123_method_3_code 20 = .ok (.iload 4, 2) := by decide +kernel
theorem d_jdk_123_method_3_22 : decode jdk_123_method_3_code 22 = .ok (.iload_n 1, 1) := by decide +kernel
theorem d_jdk_123_method_3_23 : decode jdk_123_method_3_code 23 = .ok (.isub, 1) := by decide +kernel
theorem d_jdk_123_method_3_24 : decode jdk_123_method_3_code 24 = .ok (.ireturn, 1) := by decide +kernel
theorem pn_9 : plainName "java/lang/StringCoding" = true := by first | (simp [plainName, overriddenIn]; done) | decide +kernel
set_option maxRecDepth 65536 in
set_option maxHeartbeats 40000000 in
theorem m_cp {Z : State} {a0 : Array Value} (hw : ∀ d ∈ tables_1, d.before a0 Z = true)  (h0 : Heap) (n0 : Nat) (b : Addr) (g : Nat → Int32) (A_b : Ari Z h0 b .byte 1 g) : ∀ l, Does l Z (⟨"java/lang/StringCoding", "countPositives", "([BII)I"⟩ : MethodName) jdk_123_method_3_code 5 (some .int) ({ frames := 0, cells := 0, slots := 0, locals := 0 } : Room) n0 #[(.ref b), (.int (0 : Int32)), (.int (1 : Int32))] h0 (fun v h => ((v = some (.int 1) ∧ ¬ g 0 < 0) ∨ (v = some (.int 0) ∧ g 0 < 0)) ∧ h = h0) := by
  intro l
  refine Does.of_wp (plainFor_of_name pn_9) (Ls := #[.val (.ref b), .val (.int (0 : Int32)), .val (.int (1 : Int32)), .unset, .unset]) (fun m => by first | (simp [entryFrame, mkF, argsToLocals, Value.category]; done) | rfl | (rcases ref_cases hfv with rfl | ⟨_, rfl⟩ <;> rfl)) ?_
  intro C
  refine WP.iloadN (pc' := 1) d_jdk_123_method_3_0 rfl rfl ?_
  refine WP.iloadN (pc' := 2) d_jdk_123_method_3_1 rfl rfl ?_
  refine WP.iadd (pc' := 3) d_jdk_123_method_3_2 rfl ?_
  rw [show ((0 : Int32) + (1 : Int32)) = (1 : Int32) from by decide]
  refine WP.istoreN (pc' := 4) d_jdk_123_method_3_3 rfl (Ls' := #[.val (.ref b), .val (.int (0 : Int32)), .val (.int (1 : Int32)), .val (.int (1 : Int32)), .unset]) rfl ?_
  refine WP.iloadN (pc' := 5) d_jdk_123_method_3_4 rfl rfl ?_
  refine WP.istore (pc' := 7) d_jdk_123_method_3_5 rfl (Ls' := #[.val (.ref b), .val (.int (0 : Int32)), .val (.int (1 : Int32)), .val (.int (1 : Int32)), .val (.int (0 : Int32))]) rfl ?_
  refine WP.iload (pc' := 9) d_jdk_123_method_3_7 rfl rfl ?_
  refine WP.iloadN (pc' := 10) d_jdk_123_method_3_9 rfl rfl ?_
  have hc10 : (0 : Int32) < (1 : Int32) := by decide
  refine WP.icmp_ge (pc1 := 31) (pc2 := 13) d_jdk_123_method_3_10 (by decide) (by decide) rfl (fun k => absurd hc10 k) (fun _ => ?_)
  refine WP.aloadN (pc' := 14) d_jdk_123_method_3_13 rfl rfl rfl ?_
  refine WP.iload (pc' := 16) d_jdk_123_method_3_14 rfl rfl ?_
  refine WP.baloadI (0) (pc' := 17) d_jdk_123_method_3_16 rfl A_b (by decide) (by decide) rfl ?_
  refine WP.ifc_ge (pc1 := 25) (pc2 := 20) d_jdk_123_method_3_17 (by decide) (by decide) rfl ?_ ?_
  · intro hc17
    refine WP.iinc (pc' := 28) d_jdk_123_method_3_25 rfl rfl (z := (1 : Int32)) rfl (Ls' := #[.val (.ref b), .val (.int (0 : Int32)), .val (.int (1 : Int32)), .val (.int (1 : Int32)), .val (.int (1 : Int32))]) rfl ?_
    refine WP.goto (pc' := 7) d_jdk_123_method_3_28 (by decide) (by decide) ?_
    refine WP.iload (pc' := 9) d_jdk_123_method_3_7 rfl rfl ?_
    refine WP.iloadN (pc' := 10) d_jdk_123_method_3_9 rfl rfl ?_
    have hc10 : ¬ (1 : Int32) < (1 : Int32) := by decide
    refine WP.icmp_ge (pc1 := 31) (pc2 := 13) d_jdk_123_method_3_10 (by decide) (by decide) rfl (fun _ => ?_) (fun k => absurd k hc10)
    refine WP.iloadN (pc' := 32) d_jdk_123_method_3_31 rfl rfl ?_
    refine WP.iret d_jdk_123_method_3_32 rfl (by decide) (by decide) ⟨Or.inl ⟨rfl, hc17⟩, rfl⟩
  · intro hc17
    refine WP.iload (pc' := 22) d_jdk_123_method_3_20 rfl rfl ?_
    refine WP.iloadN (pc' := 23) d_jdk_123_method_3_22 rfl rfl ?_
    refine WP.isub (pc' := 24) d_jdk_123_method_3_23 rfl ?_
    rw [show ((0 : Int32) - (0 : Int32)) = (0 : Int32) from by decide]
    refine WP.iret d_jdk_123_method_3_24 rfl (by decide) (by decide) ⟨Or.inr ⟨rfl, hc17⟩, rfl⟩
theorem d_jdk_123_method_2_0 : decode jdk_123_method_2_code 0 = .ok (.aload_n 0, 1) := by decide +kernel
theorem d_jdk_123_method_2_1 : decode jdk_123_method_2_code 1 = .ok (.iload_n 1, 1) := by decide +kernel
theorem d_jdk_123_method_2_2 : decode jdk_123_method_2_code 2 = .ok (.iload_n 2, 1) := by decide +kernel
theorem d_jdk_123_method_2_3 : decode jdk_123_method_2_code 3 = .ok (.invokestatic 7, 3) := by decide +kernel
theorem wd205 {Z : State} {a0 : Array Value} (hw : ∀ d ∈ tables_1, d.before a0 Z = true) : (Jvm.Cond.methodLink "java/lang/StringCoding" (7 : Nat) ({ cls := "java/lang/StringCoding", name := "countPositives", desc := "([BII)I" } : Jvm.MethodName)).before a0 Z = true := hw _ (List.mem_of_getElem? (i := 205) rfl)
theorem wd207 {Z : State} {a0 : Array Value} (hw : ∀ d ∈ tables_1, d.before a0 Z = true) : (Jvm.Cond.code ({ cls := "java/lang/StringCoding", name := "countPositives", desc := "([BII)I" } : Jvm.MethodName) jdk_123_method_3_code (5 : Nat) (Option.some Jvm.ClassFile.FieldType.int)).before a0 Z = true := hw _ (List.mem_of_getElem? (i := 207) rfl)
theorem wd203 {Z : State} {a0 : Array Value} (hw : ∀ d ∈ tables_1, d.before a0 Z = true) : (Jvm.Cond.initialized "java/lang/StringCoding").before a0 Z = true := hw _ (List.mem_of_getElem? (i := 203) rfl)
theorem pd_18 : parseMethodDescriptor "([BII)I" = some ⟨[(.array .byte), .int, .int], some .int⟩ := by decide +kernel
theorem wd206 {Z : State} {a0 : Array Value} (hw : ∀ d ∈ tables_1, d.before a0 Z = true) : (Jvm.Cond.static ({ cls := "java/lang/StringCoding", name := "countPositives", desc := "([BII)I" } : Jvm.MethodName)).before a0 Z = true := hw _ (List.mem_of_getElem? (i := 206) rfl)
theorem d_jdk_123_method_2_6 : decode jdk_123_method_2_code 6 = .ok (.iload_n 2, 1) := by decide +kernel
theorem d_jdk_123_method_2_7 : decode jdk_123_method_2_code 7 = .ok (.if_icmp .eq 7, 3) := by decide +kernel
theorem d_jdk_123_method_2_14 : decode jdk_123_method_2_code 14 = .ok (.iconst 0, 1) := by decide +kernel
theorem d_jdk_123_method_2_15 : decode jdk_123_method_2_code 15 = .ok (.ireturn, 1) := by decide +kernel
theorem d_jdk_123_method_2_10 : decode jdk_123_method_2_code 10 = .ok (.iconst 1, 1) := by decide +kernel
theorem d_jdk_123_method_2_11 : decode jdk_123_method_2_code 11 = .ok (.goto 4, 3) := by decide +kernel
set_option maxRecDepth 65536 in
set_option maxHeartbeats 40000000 in
theorem m_hn {Z : State} {a0 : Array Value} (hw : ∀ d ∈ tables_1, d.before a0 Z = true)  (h0 : Heap) (n0 : Nat) (b : Addr) (g : Nat → Int32) (A_b : Ari Z h0 b .byte 1 g) : ∀ l, Does l Z (⟨"java/lang/StringCoding", "hasNegatives", "([BII)Z"⟩ : MethodName) jdk_123_method_2_code 3 (some .boolean) ({ frames := 1, cells := 0, slots := 0, locals := 16 } : Room) n0 #[(.ref b), (.int (0 : Int32)), (.int (1 : Int32))] h0 (fun v h => ((v = some (.int 0) ∧ ¬ g 0 < 0) ∨ (v = some (.int 1) ∧ g 0 < 0)) ∧ h = h0) := by
  intro l
  refine Does.of_wp (plainFor_of_name pn_9) (Ls := #[.val (.ref b), .val (.int (0 : Int32)), .val (.int (1 : Int32))]) (fun m => by first | (simp [entryFrame, mkF, argsToLocals, Value.category]; done) | rfl | (rcases ref_cases hfv with rfl | ⟨_, rfl⟩ <;> rfl)) ?_
  intro C
  refine WP.aloadN (pc' := 1) d_jdk_123_method_2_0 rfl rfl rfl ?_
  refine WP.iloadN (pc' := 2) d_jdk_123_method_2_1 rfl rfl ?_
  refine WP.iloadN (pc' := 3) d_jdk_123_method_2_2 rfl rfl ?_
  refine WP.callS (argsL := [(.ref b), (.int (0 : Int32)), (.int (1 : Int32))]) (rest := []) (wd := 0) (cl' := 0) (sl' := 0) (pc' := 6) d_jdk_123_method_2_3 rfl (wd205 hw) (wd206 hw) (wd203 hw) (wd207 hw) (by decide) (m_cp hw h0 n0 b g A_b) pd_18 rfl rfl rfl (Nat.le_of_eq rfl) (by decide) (by decide) rfl rfl (by decide) (by decide) ?_
  rintro v hh1 ⟨⟨rfl, q⟩ | ⟨rfl, q⟩, he1⟩ <;> rw [he1]
  · skip
    refine WP.castS (st' := [(.int (1 : Int32))]) rfl ?_
    refine WP.iloadN (pc' := 7) d_jdk_123_method_2_6 rfl rfl ?_
    have hc7 : (1 : Int32) = (1 : Int32) := by decide
    refine WP.icmp_eq (pc1 := 14) (pc2 := 10) d_jdk_123_method_2_7 (by decide) (by decide) rfl (fun _ => ?_) (fun k => absurd hc7 k)
    refine WP.iconst (pc' := 15) d_jdk_123_method_2_14 rfl (z := 0) rfl ?_
    refine WP.nret (t := .boolean) d_jdk_123_method_2_15 rfl (by simp) rfl (by decide) (by decide) ⟨Or.inl ⟨rfl, q⟩, rfl⟩
  · skip
    refine WP.castS (st' := [(.int (0 : Int32))]) rfl ?_
    refine WP.iloadN (pc' := 7) d_jdk_123_method_2_6 rfl rfl ?_
    have hc7 : ¬ (0 : Int32) = (1 : Int32) := by decide
    refine WP.icmp_eq (pc1 := 14) (pc2 := 10) d_jdk_123_method_2_7 (by decide) (by decide) rfl (fun k => absurd k hc7) (fun _ => ?_)
    refine WP.iconst (pc' := 11) d_jdk_123_method_2_10 rfl (z := 1) rfl ?_
    refine WP.goto (pc' := 15) d_jdk_123_method_2_11 (by decide) (by decide) ?_
    refine WP.nret (t := .boolean) d_jdk_123_method_2_15 rfl (by simp) rfl (by decide) (by decide) ⟨Or.inr ⟨rfl, q⟩, rfl⟩
theorem d_jdk_52_method_3_0 : decode jdk_52_method_3_code 0 = .ok (.iload_n 0, 1) := by decide +kernel
theorem d_jdk_52_method_3_1 : decode jdk_52_method_3_code 1 = .ok (.ifCond .ge 11, 3) := by decide +kernel
theorem d_jdk_52_method_3_12 : decode jdk_52_method_3_code 12 = .ok (.iload_n 0, 1) := by decide +kernel
theorem d_jdk_52_method_3_13 : decode jdk_52_method_3_code 13 = .ok (.ldc 20, 2) := by decide +kernel
theorem wd225 {Z : State} {a0 : Array Value} (hw : ∀ d ∈ tables_1, d.before a0 Z = true) : (Jvm.Cond.constant "java/lang/StringUTF16" (20 : Nat) (1073741823 : Int32)).before a0 Z = true := hw _ (List.mem_of_getElem? (i := 225) rfl)
theorem d_jdk_52_method_3_15 : decode jdk_52_method_3_code 15 = .ok (.if_icmp .lt 40, 3) := by decide +kernel
theorem d_jdk_52_method_3_55 : decode jdk_52_method_3_code 55 = .ok (.iload_n 0, 1) := by decide +kernel
theorem d_jdk_52_method_3_56 : decode jdk_52_method_3_code 56 = .ok (.iconst 1, 1) := by decide +kernel
theorem d_jdk_52_method_3_57 : decode jdk_52_method_3_code 57 = .ok (.ishl, 1) := by decide +kernel
theorem d_jdk_52_method_3_58 : decode jdk_52_method_3_code 58 = .ok (.ireturn, 1) := by decide +kernel
set_option maxRecDepth 65536 in
set_option maxHeartbeats 40000000 in
theorem m_nbl {Z : State} {a0 : Array Value} (hw : ∀ d ∈ tables_1, d.before a0 Z = true)  (h0 : Heap) (n0 : Nat)  : ∀ l, Does l Z (⟨"java/lang/StringUTF16", "newBytesLength", "(I)I"⟩ : MethodName) jdk_52_method_3_code 1 (some .int) ({ frames := 0, cells := 0, slots := 0, locals := 0 } : Room) n0 #[(.int (1 : Int32))] h0 (fun v h => v = some (.int 2) ∧ h = h0) := by
  intro l
  refine Does.of_wp (plainFor_of_name pn_0) (Ls := #[.val (.int (1 : Int32))]) (fun m => by first | (simp [entryFrame, mkF, argsToLocals, Value.category]; done) | rfl | (rcases ref_cases hfv with rfl | ⟨_, rfl⟩ <;> rfl)) ?_
  intro C
  refine WP.iloadN (pc' := 1) d_jdk_52_method_3_0 rfl rfl ?_
  have hc1 : ¬ (1 : Int32) < (0 : Int32) := by decide
  refine WP.ifc_ge (pc1 := 12) (pc2 := 4) d_jdk_52_method_3_1 (by decide) (by decide) rfl (fun _ => ?_) (fun k => absurd k hc1)
  refine WP.iloadN (pc' := 13) d_jdk_52_method_3_12 rfl rfl ?_
  refine WP.ldcI (pc' := 15) d_jdk_52_method_3_13 rfl (wd225 hw) ?_
  have hc15 : (1 : Int32) < (1073741823 : Int32) := by decide
  refine WP.icmp_lt (pc1 := 55) (pc2 := 18) d_jdk_52_method_3_15 (by decide) (by decide) rfl (fun _ => ?_) (fun k => absurd hc15 k)
  refine WP.iloadN (pc' := 56) d_jdk_52_method_3_55 rfl rfl ?_
  refine WP.iconst (pc' := 57) d_jdk_52_method_3_56 rfl (z := 1) rfl ?_
  refine WP.ishl (pc' := 58) d_jdk_52_method_3_57 rfl ?_
  rw [show ((1 : Int32) <<< ((1 : Int32) &&& 31)) = (2 : Int32) from by decide]
  refine WP.iret d_jdk_52_method_3_58 rfl (by decide) (by decide) ⟨rfl, rfl⟩
theorem d_jdk_52_method_2_0 : decode jdk_52_method_2_code 0 = .ok (.iload_n 0, 1) := by decide +kernel
theorem d_jdk_52_method_2_1 : decode jdk_52_method_2_code 1 = .ok (.invokestatic 11, 3) := by decide +kernel
theorem wd222 {Z : State} {a0 : Array Value} (hw : ∀ d ∈ tables_1, d.before a0 Z = true) : (Jvm.Cond.methodLink "java/lang/StringUTF16" (11 : Nat) ({ cls := "java/lang/StringUTF16", name := "newBytesLength", desc := "(I)I" } : Jvm.MethodName)).before a0 Z = true := hw _ (List.mem_of_getElem? (i := 222) rfl)
theorem wd224 {Z : State} {a0 : Array Value} (hw : ∀ d ∈ tables_1, d.before a0 Z = true) : (Jvm.Cond.code ({ cls := "java/lang/StringUTF16", name := "newBytesLength", desc := "(I)I" } : Jvm.MethodName) jdk_52_method_3_code (1 : Nat) (Option.some Jvm.ClassFile.FieldType.int)).before a0 Z = true := hw _ (List.mem_of_getElem? (i := 224) rfl)
theorem pd_19 : parseMethodDescriptor "(I)I" = some ⟨[.int], some .int⟩ := by decide +kernel
theorem wd223 {Z : State} {a0 : Array Value} (hw : ∀ d ∈ tables_1, d.before a0 Z = true) : (Jvm.Cond.static ({ cls := "java/lang/StringUTF16", name := "newBytesLength", desc := "(I)I" } : Jvm.MethodName)).before a0 Z = true := hw _ (List.mem_of_getElem? (i := 223) rfl)
theorem d_jdk_52_method_2_4 : decode jdk_52_method_2_code 4 = .ok (.newarray .byte, 2) := by decide +kernel
theorem d_jdk_52_method_2_6 : decode jdk_52_method_2_code 6 = .ok (.areturn, 1) := by decide +kernel
set_option maxRecDepth 65536 in
set_option maxHeartbeats 40000000 in
theorem m_nbf {Z : State} {a0 : Array Value} (hw : ∀ d ∈ tables_1, d.before a0 Z = true)  (h0 : Heap) (n0 : Nat) (Z0 : n0 ≤ h0.size) : ∀ l, Does l Z (⟨"java/lang/StringUTF16", "newBytesFor", "(I)[B"⟩ : MethodName) jdk_52_method_2_code 1 (some (.array .byte)) ({ frames := 1, cells := 1, slots := 2, locals := 12 } : Room) n0 #[(.int (1 : Int32))] h0 (fun v h => ∃ c : Addr, v = some (.ref c) ∧ Keep h0 h [] ∧ n0 ≤ c ∧ h0.size ≤ c ∧ Ari Z h c .byte 2 (fun _ => 0)) := by
  intro l
  refine Does.of_wp (plainFor_of_name pn_0) (Ls := #[.val (.int (1 : Int32))]) (fun m => by first | (simp [entryFrame, mkF, argsToLocals, Value.category]; done) | rfl | (rcases ref_cases hfv with rfl | ⟨_, rfl⟩ <;> rfl)) ?_
  intro C
  have K0 := Keep.refl h0 []
  refine WP.iloadN (pc' := 1) d_jdk_52_method_2_0 rfl rfl ?_
  refine WP.callS (argsL := [(.int (1 : Int32))]) (rest := []) (wd := 0) (cl' := 0) (sl' := 0) (pc' := 4) d_jdk_52_method_2_1 rfl (wd222 hw) (wd223 hw) (wd111 hw) (wd224 hw) (by decide) (m_nbl hw h0 n0) pd_19 rfl rfl rfl (Nat.le_of_eq rfl) (by decide) (by decide) rfl rfl (by decide) (by decide) ?_
  rintro v hh1 ⟨rfl, he1⟩
  rw [he1]
  refine WP.castS (st' := [(.int (2 : Int32))]) rfl ?_
  refine WP.newB (n := 2) (cap := 2) (cl' := 1) (sl' := 2) (pc' := 6) d_jdk_52_method_2_4 rfl (wd51 hw) (by decide) (by decide) (by decide) rfl rfl (by decide) (by decide) ?_
  intro h2 b2 g2 E2 A2 XB2
  have ge3 : n0 ≤ b2 := by rw [g2]; exact Z0
  have sz4 : h0.size ≤ b2 := by rw [g2]; exact K0.1
  have K5 := K0.ext E2
  have Z6 : n0 ≤ h2.size := Nat.le_trans Z0 E2.1
  refine WP.aret d_jdk_52_method_2_6 rfl rfl rfl (by decide) (by decide) ⟨_, rfl, K5, ge3, sz4, A2⟩
theorem d_jdk_42_method_46_0 : decode jdk_42_method_46_code 0 = .ok (.iload_n 0, 1) := by decide +kernel
theorem d_jdk_42_method_46_1 : decode jdk_42_method_46_code 1 = .ok (.iconst 1, 1) := by decide +kernel
theorem d_jdk_42_method_46_2 : decode jdk_42_method_46_code 2 = .ok (.if_icmp .ne 9, 3) := by decide +kernel
theorem d_jdk_42_method_46_11 : decode jdk_42_method_46_code 11 = .ok (.aload_n 1, 1) := by decide +kernel
theorem d_jdk_42_method_46_12 : decode jdk_42_method_46_code 12 = .ok (.iconst 0, 1) := by decide +kernel
theorem d_jdk_42_method_46_13 : decode jdk_42_method_46_code 13 = .ok (.aload_n 1, 1) := by decide +kernel
theorem d_jdk_42_method_46_14 : decode jdk_42_method_46_code 14 = .ok (.arraylength, 1) := by decide +kernel
theorem d_jdk_42_method_46_15 : decode jdk_42_method_46_code 15 = .ok (.invokestatic 128, 3) := by decide +kernel
theorem wd201 {Z : State} {a0 : Array Value} (hw : ∀ d ∈ tables_1, d.before a0 Z = true) : (Jvm.Cond.methodLink "java/lang/String" (128 : Nat) ({ cls := "java/lang/StringCoding", name := "hasNegatives", desc := "([BII)Z" } : Jvm.MethodName)).before a0 Z = true := hw _ (List.mem_of_getElem? (i := 201) rfl)
theorem wd204 {Z : State} {a0 : Array Value} (hw : ∀ d ∈ tables_1, d.before a0 Z = true) : (Jvm.Cond.code ({ cls := "java/lang/StringCoding", name := "hasNegatives", desc := "([BII)Z" } : Jvm.MethodName) jdk_123_method_2_code (3 : Nat) (Option.some Jvm.ClassFile.FieldType.boolean)).before a0 Z = true := hw _ (List.mem_of_getElem? (i := 204) rfl)
theorem pd_20 : parseMethodDescriptor "([BII)Z" = some ⟨[(.array .byte), .int, .int], some .boolean⟩ := by decide +kernel
theorem wd202 {Z : State} {a0 : Array Value} (hw : ∀ d ∈ tables_1, d.before a0 Z = true) : (Jvm.Cond.static ({ cls := "java/lang/StringCoding", name := "hasNegatives", desc := "([BII)Z" } : Jvm.MethodName)).before a0 Z = true := hw _ (List.mem_of_getElem? (i := 202) rfl)
theorem d_jdk_42_method_46_18 : decode jdk_42_method_46_code 18 = .ok (.ifCond .ne 11, 3) := by decide +kernel
theorem d_jdk_42_method_46_21 : decode jdk_42_method_46_code 21 = .ok (.aload_n 1, 1) := by decide +kernel
theorem wd208 {Z : State} {a0 : Array Value} (hw : ∀ d ∈ tables_1, d.before a0 Z = true) : (Jvm.Cond.methodLink "java/lang/String" (279 : Nat) ({ cls := "[B", name := "clone", desc := "()Ljava/lang/Object;" } : Jvm.MethodName)).before a0 Z = true := hw _ (List.mem_of_getElem? (i := 208) rfl)
theorem d_jdk_42_method_46_22 : decode jdk_42_method_46_code 22 = .ok (.invokevirtual 279, 3) := by decide +kernel
theorem wd209 {Z : State} {a0 : Array Value} (hw : ∀ d ∈ tables_1, d.before a0 Z = true) : (Jvm.Cond.sameMethod "[B" "java/lang/Object" "clone" "()Ljava/lang/Object;").before a0 Z = true := hw _ (List.mem_of_getElem? (i := 209) rfl)
theorem wd213 {Z : State} {a0 : Array Value} (hw : ∀ d ∈ tables_1, d.before a0 Z = true) : (Jvm.Cond.native ({ cls := "java/lang/Object", name := "clone", desc := "()Ljava/lang/Object;" } : Jvm.MethodName)).before a0 Z = true := hw _ (List.mem_of_getElem? (i := 213) rfl)
theorem wd211 {Z : State} {a0 : Array Value} (hw : ∀ d ∈ tables_1, d.before a0 Z = true) : (Jvm.Cond.instanceMethod ({ cls := "java/lang/Object", name := "clone", desc := "()Ljava/lang/Object;" } : Jvm.MethodName)).before a0 Z = true := hw _ (List.mem_of_getElem? (i := 211) rfl)
theorem wd212 {Z : State} {a0 : Array Value} (hw : ∀ d ∈ tables_1, d.before a0 Z = true) : (Jvm.Cond.selects "[B" ({ cls := "[B", name := "clone", desc := "()Ljava/lang/Object;" } : Jvm.MethodName) ({ cls := "java/lang/Object", name := "clone", desc := "()Ljava/lang/Object;" } : Jvm.MethodName)).before a0 Z = true := hw _ (List.mem_of_getElem? (i := 212) rfl)
theorem wd214 {Z : State} {a0 : Array Value} (hw : ∀ d ∈ tables_1, d.before a0 Z = true) : (Jvm.Cond.castable "[B" "java/lang/Cloneable").before a0 Z = true := hw _ (List.mem_of_getElem? (i := 214) rfl)
theorem d_jdk_42_method_46_25 : decode jdk_42_method_46_code 25 = .ok (.checkcast 280, 3) := by decide +kernel
theorem wd215 {Z : State} {a0 : Array Value} (hw : ∀ d ∈ tables_1, d.before a0 Z = true) : (Jvm.Cond.classLink "java/lang/String" (280 : Nat) "[B").before a0 Z = true := hw _ (List.mem_of_getElem? (i := 215) rfl)
theorem d_jdk_42_method_46_28 : decode jdk_42_method_46_code 28 = .ok (.areturn, 1) := by decide +kernel
theorem d_jdk_42_method_46_29 : decode jdk_42_method_46_code 29 = .ok (.iconst 0, 1) := by decide +kernel
theorem d_jdk_42_method_46_30 : decode jdk_42_method_46_code 30 = .ok (.istore_n 3, 1) := by decide +kernel
theorem d_jdk_42_method_46_31 : decode jdk_42_method_46_code 31 = .ok (.aload_n 1, 1) := by decide +kernel
theorem d_jdk_42_method_46_32 : decode jdk_42_method_46_code 32 = .ok (.arraylength, 1) := by decide +kernel
theorem d_jdk_42_method_46_33 : decode jdk_42_method_46_code 33 = .ok (.invokestatic 60, 3) := by decide +kernel
theorem wd219 {Z : State} {a0 : Array Value} (hw : ∀ d ∈ tables_1, d.before a0 Z = true) : (Jvm.Cond.methodLink "java/lang/String" (60 : Nat) ({ cls := "java/lang/StringUTF16", name := "newBytesFor", desc := "(I)[B" } : Jvm.MethodName)).before a0 Z = true := hw _ (List.mem_of_getElem? (i := 219) rfl)
theorem wd221 {Z : State} {a0 : Array Value} (hw : ∀ d ∈ tables_1, d.before a0 Z = true) : (Jvm.Cond.code ({ cls := "java/lang/StringUTF16", name := "newBytesFor", desc := "(I)[B" } : Jvm.MethodName) jdk_52_method_2_code (1 : Nat) (Option.some (Jvm.ClassFile.FieldType.array Jvm.ClassFile.FieldType.byte))).before a0 Z = true := hw _ (List.mem_of_getElem? (i := 221) rfl)
theorem pd_21 : parseMethodDescriptor "(I)[B" = some ⟨[.int], some (.array .byte)⟩ := by decide +kernel
theorem wd220 {Z : State} {a0 : Array Value} (hw : ∀ d ∈ tables_1, d.before a0 Z = true) : (Jvm.Cond.static ({ cls := "java/lang/StringUTF16", name := "newBytesFor", desc := "(I)[B" } : Jvm.MethodName)).before a0 Z = true := hw _ (List.mem_of_getElem? (i := 220) rfl)
theorem d_jdk_42_method_46_36 : decode jdk_42_method_46_code 36 = .ok (.astore 4, 2) := by decide +kernel
theorem d_jdk_42_method_46_38 : decode jdk_42_method_46_code 38 = .ok (.aload_n 1, 1) := by decide +kernel
theorem d_jdk_42_method_46_39 : decode jdk_42_method_46_code 39 = .ok (.astore 5, 2) := by decide +kernel
theorem d_jdk_42_method_46_41 : decode jdk_42_method_46_code 41 = .ok (.aload 5, 2) := by decide +kernel
theorem d_jdk_42_method_46_43 : decode jdk_42_method_46_code 43 = .ok (.arraylength, 1) := by decide +kernel
theorem d_jdk_42_method_46_44 : decode jdk_42_method_46_code 44 = .ok (.istore 6, 2) := by decide +kernel
theorem d_jdk_42_method_46_46 : decode jdk_42_method_46_code 46 = .ok (.iconst 0, 1) := by decide +kernel
theorem d_jdk_42_method_46_47 : decode jdk_42_method_46_code 47 = .ok (.istore 7, 2) := by decide +kernel
theorem d_jdk_42_method_46_49 : decode jdk_42_method_46_code 49 = .ok (.iload 7, 2) := by decide +kernel
theorem d_jdk_42_method_46_51 : decode jdk_42_method_46_code 51 = .ok (.iload 6, 2) := by decide +kernel
theorem d_jdk_42_method_46_53 : decode jdk_42_method_46_code 53 = .ok (.if_icmp .ge 71, 3) := by decide +kernel
theorem d_jdk_42_method_46_56 : decode jdk_42_method_46_code 56 = .ok (.aload 5, 2) := by decide +kernel
theorem d_jdk_42_method_46_58 : decode jdk_42_method_46_code 58 = .ok (.iload 7, 2) := by decide +kernel
theorem d_jdk_42_method_46_60 : decode jdk_42_method_46_code 60 = .ok (.baload, 1) := by decide +kernel
theorem d_jdk_42_method_46_61 : decode jdk_42_method_46_code 61 = .ok (.istore 8, 2) := by decide +kernel
theorem d_jdk_42_method_46_63 : decode jdk_42_method_46_code 63 = .ok (.iload 8, 2) := by decide +kernel
theorem d_jdk_42_method_46_65 : decode jdk_42_method_46_code 65 = .ok (.ifCond .ge 44, 3) := by decide +kernel
theorem d_jdk_42_method_46_68 : decode jdk_42_method_46_code 68 = .ok (.aload 4, 2) := by decide +kernel
theorem d_jdk_42_method_46_70 : decode jdk_42_method_46_code 70 = .ok (.iload_n 3, 1) := by decide +kernel
theorem d_jdk_42_method_46_71 : decode jdk_42_method_46_code 71 = .ok (.iinc 3 1, 3) := by decide +kernel
theorem d_jdk_42_method_46_74 : decode jdk_42_method_46_code 74 = .ok (.sipush 192, 3) := by decide +kernel
theorem d_jdk_42_method_46_77 : decode jdk_42_method_46_code 77 = .ok (.iload 8, 2) := by decide +kernel
theorem d_jdk_42_method_46_79 : decode jdk_42_method_46_code 79 = .ok (.sipush 255, 3) := by decide +kernel
theorem d_jdk_42_method_46_82 : decode jdk_42_method_46_code 82 = .ok (.iand, 1) := by decide +kernel
theorem d_jdk_42_method_46_83 : decode jdk_42_method_46_code 83 = .ok (.bipush 6, 2) := by decide +kernel
theorem d_jdk_42_method_46_85 : decode jdk_42_method_46_code 85 = .ok (.ishr, 1) := by decide +kernel
theorem d_jdk_42_method_46_86 : decode jdk_42_method_46_code 86 = .ok (.ior, 1) := by decide +kernel
theorem d_jdk_42_method_46_87 : decode jdk_42_method_46_code 87 = .ok (.i2b, 1) := by decide +kernel
theorem d_jdk_42_method_46_88 : decode jdk_42_method_46_code 88 = .ok (.bastore, 1) := by decide +kernel
theorem d_jdk_42_method_46_89 : decode jdk_42_method_46_code 89 = .ok (.aload 4, 2) := by decide +kernel
theorem d_jdk_42_method_46_91 : decode jdk_42_method_46_code 91 = .ok (.iload_n 3, 1) := by decide +kernel
theorem d_jdk_42_method_46_92 : decode jdk_42_method_46_code 92 = .ok (.iinc 3 1, 3) := by decide +kernel
theorem d_jdk_42_method_46_95 : decode jdk_42_method_46_code 95 = .ok (.sipush 128, 3) := by decide +kernel
theorem d_jdk_42_method_46_98 : decode jdk_42_method_46_code 98 = .ok (.iload 8, 2) := by decide +kernel
theorem d_jdk_42_method_46_100 : decode jdk_42_method_46_code 100 = .ok (.bipush 63, 2) := by decide +kernel
theorem d_jdk_42_method_46_102 : decode jdk_42_method_46_code 102 = .ok (.iand, 1) := by decide +kernel
theorem d_jdk_42_method_46_103 : decode jdk_42_method_46_code 103 = .ok (.ior, 1) := by decide +kernel
theorem d_jdk_42_method_46_104 : decode jdk_42_method_46_code 104 = .ok (.i2b, 1) := by decide +kernel
theorem d_jdk_42_method_46_105 : decode jdk_42_method_46_code 105 = .ok (.bastore, 1) := by decide +kernel
theorem d_jdk_42_method_46_106 : decode jdk_42_method_46_code 106 = .ok (.goto 12, 3) := by decide +kernel
theorem d_jdk_42_method_46_118 : decode jdk_42_method_46_code 118 = .ok (.iinc 7 1, 3) := by decide +kernel
theorem d_jdk_42_method_46_121 : decode jdk_42_method_46_code 121 = .ok (.goto (-72), 3) := by decide +kernel
theorem d_jdk_42_method_46_124 : decode jdk_42_method_46_code 124 = .ok (.iload_n 3, 1) := by decide +kernel
theorem d_jdk_42_method_46_125 : decode jdk_42_method_46_code 125 = .ok (.aload 4, 2) := by decide +kernel
theorem d_jdk_42_method_46_127 : decode jdk_42_method_46_code 127 = .ok (.arraylength, 1) := by decide +kernel
theorem d_jdk_42_method_46_128 : decode jdk_42_method_46_code 128 = .ok (.if_icmp .ne 6, 3) := by decide +kernel
theorem d_jdk_42_method_46_131 : decode jdk_42_method_46_code 131 = .ok (.aload 4, 2) := by decide +kernel
theorem d_jdk_42_method_46_133 : decode jdk_42_method_46_code 133 = .ok (.areturn, 1) := by decide +kernel
set_option maxRecDepth 65536 in
set_option maxHeartbeats 40000000 in
theorem m_en8 {Z : State} {a0 : Array Value} (hw : ∀ d ∈ tables_1, d.before a0 Z = true)  (h0 : Heap) (n0 : Nat) (Z0 : n0 ≤ h0.size) (b : Addr) (g : Nat → Int32) (A_b : Ari Z h0 b .byte 1 g) (E_b : Exa Z h0 b "[B") : ∀ l, Does l Z (⟨"java/lang/String", "encodeUTF8", "(B[BZ)[B"⟩ : MethodName) jdk_42_method_46_code 9 (some (.array .byte)) ({ frames := 2, cells := 1, slots := 2, locals := 30 } : Room) n0 #[(.int (0 : Int32)), (.ref b), (.int (1 : Int32))] h0 (fun v h => ∃ c : Addr, v = some (.ref c) ∧ Keep h0 h []) := by
  intro l
  refine Does.of_wp (plainFor_of_name pn_1) (Ls := #[.val (.int (0 : Int32)), .val (.ref b), .val (.int (1 : Int32)), .unset, .unset, .unset, .unset, .unset, .unset]) (fun m => by first | (simp [entryFrame, mkF, argsToLocals, Value.category]; done) | rfl | (rcases ref_cases hfv with rfl | ⟨_, rfl⟩ <;> rfl)) ?_
  intro C
  have K0 := Keep.refl h0 []
  refine WP.iloadN (pc' := 1) d_jdk_42_method_46_0 rfl rfl ?_
  refine WP.iconst (pc' := 2) d_jdk_42_method_46_1 rfl (z := 1) rfl ?_
  have hc2 : ¬ (0 : Int32) = (1 : Int32) := by decide
  refine WP.icmp_ne (pc1 := 11) (pc2 := 5) d_jdk_42_method_46_2 (by decide) (by decide) rfl (fun _ => ?_) (fun k => absurd k hc2)
  refine WP.aloadN (pc' := 12) d_jdk_42_method_46_11 rfl rfl rfl ?_
  refine WP.iconst (pc' := 13) d_jdk_42_method_46_12 rfl (z := 0) rfl ?_
  refine WP.aloadN (pc' := 14) d_jdk_42_method_46_13 rfl rfl rfl ?_
  refine WP.arraylengthI (z := (1 : Int32)) (pc' := 15) d_jdk_42_method_46_14 rfl A_b rfl ?_
  refine WP.callS (argsL := [(.ref b), (.int (0 : Int32)), (.int (1 : Int32))]) (rest := []) (wd := 0) (cl' := 0) (sl' := 0) (pc' := 18) d_jdk_42_method_46_15 rfl (wd201 hw) (wd202 hw) (wd203 hw) (wd204 hw) (by decide) (m_hn hw h0 n0 b g A_b) pd_20 rfl rfl rfl (Nat.le_of_eq rfl) (by decide) (by decide) rfl rfl (by decide) (by decide) ?_
  rintro v hh1 ⟨⟨rfl, q⟩ | ⟨rfl, q⟩, he1⟩ <;> rw [he1]
  · skip
    refine WP.castS (st' := [(.int (0 : Int32))]) rfl ?_
    have hc18 : (0 : Int32) = (0 : Int32) := by decide
    refine WP.ifc_ne (pc1 := 29) (pc2 := 21) d_jdk_42_method_46_18 (by decide) (by decide) rfl (fun k => absurd hc18 k) (fun _ => ?_)
    refine WP.aloadN (pc' := 22) d_jdk_42_method_46_21 rfl rfl rfl ?_
    refine WP.cloneB (n := 1) (cap := 1) (wd := 0) (cl' := 1) (sl' := 1) (pc' := 25) d_jdk_42_method_46_22 rfl (wd208 hw) (wd209 hw) (wd213 hw) (wd211 hw) (wd212 hw) (wd214 hw) A_b E_b rfl (Nat.le_of_eq rfl) (by decide) (by decide) (by decide) rfl rfl (by decide) (by decide) ?_
    intro h2 c2 g2 E2 X2
    have ge3 : n0 ≤ c2 := by rw [g2]; exact Z0
    have sz4 : h0.size ≤ c2 := by rw [g2]; exact K0.1
    have ne5 : b ≠ c2 := by rw [g2]; exact Nat.ne_of_lt A_b.lt
    have V6 := A_b.ext E2
    have E7 := E_b.ext E2
    have K8 := K0.ext E2
    have Z9 : n0 ≤ h2.size := Nat.le_trans Z0 E2.1
    refine WP.castS (st' := [(.ref c2)]) rfl ?_
    refine WP.checkcast (pc' := 28) d_jdk_42_method_46_25 rfl (wd215 hw) (Ins.self X2) ?_
    refine WP.aret d_jdk_42_method_46_28 rfl rfl rfl (by decide) (by decide) ⟨_, rfl, K8⟩
  · skip
    refine WP.castS (st' := [(.int (1 : Int32))]) rfl ?_
    have hc18 : ¬ (1 : Int32) = (0 : Int32) := by decide
    refine WP.ifc_ne (pc1 := 29) (pc2 := 21) d_jdk_42_method_46_18 (by decide) (by decide) rfl (fun _ => ?_) (fun k => absurd k hc18)
    refine WP.iconst (pc' := 30) d_jdk_42_method_46_29 rfl (z := 0) rfl ?_
    refine WP.istoreN (pc' := 31) d_jdk_42_method_46_30 rfl (Ls' := #[.val (.int (0 : Int32)), .val (.ref b), .val (.int (1 : Int32)), .val (.int (0 : Int32)), .unset, .unset, .unset, .unset, .unset]) rfl ?_
    refine WP.aloadN (pc' := 32) d_jdk_42_method_46_31 rfl rfl rfl ?_
    refine WP.arraylengthI (z := (1 : Int32)) (pc' := 33) d_jdk_42_method_46_32 rfl A_b rfl ?_
    refine WP.callS (argsL := [(.int (1 : Int32))]) (rest := []) (wd := 0) (cl' := 1) (sl' := 2) (pc' := 36) d_jdk_42_method_46_33 rfl (wd219 hw) (wd220 hw) (wd111 hw) (wd221 hw) (by decide) (m_nbf hw h0 n0 Z0) pd_21 rfl rfl rfl (Nat.le_of_eq rfl) (by decide) (by decide) rfl rfl (by decide) (by decide) ?_
    rintro v h10 ⟨c10, rfl, K10, ge10, sz10, A10⟩
    have ne11 : b ≠ c10 := Nat.ne_of_lt (Nat.lt_of_lt_of_le A_b.lt sz10)
    have sy12 : h0.size ≤ c10 := Nat.le_trans K0.1 sz10
    have V13 := A_b.keep K10 nin0
    have E14 := E_b.keep K10
    have K15 := K0.trans K10 all0
    have Z16 : n0 ≤ h10.size := Nat.le_trans Z0 K10.1
    refine WP.castS (st' := [(.ref c10)]) rfl ?_
    refine WP.astore (pc' := 38) d_jdk_42_method_46_36 rfl rfl (Ls' := #[.val (.int (0 : Int32)), .val (.ref b), .val (.int (1 : Int32)), .val (.int (0 : Int32)), .val (.ref c10), .unset, .unset, .unset, .unset]) rfl ?_
    refine WP.aloadN (pc' := 39) d_jdk_42_method_46_38 rfl rfl rfl ?_
    refine WP.astore (pc' := 41) d_jdk_42_method_46_39 rfl rfl (Ls' := #[.val (.int (0 : Int32)), .val (.ref b), .val (.int (1 : Int32)), .val (.int (0 : Int32)), .val (.ref c10), .val (.ref b), .unset, .unset, .unset]) rfl ?_
    refine WP.aload (pc' := 43) d_jdk_42_method_46_41 rfl rfl rfl ?_
    refine WP.arraylengthI (z := (1 : Int32)) (pc' := 44) d_jdk_42_method_46_43 rfl V13 rfl ?_
    refine WP.istore (pc' := 46) d_jdk_42_method_46_44 rfl (Ls' := #[.val (.int (0 : Int32)), .val (.ref b), .val (.int (1 : Int32)), .val (.int (0 : Int32)), .val (.ref c10), .val (.ref b), .val (.int (1 : Int32)), .unset, .unset]) rfl ?_
    refine WP.iconst (pc' := 47) d_jdk_42_method_46_46 rfl (z := 0) rfl ?_
    refine WP.istore (pc' := 49) d_jdk_42_method_46_47 rfl (Ls' := #[.val (.int (0 : Int32)), .val (.ref b), .val (.int (1 : Int32)), .val (.int (0 : Int32)), .val (.ref c10), .val (.ref b), .val (.int (1 : Int32)), .val (.int (0 : Int32)), .unset]) rfl ?_
    refine WP.iload (pc' := 51) d_jdk_42_method_46_49 rfl rfl ?_
    refine WP.iload (pc' := 53) d_jdk_42_method_46_51 rfl rfl ?_
    have hc53 : (0 : Int32) < (1 : Int32) := by decide
    refine WP.icmp_ge (pc1 := 124) (pc2 := 56) d_jdk_42_method_46_53 (by decide) (by decide) rfl (fun k => absurd hc53 k) (fun _ => ?_)
    refine WP.aload (pc' := 58) d_jdk_42_method_46_56 rfl rfl rfl ?_
    refine WP.iload (pc' := 60) d_jdk_42_method_46_58 rfl rfl ?_
    refine WP.baloadI (0) (pc' := 61) d_jdk_42_method_46_60 rfl V13 (by decide) (by decide) rfl ?_
    refine WP.istore (pc' := 63) d_jdk_42_method_46_61 rfl (Ls' := #[.val (.int (0 : Int32)), .val (.ref b), .val (.int (1 : Int32)), .val (.int (0 : Int32)), .val (.ref c10), .val (.ref b), .val (.int (1 : Int32)), .val (.int (0 : Int32)), .val (.int (g 0))]) rfl ?_
    refine WP.iload (pc' := 65) d_jdk_42_method_46_63 rfl rfl ?_
    have hc65 : (g 0) < (0 : Int32) := q
    refine WP.ifc_ge (pc1 := 109) (pc2 := 68) d_jdk_42_method_46_65 (by decide) (by decide) rfl (fun k => absurd hc65 k) (fun _ => ?_)
    refine WP.aload (pc' := 70) d_jdk_42_method_46_68 rfl rfl rfl ?_
    refine WP.iloadN (pc' := 71) d_jdk_42_method_46_70 rfl rfl ?_
    refine WP.iinc (pc' := 74) d_jdk_42_method_46_71 rfl rfl (z := (1 : Int32)) rfl (Ls' := #[.val (.int (0 : Int32)), .val (.ref b), .val (.int (1 : Int32)), .val (.int (1 : Int32)), .val (.ref c10), .val (.ref b), .val (.int (1 : Int32)), .val (.int (0 : Int32)), .val (.int (g 0))]) rfl ?_
    refine WP.sipush (pc' := 77) d_jdk_42_method_46_74 rfl (z := 192) rfl ?_
    refine WP.iload (pc' := 79) d_jdk_42_method_46_77 rfl rfl ?_
    refine WP.sipush (pc' := 82) d_jdk_42_method_46_79 rfl (z := 255) rfl ?_
    refine WP.iand (pc' := 83) d_jdk_42_method_46_82 rfl ?_
    refine WP.bipush (pc' := 85) d_jdk_42_method_46_83 rfl (z := 6) rfl ?_
    refine WP.ishr (pc' := 86) d_jdk_42_method_46_85 rfl ?_
    refine WP.ior (pc' := 87) d_jdk_42_method_46_86 rfl ?_
    refine WP.i2b (pc' := 88) d_jdk_42_method_46_87 rfl ?_
    refine WP.bastoreI (x' := (nar .byte (((192 : Int32) ||| (((g 0) &&& (255 : Int32)) >>> ((6 : Int32) &&& 31))).toInt8.toInt32))) (0) (pc' := 89) d_jdk_42_method_46_88 rfl A10 (by decide) (by decide) ge10 rfl ?_
    intro h17 K18 A19
    have V20 := V13.keep K18 (ninS ne11 nin0)
    have E21 := E14.keep K18
    have K22 := K15.trans K18 (allS (Or.inr sy12) all0)
    have Z23 : n0 ≤ h17.size := Nat.le_trans Z16 K18.1
    refine WP.aload (pc' := 91) d_jdk_42_method_46_89 rfl rfl rfl ?_
    refine WP.iloadN (pc' := 92) d_jdk_42_method_46_91 rfl rfl ?_
    refine WP.iinc (pc' := 95) d_jdk_42_method_46_92 rfl rfl (z := (2 : Int32)) rfl (Ls' := #[.val (.int (0 : Int32)), .val (.ref b), .val (.int (1 : Int32)), .val (.int (2 : Int32)), .val (.ref c10), .val (.ref b), .val (.int (1 : Int32)), .val (.int (0 : Int32)), .val (.int (g 0))]) rfl ?_
    refine WP.sipush (pc' := 98) d_jdk_42_method_46_95 rfl (z := 128) rfl ?_
    refine WP.iload (pc' := 100) d_jdk_42_method_46_98 rfl rfl ?_
    refine WP.bipush (pc' := 102) d_jdk_42_method_46_100 rfl (z := 63) rfl ?_
    refine WP.iand (pc' := 103) d_jdk_42_method_46_102 rfl ?_
    refine WP.ior (pc' := 104) d_jdk_42_method_46_103 rfl ?_
    refine WP.i2b (pc' := 105) d_jdk_42_method_46_104 rfl ?_
    refine WP.bastoreI (x' := (nar .byte (((128 : Int32) ||| ((g 0) &&& (63 : Int32))).toInt8.toInt32))) (1) (pc' := 106) d_jdk_42_method_46_105 rfl A19 (by decide) (by decide) ge10 rfl ?_
    intro h24 K25 A26
    have V27 := V20.keep K25 (ninS ne11 nin0)
    have E28 := E21.keep K25
    have K29 := K22.trans K25 (allS (Or.inr sy12) all0)
    have Z30 : n0 ≤ h24.size := Nat.le_trans Z23 K25.1
    refine WP.goto (pc' := 118) d_jdk_42_method_46_106 (by decide) (by decide) ?_
    refine WP.iinc (pc' := 121) d_jdk_42_method_46_118 rfl rfl (z := (1 : Int32)) rfl (Ls' := #[.val (.int (0 : Int32)), .val (.ref b), .val (.int (1 : Int32)), .val (.int (2 : Int32)), .val (.ref c10), .val (.ref b), .val (.int (1 : Int32)), .val (.int (1 : Int32)), .val (.int (g 0))]) rfl ?_
    refine WP.goto (pc' := 49) d_jdk_42_method_46_121 (by decide) (by decide) ?_
    refine WP.iload (pc' := 51) d_jdk_42_method_46_49 rfl rfl ?_
    refine WP.iload (pc' := 53) d_jdk_42_method_46_51 rfl rfl ?_
    have hc53 : ¬ (1 : Int32) < (1 : Int32) := by decide
    refine WP.icmp_ge (pc1 := 124) (pc2 := 56) d_jdk_42_method_46_53 (by decide) (by decide) rfl (fun _ => ?_) (fun k => absurd k hc53)
    refine WP.iloadN (pc' := 125) d_jdk_42_method_46_124 rfl rfl ?_
    refine WP.aload (pc' := 127) d_jdk_42_method_46_125 rfl rfl rfl ?_
    refine WP.arraylengthI (z := (2 : Int32)) (pc' := 128) d_jdk_42_method_46_127 rfl A26 rfl ?_
    have hc128 : (2 : Int32) = (2 : Int32) := by decide
    refine WP.icmp_ne (pc1 := 134) (pc2 := 131) d_jdk_42_method_46_128 (by decide) (by decide) rfl (fun k => absurd hc128 k) (fun _ => ?_)
    refine WP.aload (pc' := 133) d_jdk_42_method_46_131 rfl rfl rfl ?_
    refine WP.aret d_jdk_42_method_46_133 rfl rfl rfl (by decide) (by decide) ⟨_, rfl, K29⟩
theorem d_jdk_42_method_18_0 : decode jdk_42_method_18_code 0 = .ok (.aload_n 0, 1) := by decide +kernel
theorem d_jdk_42_method_18_1 : decode jdk_42_method_18_code 1 = .ok (.getstatic 86, 3) := by decide +kernel
theorem wd196 {Z : State} {a0 : Array Value} (hw : ∀ d ∈ tables_1, d.before a0 Z = true) : (Jvm.Cond.fieldLink "java/lang/String" (86 : Nat) "sun/nio/cs/UTF_8" "INSTANCE" "Lsun/nio/cs/UTF_8;").before a0 Z = true := hw _ (List.mem_of_getElem? (i := 196) rfl)
theorem d_jdk_42_method_18_4 : decode jdk_42_method_18_code 4 = .ok (.if_acmp .ne 10, 3) := by decide +kernel
theorem d_jdk_42_method_18_7 : decode jdk_42_method_18_code 7 = .ok (.iload_n 1, 1) := by decide +kernel
theorem d_jdk_42_method_18_8 : decode jdk_42_method_18_code 8 = .ok (.aload_n 2, 1) := by decide +kernel
theorem d_jdk_42_method_18_9 : decode jdk_42_method_18_code 9 = .ok (.iconst 1, 1) := by decide +kernel
theorem d_jdk_42_method_18_10 : decode jdk_42_method_18_code 10 = .ok (.invokestatic 252, 3) := by decide +kernel
theorem wd198 {Z : State} {a0 : Array Value} (hw : ∀ d ∈ tables_1, d.before a0 Z = true) : (Jvm.Cond.methodLink "java/lang/String" (252 : Nat) ({ cls := "java/lang/String", name := "encodeUTF8", desc := "(B[BZ)[B" } : Jvm.MethodName)).before a0 Z = true := hw _ (List.mem_of_getElem? (i := 198) rfl)
theorem wd200 {Z : State} {a0 : Array Value} (hw : ∀ d ∈ tables_1, d.before a0 Z = true) : (Jvm.Cond.code ({ cls := "java/lang/String", name := "encodeUTF8", desc := "(B[BZ)[B" } : Jvm.MethodName) jdk_42_method_46_code (9 : Nat) (Option.some (Jvm.ClassFile.FieldType.array Jvm.ClassFile.FieldType.byte))).before a0 Z = true := hw _ (List.mem_of_getElem? (i := 200) rfl)
theorem pd_22 : parseMethodDescriptor "(B[BZ)[B" = some ⟨[.byte, (.array .byte), .boolean], some (.array .byte)⟩ := by decide +kernel
theorem wd199 {Z : State} {a0 : Array Value} (hw : ∀ d ∈ tables_1, d.before a0 Z = true) : (Jvm.Cond.static ({ cls := "java/lang/String", name := "encodeUTF8", desc := "(B[BZ)[B" } : Jvm.MethodName)).before a0 Z = true := hw _ (List.mem_of_getElem? (i := 199) rfl)
theorem d_jdk_42_method_18_13 : decode jdk_42_method_18_code 13 = .ok (.areturn, 1) := by decide +kernel
set_option maxRecDepth 65536 in
set_option maxHeartbeats 40000000 in
theorem m_enc {Z : State} {a0 : Array Value} (hw : ∀ d ∈ tables_1, d.before a0 Z = true)  (h0 : Heap) (n0 : Nat) (Z0 : n0 ≤ h0.size) (b : Addr) (g : Nat → Int32) (A_b : Ari Z h0 b .byte 1 g) (E_b : Exa Z h0 b "[B") (u8 : Addr) (S_UI : Sta Z h0 "sun/nio/cs/UTF_8" "INSTANCE" "Lsun/nio/cs/UTF_8;" (.ref u8)) : ∀ l, Does l Z (⟨"java/lang/String", "encode", "(Ljava/nio/charset/Charset;B[B)[B"⟩ : MethodName) jdk_42_method_18_code 3 (some (.array .byte)) ({ frames := 3, cells := 1, slots := 2, locals := 50 } : Room) n0 #[(.ref u8), (.int (0 : Int32)), (.ref b)] h0 (fun v h => ∃ c : Addr, v = some (.ref c) ∧ Keep h0 h []) := by
  intro l
  refine Does.of_wp (plainFor_of_name pn_1) (Ls := #[.val (.ref u8), .val (.int (0 : Int32)), .val (.ref b)]) (fun m => by first | (simp [entryFrame, mkF, argsToLocals, Value.category]; done) | rfl | (rcases ref_cases hfv with rfl | ⟨_, rfl⟩ <;> rfl)) ?_
  intro C
  have K0 := Keep.refl h0 []
  refine WP.aloadN (pc' := 1) d_jdk_42_method_18_0 rfl rfl rfl ?_
  refine WP.getS (pc' := 4) d_jdk_42_method_18_1 rfl (host := "") (Or.inl (wd196 hw)) Via.refl (S_UI) ?_
  have hc4 : ((.ref u8) : Value) = (.ref u8) := rfl
  refine WP.acmp_ne (pc1 := 14) (pc2 := 7) d_jdk_42_method_18_4 rfl rfl (by decide) (by decide) rfl (fun k => absurd hc4 k) (fun _ => ?_)
  refine WP.iloadN (pc' := 8) d_jdk_42_method_18_7 rfl rfl ?_
  refine WP.aloadN (pc' := 9) d_jdk_42_method_18_8 rfl rfl rfl ?_
  refine WP.iconst (pc' := 10) d_jdk_42_method_18_9 rfl (z := 1) rfl ?_
  refine WP.callS (argsL := [(.int (0 : Int32)), (.ref b), (.int (1 : Int32))]) (rest := []) (wd := 0) (cl' := 1) (sl' := 2) (pc' := 13) d_jdk_42_method_18_10 rfl (wd198 hw) (wd199 hw) (wd49 hw) (wd200 hw) (by decide) (m_en8 hw h0 n0 Z0 b g A_b E_b) pd_22 rfl rfl rfl (Nat.le_of_eq rfl) (by decide) (by decide) rfl rfl (by decide) (by decide) ?_
  rintro v h1 ⟨c1, rfl, K1⟩
  have V2 := A_b.keep K1 nin0
  have E3 := E_b.keep K1
  have K4 := K0.trans K1 all0
  have Z5 : n0 ≤ h1.size := Nat.le_trans Z0 K1.1
  refine WP.castS (st' := [(.ref c1)]) rfl ?_
  refine WP.aret d_jdk_42_method_18_13 rfl rfl rfl (by decide) (by decide) ⟨_, rfl, K4⟩
theorem d_jdk_42_method_64_0 : decode jdk_42_method_64_code 0 = .ok (.aload_n 1, 1) := by decide +kernel
theorem d_jdk_42_method_64_1 : decode jdk_42_method_64_code 1 = .ok (.ifnonnull 11, 3) := by decide +kernel
theorem d_jdk_42_method_64_12 : decode jdk_42_method_64_code 12 = .ok (.aload_n 1, 1) := by decide +kernel
theorem d_jdk_42_method_64_13 : decode jdk_42_method_64_code 13 = .ok (.aload_n 0, 1) := by decide +kernel
theorem d_jdk_42_method_64_14 : decode jdk_42_method_64_code 14 = .ok (.invokevirtual 335, 3) := by decide +kernel
theorem d_jdk_42_method_64_17 : decode jdk_42_method_64_code 17 = .ok (.aload_n 0, 1) := by decide +kernel
theorem d_jdk_42_method_64_18 : decode jdk_42_method_64_code 18 = .ok (.getfield 9, 3) := by decide +kernel
theorem d_jdk_42_method_64_21 : decode jdk_42_method_64_code 21 = .ok (.invokestatic 535, 3) := by decide +kernel
theorem wd193 {Z : State} {a0 : Array Value} (hw : ∀ d ∈ tables_1, d.before a0 Z = true) : (Jvm.Cond.methodLink "java/lang/String" (535 : Nat) ({ cls := "java/lang/String", name := "encode", desc := "(Ljava/nio/charset/Charset;B[B)[B" } : Jvm.MethodName)).before a0 Z = true := hw _ (List.mem_of_getElem? (i := 193) rfl)
theorem wd195 {Z : State} {a0 : Array Value} (hw : ∀ d ∈ tables_1, d.before a0 Z = true) : (Jvm.Cond.code ({ cls := "java/lang/String", name := "encode", desc := "(Ljava/nio/charset/Charset;B[B)[B" } : Jvm.MethodName) jdk_42_method_18_code (3 : Nat) (Option.some (Jvm.ClassFile.FieldType.array Jvm.ClassFile.FieldType.byte))).before a0 Z = true := hw _ (List.mem_of_getElem? (i := 195) rfl)
theorem pd_23 : parseMethodDescriptor "(Ljava/nio/charset/Charset;B[B)[B" = some ⟨[(.object "java/nio/charset/Charset"), .byte, (.array .byte)], some (.array .byte)⟩ := by decide +kernel
theorem wd194 {Z : State} {a0 : Array Value} (hw : ∀ d ∈ tables_1, d.before a0 Z = true) : (Jvm.Cond.static ({ cls := "java/lang/String", name := "encode", desc := "(Ljava/nio/charset/Charset;B[B)[B" } : Jvm.MethodName)).before a0 Z = true := hw _ (List.mem_of_getElem? (i := 194) rfl)
theorem d_jdk_42_method_64_24 : decode jdk_42_method_64_code 24 = .ok (.areturn, 1) := by decide +kernel
set_option maxRecDepth 65536 in
set_option maxHeartbeats 40000000 in
theorem m_gb {Z : State} {a0 : Array Value} (hw : ∀ d ∈ tables_1, d.before a0 Z = true) (a : Addr) (h0 : Heap) (n0 : Nat) (Z0 : n0 ≤ h0.size) (b : Addr) (g : Nat → Int32) (E_a : Exa Z h0 a "java/lang/String") (V_a : Fld Z h0 a "java/lang/String" "value" "[B" (.ref b)) (C_a : Fld Z h0 a "java/lang/String" "coder" "B" (.int 0)) (A_b : Ari Z h0 b .byte 1 g) (E_b : Exa Z h0 b "[B") (cs : Int32) (S_CS : Sta Z h0 "java/lang/String" "COMPACT_STRINGS" "Z" (.int cs)) (hcs : ¬ cs = 0) (u8 : Addr) (S_UI : Sta Z h0 "sun/nio/cs/UTF_8" "INSTANCE" "Lsun/nio/cs/UTF_8;" (.ref u8)) : ∀ l, Does l Z (⟨"java/lang/String", "getBytes", "(Ljava/nio/charset/Charset;)[B"⟩ : MethodName) jdk_42_method_64_code 2 (some (.array .byte)) ({ frames := 4, cells := 1, slots := 2, locals := 64 } : Room) n0 #[(.ref a), (.ref u8)] h0 (fun v h => ∃ c : Addr, v = some (.ref c) ∧ Keep h0 h []) := by
  intro l
  refine Does.of_wp (plainFor_of_name pn_1) (Ls := #[.val (.ref a), .val (.ref u8)]) (fun m => by first | (simp [entryFrame, mkF, argsToLocals, Value.category]; done) | rfl | (rcases ref_cases hfv with rfl | ⟨_, rfl⟩ <;> rfl)) ?_
  intro C
  have K0 := Keep.refl h0 []
  refine WP.aloadN (pc' := 1) d_jdk_42_method_64_0 rfl rfl rfl ?_
  refine WP.ifnonnullY (pc' := 12) d_jdk_42_method_64_1 (by decide) (by decide) ?_
  refine WP.aloadN (pc' := 13) d_jdk_42_method_64_12 rfl rfl rfl ?_
  refine WP.aloadN (pc' := 14) d_jdk_42_method_64_13 rfl rfl rfl ?_
  refine WP.callV (a := a) (K := "java/lang/String") (argsL := []) (rest := [(.ref u8)]) (wd := 1) (cl' := 0) (sl' := 0) (pc' := 17) d_jdk_42_method_64_14 rfl (wd181 hw) (wd182 hw) (nfS (wd184 hw) rfl) (wd184 hw) (wd183 hw) (wd49 hw) (wd185 hw) (by decide) E_a (s_cod hw a h0 n0 E_a C_a cs S_CS hcs) pd_9 rfl rfl rfl (Nat.le_of_eq rfl) (by decide) (by decide) rfl rfl (by decide) (by decide) ?_
  rintro v hh1 ⟨rfl, he1⟩
  rw [he1]
  refine WP.castS (st' := [(.int (0 : Int32)), (.ref u8)]) rfl ?_
  refine WP.aloadN (pc' := 18) d_jdk_42_method_64_17 rfl rfl rfl ?_
  refine WP.getF (pc' := 21) d_jdk_42_method_64_18 rfl (host := "") (Or.inl (wd120 hw)) Via.refl V_a ?_
  refine WP.callS (argsL := [(.ref u8), (.int (0 : Int32)), (.ref b)]) (rest := []) (wd := 0) (cl' := 1) (sl' := 2) (pc' := 24) d_jdk_42_method_64_21 rfl (wd193 hw) (wd194 hw) (wd49 hw) (wd195 hw) (by decide) (m_enc hw h0 n0 Z0 b g A_b E_b u8 S_UI) pd_23 rfl rfl rfl (Nat.le_of_eq rfl) (by decide) (by decide) rfl rfl (by decide) (by decide) ?_
  rintro v h2 ⟨c2, rfl, K2⟩
  have V3 := A_b.keep K2 nin0
  have E4 := E_b.keep K2
  have E5 := E_a.keep K2
  have F6 := V_a.keep K2 nin0
  have F7 := C_a.keep K2 nin0
  have K8 := K0.trans K2 all0
  have Z9 : n0 ≤ h2.size := Nat.le_trans Z0 K2.1
  refine WP.castS (st' := [(.ref c2)]) rfl ?_
  refine WP.aret d_jdk_42_method_64_24 rfl rfl rfl (by decide) (by decide) ⟨_, rfl, K8⟩
theorem d_prog_14_method_4_0 : decode prog_14_method_4_code 0 = .ok (.aload_n 0, 1) := by decide +kernel
theorem d_prog_14_method_4_1 : decode prog_14_method_4_code 1 = .ok (.iload_n 1, 1) := by decide +kernel
theorem d_prog_14_method_4_2 : decode prog_14_method_4_code 2 = .ok (.invokevirtual 48, 3) := by decide +kernel
theorem wd126 {Z : State} {a0 : Array Value} (hw : ∀ d ∈ tables_1, d.before a0 Z = true) : (Jvm.Cond.methodLink "com/example/cordon/cordon/http/Answer" (48 : Nat) ({ cls := "com/example/cordon/cordon/http/Answer", name := "give", desc := "(I)V" } : Jvm.MethodName)).before a0 Z = true := hw _ (List.mem_of_getElem? (i := 126) rfl)
theorem wd129 {Z : State} {a0 : Array Value} (hw : ∀ d ∈ tables_1, d.before a0 Z = true) : (Jvm.Cond.code ({ cls := "com/example/cordon/cordon/http/Answer", name := "give", desc := "(I)V" } : Jvm.MethodName) prog_14_method_8_code (2 : Nat) (Option.none : Option Jvm.ClassFile.FieldType)).before a0 Z = true := hw _ (List.mem_of_getElem? (i := 129) rfl)
theorem wd127 {Z : State} {a0 : Array Value} (hw : ∀ d ∈ tables_1, d.before a0 Z = true) : (Jvm.Cond.instanceMethod ({ cls := "com/example/cordon/cordon/http/Answer", name := "give", desc := "(I)V" } : Jvm.MethodName)).before a0 Z = true := hw _ (List.mem_of_getElem? (i := 127) rfl)
theorem wd45 {Z : State} {a0 : Array Value} (hw : ∀ d ∈ tables_1, d.before a0 Z = true) : (Jvm.Cond.selects "com/example/cordon/cordon/http/Answer" ({ cls := "com/example/cordon/cordon/http/Answer", name := "isGiven", desc := "()Z" } : Jvm.MethodName) ({ cls := "com/example/cordon/cordon/http/Answer", name := "isGiven", desc := "()Z" } : Jvm.MethodName)).before a0 Z = true := hw _ (List.mem_of_getElem? (i := 45) rfl)
theorem wd128 {Z : State} {a0 : Array Value} (hw : ∀ d ∈ tables_1, d.before a0 Z = true) : (Jvm.Cond.privateMethod ({ cls := "com/example/cordon/cordon/http/Answer", name := "give", desc := "(I)V" } : Jvm.MethodName)).before a0 Z = true := hw _ (List.mem_of_getElem? (i := 128) rfl)
theorem d_prog_14_method_4_5 : decode prog_14_method_4_code 5 = .ok (.aload_n 0, 1) := by decide +kernel
theorem d_prog_14_method_4_6 : decode prog_14_method_4_code 6 = .ok (.ldc 51, 2) := by decide +kernel
theorem d_prog_14_method_4_8 : decode prog_14_method_4_code 8 = .ok (.aload_n 2, 1) := by decide +kernel
theorem d_prog_14_method_4_9 : decode prog_14_method_4_code 9 = .ok (.invokevirtual 53, 3) := by decide +kernel
theorem wd131 {Z : State} {a0 : Array Value} (hw : ∀ d ∈ tables_1, d.before a0 Z = true) : (Jvm.Cond.methodLink "com/example/cordon/cordon/http/Answer" (53 : Nat) ({ cls := "com/example/cordon/cordon/http/Answer", name := "set", desc := "(Ljava/lang/String;Ljava/lang/String;)V" } : Jvm.MethodName)).before a0 Z = true := hw _ (List.mem_of_getElem? (i := 131) rfl)
theorem wd135 {Z : State} {a0 : Array Value} (hw : ∀ d ∈ tables_1, d.before a0 Z = true) : (Jvm.Cond.code ({ cls := "com/example/cordon/cordon/http/Answer", name := "set", desc := "(Ljava/lang/String;Ljava/lang/String;)V" } : Jvm.MethodName) prog_14_method_2_code (3 : Nat) (Option.none : Option Jvm.ClassFile.FieldType)).before a0 Z = true := hw _ (List.mem_of_getElem? (i := 135) rfl)
theorem wd134 {Z : State} {a0 : Array Value} (hw : ∀ d ∈ tables_1, d.before a0 Z = true) : (Jvm.Cond.selects "com/example/cordon/cordon/http/Answer" ({ cls := "com/example/cordon/cordon/http/Answer", name := "set", desc := "(Ljava/lang/String;Ljava/lang/String;)V" } : Jvm.MethodName) ({ cls := "com/example/cordon/cordon/http/Answer", name := "set", desc := "(Ljava/lang/String;Ljava/lang/String;)V" } : Jvm.MethodName)).before a0 Z = true := hw _ (List.mem_of_getElem? (i := 134) rfl)
theorem wd132 {Z : State} {a0 : Array Value} (hw : ∀ d ∈ tables_1, d.before a0 Z = true) : (Jvm.Cond.declares ({ cls := "com/example/cordon/cordon/http/Answer", name := "set", desc := "(Ljava/lang/String;Ljava/lang/String;)V" } : Jvm.MethodName)).before a0 Z = true := hw _ (List.mem_of_getElem? (i := 132) rfl)
theorem wd133 {Z : State} {a0 : Array Value} (hw : ∀ d ∈ tables_1, d.before a0 Z = true) : (Jvm.Cond.instanceMethod ({ cls := "com/example/cordon/cordon/http/Answer", name := "set", desc := "(Ljava/lang/String;Ljava/lang/String;)V" } : Jvm.MethodName)).before a0 Z = true := hw _ (List.mem_of_getElem? (i := 133) rfl)
theorem d_prog_14_method_4_12 : decode prog_14_method_4_code 12 = .ok (.aload_n 0, 1) := by decide +kernel
theorem d_prog_14_method_4_13 : decode prog_14_method_4_code 13 = .ok (.aload_n 3, 1) := by decide +kernel
theorem d_prog_14_method_4_14 : decode prog_14_method_4_code 14 = .ok (.getstatic 56, 3) := by decide +kernel
theorem wd186 {Z : State} {a0 : Array Value} (hw : ∀ d ∈ tables_1, d.before a0 Z = true) : (Jvm.Cond.fieldLink "com/example/cordon/cordon/http/Answer" (56 : Nat) "java/nio/charset/StandardCharsets" "UTF_8" "Ljava/nio/charset/Charset;").before a0 Z = true := hw _ (List.mem_of_getElem? (i := 186) rfl)
theorem d_prog_14_method_4_17 : decode prog_14_method_4_code 17 = .ok (.invokevirtual 62, 3) := by decide +kernel
theorem wd188 {Z : State} {a0 : Array Value} (hw : ∀ d ∈ tables_1, d.before a0 Z = true) : (Jvm.Cond.methodLink "com/example/cordon/cordon/http/Answer" (62 : Nat) ({ cls := "java/lang/String", name := "getBytes", desc := "(Ljava/nio/charset/Charset;)[B" } : Jvm.MethodName)).before a0 Z = true := hw _ (List.mem_of_getElem? (i := 188) rfl)
theorem wd192 {Z : State} {a0 : Array Value} (hw : ∀ d ∈ tables_1, d.before a0 Z = true) : (Jvm.Cond.code ({ cls := "java/lang/String", name := "getBytes", desc := "(Ljava/nio/charset/Charset;)[B" } : Jvm.MethodName) jdk_42_method_64_code (2 : Nat) (Option.some (Jvm.ClassFile.FieldType.array Jvm.ClassFile.FieldType.byte))).before a0 Z = true := hw _ (List.mem_of_getElem? (i := 192) rfl)
theorem pd_24 : parseMethodDescriptor "(Ljava/nio/charset/Charset;)[B" = some ⟨[(.object "java/nio/charset/Charset")], some (.array .byte)⟩ := by decide +kernel
theorem wd191 {Z : State} {a0 : Array Value} (hw : ∀ d ∈ tables_1, d.before a0 Z = true) : (Jvm.Cond.selects "java/lang/String" ({ cls := "java/lang/String", name := "getBytes", desc := "(Ljava/nio/charset/Charset;)[B" } : Jvm.MethodName) ({ cls := "java/lang/String", name := "getBytes", desc := "(Ljava/nio/charset/Charset;)[B" } : Jvm.MethodName)).before a0 Z = true := hw _ (List.mem_of_getElem? (i := 191) rfl)
theorem wd189 {Z : State} {a0 : Array Value} (hw : ∀ d ∈ tables_1, d.before a0 Z = true) : (Jvm.Cond.declares ({ cls := "java/lang/String", name := "getBytes", desc := "(Ljava/nio/charset/Charset;)[B" } : Jvm.MethodName)).before a0 Z = true := hw _ (List.mem_of_getElem? (i := 189) rfl)
theorem wd190 {Z : State} {a0 : Array Value} (hw : ∀ d ∈ tables_1, d.before a0 Z = true) : (Jvm.Cond.instanceMethod ({ cls := "java/lang/String", name := "getBytes", desc := "(Ljava/nio/charset/Charset;)[B" } : Jvm.MethodName)).before a0 Z = true := hw _ (List.mem_of_getElem? (i := 190) rfl)
theorem d_prog_14_method_4_20 : decode prog_14_method_4_code 20 = .ok (.putfield 26, 3) := by decide +kernel
theorem d_prog_14_method_4_23 : decode prog_14_method_4_code 23 = .ok (.return_, 1) := by decide +kernel
set_option maxRecDepth 65536 in
set_option maxHeartbeats 40000000 in
theorem m_snd {Z : State} {a0 : Array Value} (hw : ∀ d ∈ tables_1, d.before a0 Z = true) (a : Addr) (s : Int32) (ct : Addr) (bd : Addr) (h0 : Heap) (n0 : Nat) (Z0 : n0 ≤ h0.size) (O0 : Old Z n0 h0) (cs : Int32) (S_CS : Sta Z Z.heap "java/lang/String" "COMPACT_STRINGS" "Z" (.int cs)) (hcs : ¬ cs = 0) (g_a : n0 ≤ a) (f nb : Addr) (Ea_a : Exa Z h0 a "com/example/cordon/cordon/http/Answer") (Ft_a : Fld Z h0 a "com/example/cordon/cordon/http/Answer" "status" "I" (.int (-1))) (Fl_a : Fld Z h0 a "com/example/cordon/cordon/http/Answer" "fields" "Ljava/util/List;" (.ref f)) (Fb_a : Fld Z h0 a "com/example/cordon/cordon/http/Answer" "body" "[B" (.ref nb)) (g_f : n0 ≤ f) (e : Addr) (g_e : n0 ≤ e) (n_fe : f ≠ e) (mc z : Int32) (n : Nat) (hz : z.toInt = (n : Int)) (hn : n < 8) (g : Nat → Value) (E_f : Exa Z h0 f "java/util/ArrayList") (Fm_f : Fld Z h0 f "java/util/AbstractList" "modCount" "I" (.int mc)) (Fe_f : Fld Z h0 f "java/util/ArrayList" "elementData" "[Ljava/lang/Object;" (.ref e)) (Fs_f : Fld Z h0 f "java/util/ArrayList" "size" "I" (.int z)) (A_e : Arf Z h0 e (.object "java/lang/Object") 8 g) (O_e : Ocl Z h0 e "java/lang/Object") (n_af : a ≠ f) (n_ae : a ≠ e) (bb : Addr) (gd : Nat → Int32) (E_bd : Exa Z h0 bd "java/lang/String") (V_bd : Fld Z h0 bd "java/lang/String" "value" "[B" (.ref bb)) (C_bd : Fld Z h0 bd "java/lang/String" "coder" "B" (.int 0)) (A_bb : Ari Z h0 bb .byte 1 gd) (XBb : Exa Z h0 bb "[B") (m1 : bd ≠ a) (m2 : bd ≠ f) (m3 : bd ≠ e) (m4 : bb ≠ a) (m5 : bb ≠ f) (m6 : bb ≠ e) (hel : ∀ i, i < n → ElemOk Z h0 12 a (g i)) (u8 : Addr) (S_U8 : Sta Z Z.heap "java/nio/charset/StandardCharsets" "UTF_8" "Ljava/nio/charset/Charset;" (.ref u8)) (S_UI : Sta Z Z.heap "sun/nio/cs/UTF_8" "INSTANCE" "Lsun/nio/cs/UTF_8;" (.ref u8)) : ∀ l, DoesH l Z consts_1 (⟨"com/example/cordon/cordon/http/Answer", "send", "(ILjava/lang/String;Ljava/lang/String;)V"⟩ : MethodName) prog_14_method_4_code 4 none ({ frames := 8, cells := 5, slots := 57, locals := 3088 } : Room) n0 #[(.ref a), (.int s), (.ref ct), (.ref bd)] h0 (fun v h => v = none ∧ Keep h0 h [a, f, e] ∧ Exa Z h a "com/example/cordon/cordon/http/Answer" ∧ Fld Z h a "com/example/cordon/cordon/http/Answer" "status" "I" (.int s)) := by
  intro l
  refine DoesH.of_wp (plainFor_of_name pn_6) (Ls := #[.val (.ref a), .val (.int s), .val (.ref ct), .val (.ref bd)]) (fun m => by first | (simp [entryFrame, mkF, argsToLocals, Value.category]; done) | rfl | (rcases ref_cases hfv with rfl | ⟨_, rfl⟩ <;> rfl)) ?_
  intro C vm0 Hd0
  have K0 := Keep.refl h0 [a, f, e]
  have Sf_a : Safe Z consts_1 vm0 h0 a := Safe.obj Hd0.warm Ea_a (by decide) (by decide)
  have Sf_f : Safe Z consts_1 vm0 h0 f := Safe.obj Hd0.warm E_f (by decide) (by decide)
  have Sf_e : Safe Z consts_1 vm0 h0 e := Safe.arf Hd0.warm A_e (by decide)
  refine WP.aloadN (pc' := 1) d_prog_14_method_4_0 rfl rfl rfl ?_
  refine WP.iloadN (pc' := 2) d_prog_14_method_4_1 rfl rfl ?_
  refine WP.callP (a := a) (argsL := [(.int s)]) (rest := []) (wd := 0) (cl' := 0) (sl' := 0) (pc' := 5) d_prog_14_method_4_2 rfl (wd126 hw) (wd127 hw) (selPriv (wd45 hw) rfl (wd128 hw) (wd127 hw) (by decide)) (wd128 hw) (wd2 hw) (wd129 hw) (by decide) Ea_a (m_gie hw a s h0 n0 Z0 g_a f nb Ea_a Ft_a Fl_a Fb_a) pd_5 rfl rfl rfl (Nat.le_of_eq rfl) (by decide) (by decide) rfl rfl (by decide) (by decide) ?_
  rintro v h1 ⟨rfl, K1, Ea1, Ft1, Fl1, Fb1⟩
  have E2 := E_f.keep K1
  have F3 := Fm_f.keep K1 (ninS (Ne.symm n_af) nin0)
  have F4 := Fe_f.keep K1 (ninS (Ne.symm n_af) nin0)
  have F5 := Fs_f.keep K1 (ninS (Ne.symm n_af) nin0)
  have V6 := A_e.keep K1 (ninS (Ne.symm n_ae) nin0)
  have O7 := O_e.keep K1
  have E8 := Ea_a.keep K1
  have E9 := E_bd.keep K1
  have F10 := V_bd.keep K1 (ninS m1 nin0)
  have F11 := C_bd.keep K1 (ninS m1 nin0)
  have V12 := A_bb.keep K1 (ninS m4 nin0)
  have E13 := XBb.keep K1
  have O14 := O0.keep K1 (allS g_a all0)
  have K15 := K0.trans K1 (allS (Or.inl (by simp)) all0)
  have Sf16 := Safe.keep K1 (allS Sf_a all0) Hd0.ch Sf_a
  have Sf17 := Safe.keep K1 (allS Sf_a all0) Hd0.ch Sf_f
  have Sf18 := Safe.keep K1 (allS Sf_a all0) Hd0.ch Sf_e
  have Hd19 := Hd0.keep K1 (allS Sf_a all0)
  have Z20 : n0 ≤ h1.size := Nat.le_trans Z0 K1.1
  have hel1 : ∀ i, i < n → ElemOk Z h1 12 a (g i) := fun i hi => (hel i hi).keep K1
  refine WP.castS (st' := []) rfl ?_
  refine WP.aloadN (pc' := 6) d_prog_14_method_4_5 rfl rfl rfl ?_
  refine WP.ldcH (n := 48) (vs := [.int 67, .int 111, .int 110, .int 116, .int 101, .int 110, .int 116, .int 45, .int 84, .int 121, .int 112, .int 101]) (z := 12) (cl' := 2) (sl' := 52) (pc' := 8) d_prog_14_method_4_6 rfl (wd130 hw) (wSw hw) (hELw hw) (List.mem_of_getElem? (i := 0) rfl) Hd19 ⟨by decide, by decide⟩ (by decide) rfl (by decide) (by decide) rfl rfl (by decide) (by decide) ?_
  intro vm21 h21 la21 lb21 lk21 E21 X21 Fc21 Fv21 A21 Hd21 Cr21 Ne21
  have Sf22 := Cr21.safe Ea1.lt Sf16
  have Sf23 := Cr21.safe E2.lt Sf17
  have Sf24 := Cr21.safe V6.lt Sf18
  have E25 := E2.ext E21
  have F26 := F3.ext E21
  have F27 := F4.ext E21
  have F28 := F5.ext E21
  have V29 := V6.ext E21
  have O30 := O7.ext E21
  have E31 := Ea1.ext E21
  have E32 := E9.ext E21
  have F33 := F10.ext E21
  have F34 := F11.ext E21
  have V35 := V12.ext E21
  have E36 := E13.ext E21
  have F37 := Ft1.ext E21
  have F38 := Fl1.ext E21
  have F39 := Fb1.ext E21
  have O40 := O14.ext E21
  have K41 := K15.ext E21
  have Z42 : n0 ≤ h21.size := Nat.le_trans Z20 E21.1
  have ne43 : a ≠ la21 := (Ne21 _ Sf22).1
  have ne44 : a ≠ lb21 := (Ne21 _ Sf22).2
  have ne45 : f ≠ la21 := (Ne21 _ Sf23).1
  have ne46 : f ≠ lb21 := (Ne21 _ Sf23).2
  have ne47 : e ≠ la21 := (Ne21 _ Sf24).1
  have ne48 : e ≠ lb21 := (Ne21 _ Sf24).2
  have AL21 := Ari.of_arv (L := [67, 111, 110, 116, 101, 110, 116, 45, 84, 121, 112, 101]) A21 rfl rfl (by decide)
  refine WP.aloadN (pc' := 9) d_prog_14_method_4_8 rfl rfl rfl ?_
  refine WP.callV (a := a) (K := "com/example/cordon/cordon/http/Answer") (argsL := [(.ref la21), (.ref ct)]) (rest := []) (wd := 0) (cl' := 4) (sl' := 55) (pc' := 12) d_prog_14_method_4_9 rfl (wd131 hw) (wd132 hw) (nfS (wd134 hw) rfl) (wd134 hw) (wd133 hw) (wd2 hw) (wd135 hw) (by decide) E31 (m_ase hw a la21 ct h21 n0 Z42 f g_f e g_e n_fe mc z n hz hn g E25 F26 F27 F28 V29 O30 F38 O40 cs S_CS hcs lb21 12 (litG [67, 111, 110, 116, 101, 110, 116, 45, 84, 121, 112, 101]) X21 Fv21 Fc21 AL21 (by omega) (fun i hi => (hel1 i hi).ext E21)) pd_7 rfl rfl rfl (Nat.le_of_eq rfl) (by decide) (by decide) rfl rfl (by decide) (by decide) ?_
  rintro v h49 ⟨rfl, x49, K49, ge49, sz49, E49, Fm49, Fe49, Fs49, A49, O49, Ex49, Fx49⟩
  have ne50 : f ≠ x49 := Nat.ne_of_lt (Nat.lt_of_lt_of_le E25.lt sz49)
  have ne51 : e ≠ x49 := Nat.ne_of_lt (Nat.lt_of_lt_of_le V29.lt sz49)
  have ne52 : a ≠ x49 := Nat.ne_of_lt (Nat.lt_of_lt_of_le E31.lt sz49)
  have ne53 : bd ≠ x49 := Nat.ne_of_lt (Nat.lt_of_lt_of_le E32.lt sz49)
  have ne54 : bb ≠ x49 := Nat.ne_of_lt (Nat.lt_of_lt_of_le V35.lt sz49)
  have ne55 : la21 ≠ x49 := Nat.ne_of_lt (Nat.lt_of_lt_of_le X21.lt sz49)
  have ne56 : lb21 ≠ x49 := Nat.ne_of_lt (Nat.lt_of_lt_of_le AL21.lt sz49)
  have sy57 : h0.size ≤ x49 := Nat.le_trans K41.1 sz49
  have E58 := E25.keep K49
  have O59 := O30.keep K49
  have E60 := E31.keep K49
  have E61 := E32.keep K49
  have F62 := F33.keep K49 (ninS m2 (ninS m3 nin0))
  have F63 := F34.keep K49 (ninS m2 (ninS m3 nin0))
  have V64 := V35.keep K49 (ninS m5 (ninS m6 nin0))
  have E65 := E36.keep K49
  have F66 := F37.keep K49 (ninS n_af (ninS n_ae nin0))
  have F67 := F38.keep K49 (ninS n_af (ninS n_ae nin0))
  have F68 := F39.keep K49 (ninS n_af (ninS n_ae nin0))
  have E69 := X21.keep K49
  have F70 := Fc21.keep K49 (ninS (Ne.symm ne45) (ninS (Ne.symm ne47) nin0))
  have F71 := Fv21.keep K49 (ninS (Ne.symm ne45) (ninS (Ne.symm ne47) nin0))
  have V72 := AL21.keep K49 (ninS (Ne.symm ne46) (ninS (Ne.symm ne48) nin0))
  have O73 := O40.keep K49 (allS g_f (allS g_e all0))
  have K74 := K41.trans K49 (allS (Or.inl (by simp)) (allS (Or.inl (by simp)) all0))
  have Sf75 := Safe.keep K49 (allS Sf23 (allS Sf24 all0)) Hd21.ch Sf22
  have Sf76 := Safe.keep K49 (allS Sf23 (allS Sf24 all0)) Hd21.ch Sf23
  have Sf77 := Safe.keep K49 (allS Sf23 (allS Sf24 all0)) Hd21.ch Sf24
  have Hd78 := Hd21.keep K49 (allS Sf23 (allS Sf24 all0))
  have Z79 : n0 ≤ h49.size := Nat.le_trans Z42 K49.1
  refine WP.castS (st' := []) rfl ?_
  refine WP.aloadN (pc' := 13) d_prog_14_method_4_12 rfl rfl rfl ?_
  refine WP.aloadN (pc' := 14) d_prog_14_method_4_13 rfl rfl rfl ?_
  refine WP.getS (pc' := 17) d_prog_14_method_4_14 rfl (host := "") (Or.inl (wd186 hw)) Via.refl (S_U8.ext O73.2) ?_
  refine WP.callV (a := bd) (K := "java/lang/String") (argsL := [(.ref u8)]) (rest := [(.ref a)]) (wd := 1) (cl' := 5) (sl' := 57) (pc' := 20) d_prog_14_method_4_17 rfl (wd188 hw) (wd189 hw) (nfS (wd191 hw) rfl) (wd191 hw) (wd190 hw) (wd49 hw) (wd192 hw) (by decide) E61 (m_gb hw bd h49 n0 Z79 bb gd E61 F62 F63 V64 E65 cs (S_CS.ext O73.2) hcs u8 (S_UI.ext O73.2)) pd_24 rfl rfl rfl (Nat.le_of_eq rfl) (by decide) (by decide) rfl rfl (by decide) (by decide) ?_
  rintro v h80 ⟨c80, rfl, K80⟩
  have E81 := E49.keep K80
  have O82 := O49.keep K80
  have E83 := E60.keep K80
  have E84 := E61.keep K80
  have F85 := F62.keep K80 nin0
  have F86 := F63.keep K80 nin0
  have V87 := V64.keep K80 nin0
  have E88 := E65.keep K80
  have F89 := F66.keep K80 nin0
  have F90 := F67.keep K80 nin0
  have F91 := F68.keep K80 nin0
  have E92 := E69.keep K80
  have F93 := F70.keep K80 nin0
  have F94 := F71.keep K80 nin0
  have V95 := V72.keep K80 nin0
  have F96 := Fm49.keep K80 nin0
  have F97 := Fe49.keep K80 nin0
  have F98 := Fs49.keep K80 nin0
  have V99 := A49.keep K80 nin0
  have E100 := Ex49.keep K80
  have F101 := Fx49.keep K80 nin0
  have O102 := O73.keep K80 all0
  have K103 := K74.trans K80 all0
  have Sf104 := Safe.keep K80 all0 Hd78.ch Sf75
  have Sf105 := Safe.keep K80 all0 Hd78.ch Sf76
  have Sf106 := Safe.keep K80 all0 Hd78.ch Sf77
  have Hd107 := Hd78.keep K80 all0
  have Z108 : n0 ≤ h80.size := Nat.le_trans Z79 K80.1
  refine WP.castS (st' := [(.ref c80), (.ref a)]) rfl ?_
  refine WP.putF (pc' := 23) d_prog_14_method_4_20 rfl (host := "") (Or.inl (wd40 hw)) Via.refl F91 E83 (Or.inl (wd41 hw)) (wd1 hw) (ty := (.array .byte)) (by decide) rfl rfl g_a ?_
  intro h109 W110
  have Kw111 := Keep.of_wr W110
  have E112 := E81.keep Kw111
  have O113 := O82.keep Kw111
  have E114 := E83.keep Kw111
  have E115 := E84.keep Kw111
  have F116 := F85.keep Kw111 (ninS m1 nin0)
  have F117 := F86.keep Kw111 (ninS m1 nin0)
  have V118 := V87.keep Kw111 (ninS m4 nin0)
  have E119 := E88.keep Kw111
  have E120 := E92.keep Kw111
  have F121 := F93.keep Kw111 (ninS (Ne.symm ne43) nin0)
  have F122 := F94.keep Kw111 (ninS (Ne.symm ne43) nin0)
  have V123 := V95.keep Kw111 (ninS (Ne.symm ne44) nin0)
  have F124 := F96.keep Kw111 (ninS (Ne.symm n_af) nin0)
  have F125 := F97.keep Kw111 (ninS (Ne.symm n_af) nin0)
  have F126 := F98.keep Kw111 (ninS (Ne.symm n_af) nin0)
  have V127 := V99.keep Kw111 (ninS (Ne.symm n_ae) nin0)
  have E128 := E100.keep Kw111
  have F129 := F101.keep Kw111 (ninS (Ne.symm ne52) nin0)
  have O130 := O102.keep Kw111 (allS g_a all0)
  have K131 := K103.trans Kw111 (allS (Or.inl (by simp)) all0)
  have Sf132 := Safe.keep Kw111 (allS Sf104 all0) Hd107.ch Sf104
  have Sf133 := Safe.keep Kw111 (allS Sf104 all0) Hd107.ch Sf105
  have Sf134 := Safe.keep Kw111 (allS Sf104 all0) Hd107.ch Sf106
  have Hd135 := Hd107.keep Kw111 (allS Sf104 all0)
  have Z136 : n0 ≤ h109.size := Nat.le_trans Z108 Kw111.1
  have F137 := F89.other W110 (Or.inr (slot_ne (Or.inl (wd10 hw)) (Or.inl (wd41 hw)) (by decide) (t := .int) (t' := (.array .byte)) (by decide) (by decide)))
  have F138 := F90.other W110 (Or.inr (slot_ne (Or.inr (wd37 hw)) (Or.inl (wd41 hw)) (by decide) (t := (.object "java/util/List")) (t' := (.array .byte)) (by decide) (by decide)))
  have F139 := F91.same W110
  exact WP.vretH d_prog_14_method_4_23 rfl (hELw hw) Hd135 (by decide) (by decide) ⟨rfl, K131, E114, F137⟩
theorem wd0 {Z : State} {a0 : Array Value} (hw : ∀ d ∈ tables_1, d.before a0 Z = true) : (Jvm.Cond.classLink "com/example/cordon/cordon/http/AnswerIsGivenPinLaw" (7 : Nat) "com/example/cordon/cordon/http/Answer").before a0 Z = true := hw _ (List.mem_of_getElem? (i := 0) rfl)
theorem wd3 {Z : State} {a0 : Array Value} (hw : ∀ d ∈ tables_1, d.before a0 Z = true) : (Jvm.Cond.methodLink "com/example/cordon/cordon/http/AnswerIsGivenPinLaw" (9 : Nat) ({ cls := "com/example/cordon/cordon/http/Answer", name := "<init>", desc := "()V" } : Jvm.MethodName)).before a0 Z = true := hw _ (List.mem_of_getElem? (i := 3) rfl)
theorem wd5 {Z : State} {a0 : Array Value} (hw : ∀ d ∈ tables_1, d.before a0 Z = true) : (Jvm.Cond.code ({ cls := "com/example/cordon/cordon/http/Answer", name := "<init>", desc := "()V" } : Jvm.MethodName) prog_14_method_1_code (1 : Nat) (Option.none : Option Jvm.ClassFile.FieldType)).before a0 Z = true := hw _ (List.mem_of_getElem? (i := 5) rfl)
theorem wd4 {Z : State} {a0 : Array Value} (hw : ∀ d ∈ tables_1, d.before a0 Z = true) : (Jvm.Cond.instanceMethod ({ cls := "com/example/cordon/cordon/http/Answer", name := "<init>", desc := "()V" } : Jvm.MethodName)).before a0 Z = true := hw _ (List.mem_of_getElem? (i := 4) rfl)
theorem wd42 {Z : State} {a0 : Array Value} (hw : ∀ d ∈ tables_1, d.before a0 Z = true) : (Jvm.Cond.methodLink "com/example/cordon/cordon/http/AnswerIsGivenPinLaw" (10 : Nat) ({ cls := "com/example/cordon/cordon/http/Answer", name := "isGiven", desc := "()Z" } : Jvm.MethodName)).before a0 Z = true := hw _ (List.mem_of_getElem? (i := 42) rfl)
theorem wd46 {Z : State} {a0 : Array Value} (hw : ∀ d ∈ tables_1, d.before a0 Z = true) : (Jvm.Cond.code ({ cls := "com/example/cordon/cordon/http/Answer", name := "isGiven", desc := "()Z" } : Jvm.MethodName) prog_14_method_9_code (1 : Nat) (Option.some Jvm.ClassFile.FieldType.boolean)).before a0 Z = true := hw _ (List.mem_of_getElem? (i := 46) rfl)
theorem pd_25 : parseMethodDescriptor "()Z" = some ⟨[], some .boolean⟩ := by decide +kernel
theorem wd43 {Z : State} {a0 : Array Value} (hw : ∀ d ∈ tables_1, d.before a0 Z = true) : (Jvm.Cond.declares ({ cls := "com/example/cordon/cordon/http/Answer", name := "isGiven", desc := "()Z" } : Jvm.MethodName)).before a0 Z = true := hw _ (List.mem_of_getElem? (i := 43) rfl)
theorem wd44 {Z : State} {a0 : Array Value} (hw : ∀ d ∈ tables_1, d.before a0 Z = true) : (Jvm.Cond.instanceMethod ({ cls := "com/example/cordon/cordon/http/Answer", name := "isGiven", desc := "()Z" } : Jvm.MethodName)).before a0 Z = true := hw _ (List.mem_of_getElem? (i := 44) rfl)
theorem wd47 {Z : State} {a0 : Array Value} (hw : ∀ d ∈ tables_1, d.before a0 Z = true) : (Jvm.Cond.arrayClass Jvm.ClassFile.FieldType.char).before a0 Z = true := hw _ (List.mem_of_getElem? (i := 47) rfl)
theorem wd97 {Z : State} {a0 : Array Value} (hw : ∀ d ∈ tables_1, d.before a0 Z = true) : (Jvm.Cond.constant "com/example/cordon/cordon/http/AnswerIsGivenPinLaw" (32 : Nat) (2147483647 : Int32)).before a0 Z = true := hw _ (List.mem_of_getElem? (i := 97) rfl)
theorem wd99 {Z : State} {a0 : Array Value} (hw : ∀ d ∈ tables_1, d.before a0 Z = true) : (Jvm.Cond.classLink "com/example/cordon/cordon/http/AnswerIsGivenPinLaw" (16 : Nat) "java/lang/String").before a0 Z = true := hw _ (List.mem_of_getElem? (i := 99) rfl)
theorem wd100 {Z : State} {a0 : Array Value} (hw : ∀ d ∈ tables_1, d.before a0 Z = true) : (Jvm.Cond.methodLink "com/example/cordon/cordon/http/AnswerIsGivenPinLaw" (18 : Nat) ({ cls := "java/lang/String", name := "<init>", desc := "([C)V" } : Jvm.MethodName)).before a0 Z = true := hw _ (List.mem_of_getElem? (i := 100) rfl)
theorem wd102 {Z : State} {a0 : Array Value} (hw : ∀ d ∈ tables_1, d.before a0 Z = true) : (Jvm.Cond.code ({ cls := "java/lang/String", name := "<init>", desc := "([C)V" } : Jvm.MethodName) jdk_42_method_3_code (2 : Nat) (Option.none : Option Jvm.ClassFile.FieldType)).before a0 Z = true := hw _ (List.mem_of_getElem? (i := 102) rfl)
theorem pd_26 : parseMethodDescriptor "([C)V" = some ⟨[(.array .char)], none⟩ := by decide +kernel
theorem wd101 {Z : State} {a0 : Array Value} (hw : ∀ d ∈ tables_1, d.before a0 Z = true) : (Jvm.Cond.instanceMethod ({ cls := "java/lang/String", name := "<init>", desc := "([C)V" } : Jvm.MethodName)).before a0 Z = true := hw _ (List.mem_of_getElem? (i := 101) rfl)
theorem wd121 {Z : State} {a0 : Array Value} (hw : ∀ d ∈ tables_1, d.before a0 Z = true) : (Jvm.Cond.methodLink "com/example/cordon/cordon/http/AnswerIsGivenPinLaw" (35 : Nat) ({ cls := "com/example/cordon/cordon/http/Answer", name := "send", desc := "(ILjava/lang/String;Ljava/lang/String;)V" } : Jvm.MethodName)).before a0 Z = true := hw _ (List.mem_of_getElem? (i := 121) rfl)
theorem wd125 {Z : State} {a0 : Array Value} (hw : ∀ d ∈ tables_1, d.before a0 Z = true) : (Jvm.Cond.code ({ cls := "com/example/cordon/cordon/http/Answer", name := "send", desc := "(ILjava/lang/String;Ljava/lang/String;)V" } : Jvm.MethodName) prog_14_method_4_code (4 : Nat) (Option.none : Option Jvm.ClassFile.FieldType)).before a0 Z = true := hw _ (List.mem_of_getElem? (i := 125) rfl)
theorem pd_27 : parseMethodDescriptor "(ILjava/lang/String;Ljava/lang/String;)V" = some ⟨[.int, (.object "java/lang/String"), (.object "java/lang/String")], none⟩ := by decide +kernel
theorem wd124 {Z : State} {a0 : Array Value} (hw : ∀ d ∈ tables_1, d.before a0 Z = true) : (Jvm.Cond.selects "com/example/cordon/cordon/http/Answer" ({ cls := "com/example/cordon/cordon/http/Answer", name := "send", desc := "(ILjava/lang/String;Ljava/lang/String;)V" } : Jvm.MethodName) ({ cls := "com/example/cordon/cordon/http/Answer", name := "send", desc := "(ILjava/lang/String;Ljava/lang/String;)V" } : Jvm.MethodName)).before a0 Z = true := hw _ (List.mem_of_getElem? (i := 124) rfl)
theorem wd122 {Z : State} {a0 : Array Value} (hw : ∀ d ∈ tables_1, d.before a0 Z = true) : (Jvm.Cond.declares ({ cls := "com/example/cordon/cordon/http/Answer", name := "send", desc := "(ILjava/lang/String;Ljava/lang/String;)V" } : Jvm.MethodName)).before a0 Z = true := hw _ (List.mem_of_getElem? (i := 122) rfl)
theorem wd123 {Z : State} {a0 : Array Value} (hw : ∀ d ∈ tables_1, d.before a0 Z = true) : (Jvm.Cond.instanceMethod ({ cls := "com/example/cordon/cordon/http/Answer", name := "send", desc := "(ILjava/lang/String;Ljava/lang/String;)V" } : Jvm.MethodName)).before a0 Z = true := hw _ (List.mem_of_getElem? (i := 123) rfl)
theorem wd57 {Z : State} {a0 : Array Value} (hw : ∀ d ∈ tables_1, d.before a0 Z = true) : (Jvm.Cond.methodLink "com/example/cordon/cordon/http/AnswerIsGivenPinLaw" (29 : Nat) ({ cls := "com/example/cordon/cordon/http/Answer", name := "add", desc := "(Ljava/lang/String;Ljava/lang/String;)V" } : Jvm.MethodName)).before a0 Z = true := hw _ (List.mem_of_getElem? (i := 57) rfl)
theorem wd61 {Z : State} {a0 : Array Value} (hw : ∀ d ∈ tables_1, d.before a0 Z = true) : (Jvm.Cond.code ({ cls := "com/example/cordon/cordon/http/Answer", name := "add", desc := "(Ljava/lang/String;Ljava/lang/String;)V" } : Jvm.MethodName) prog_14_method_3_code (3 : Nat) (Option.none : Option Jvm.ClassFile.FieldType)).before a0 Z = true := hw _ (List.mem_of_getElem? (i := 61) rfl)
theorem wd60 {Z : State} {a0 : Array Value} (hw : ∀ d ∈ tables_1, d.before a0 Z = true) : (Jvm.Cond.selects "com/example/cordon/cordon/http/Answer" ({ cls := "com/example/cordon/cordon/http/Answer", name := "add", desc := "(Ljava/lang/String;Ljava/lang/String;)V" } : Jvm.MethodName) ({ cls := "com/example/cordon/cordon/http/Answer", name := "add", desc := "(Ljava/lang/String;Ljava/lang/String;)V" } : Jvm.MethodName)).before a0 Z = true := hw _ (List.mem_of_getElem? (i := 60) rfl)
theorem wd58 {Z : State} {a0 : Array Value} (hw : ∀ d ∈ tables_1, d.before a0 Z = true) : (Jvm.Cond.declares ({ cls := "com/example/cordon/cordon/http/Answer", name := "add", desc := "(Ljava/lang/String;Ljava/lang/String;)V" } : Jvm.MethodName)).before a0 Z = true := hw _ (List.mem_of_getElem? (i := 58) rfl)
theorem wd59 {Z : State} {a0 : Array Value} (hw : ∀ d ∈ tables_1, d.before a0 Z = true) : (Jvm.Cond.instanceMethod ({ cls := "com/example/cordon/cordon/http/Answer", name := "add", desc := "(Ljava/lang/String;Ljava/lang/String;)V" } : Jvm.MethodName)).before a0 Z = true := hw _ (List.mem_of_getElem? (i := 59) rfl)
theorem wd218 {Z : State} {a0 : Array Value} (hw : ∀ d ∈ tables_1, d.before a0 Z = true) : (Jvm.Cond.methodLink "com/example/cordon/cordon/http/AnswerIsGivenPinLaw" (21 : Nat) ({ cls := "com/example/cordon/cordon/http/Answer", name := "set", desc := "(Ljava/lang/String;Ljava/lang/String;)V" } : Jvm.MethodName)).before a0 Z = true := hw _ (List.mem_of_getElem? (i := 218) rfl)
theorem pn_10 : plainName "com/example/cordon/cordon/http/AnswerIsGivenPinLaw" = true := by first | (simp [plainName, overriddenIn]; done) | decide +kernel
set_option maxRecDepth 65536 in
set_option maxHeartbeats 40000000 in
theorem rm0 {Z : State} {a0 : Array Value} (hw : ∀ d ∈ tables_1, d.before a0 Z = true) (x0 : Int32) (x1 : Int32) (x2 : Int32) (h0 : Heap) (n0 : Nat) (Z0 : n0 ≤ h0.size) (O0 : Old Z n0 h0) (cs : Int32) (S_CS : Sta Z Z.heap "java/lang/String" "COMPACT_STRINGS" "Z" (.int cs)) (hcs : ¬ cs = 0) (nb : Addr) (S_NB : Sta Z Z.heap "com/example/cordon/cordon/http/Answer" "NO_BODY" "[B" (.ref nb)) (u8 : Addr) (S_U8 : Sta Z Z.heap "java/nio/charset/StandardCharsets" "UTF_8" "Ljava/nio/charset/Charset;" (.ref u8)) (S_UI : Sta Z Z.heap "sun/nio/cs/UTF_8" "INSTANCE" "Lsun/nio/cs/UTF_8;" (.ref u8)) : ∀ l, DoesW l Z consts_1 x code maxLocals ret room_1 n0 #[(.int x0), (.int x1), (.int x2)] h0 (fun v _ => v = some (.int 1)) := by
  intro l
  refine DoesW.of_wp (plainFor_of_name pn_10) (Ls := #[.val (.int x0), .val (.int x1), .val (.int x2), .unset, .unset, .unset, .unset, .unset, .unset, .unset]) (fun m => by first | (simp [entryFrame, mkF, argsToLocals, Value.category, maxLocals]; done) | rfl | (rcases ref_cases hfv with rfl | ⟨_, rfl⟩ <;> rfl)) ?_
  intro C vm0 Hd0
  refine WP.newO (cl' := 1) (sl' := 3) (pc' := 3) at_0 rfl (wd0 hw) (wd1 hw) (wd2 hw) rfl rfl (by decide) (by decide) ?_
  intro h1 b1 g1 E1 A1 D1
  have Sf2 : Safe Z consts_1 vm0 h0 b1 := Safe.new (by rw [g1]; exact Nat.le_refl _)
  have ge3 : n0 ≤ b1 := by rw [g1]; exact Z0
  have O4 := O0.ext E1
  have Sf5 := Safe.ext E1 Hd0.ch Sf2
  have Hd6 := Hd0.ext E1
  have Z7 : n0 ≤ h1.size := Nat.le_trans Z0 E1.1
  have F8 : Fld Z h1 b1 "com/example/cordon/cordon/http/Answer" "status" "I" (.int (0 : Int32)) := D1 (Or.inl (wd10 hw)) (ty := .int) (by decide)
  have F9 : Fld Z h1 b1 "com/example/cordon/cordon/http/Answer" "fields" "Ljava/util/List;" .null := D1 (Or.inr (wd37 hw)) (ty := (.object "java/util/List")) (by decide)
  have F10 : Fld Z h1 b1 "com/example/cordon/cordon/http/Answer" "body" "[B" .null := D1 (Or.inl (wd41 hw)) (ty := (.array .byte)) (by decide)
  refine WP.dup (pc' := 4) at_3 rfl rfl ?_
  refine WP.callI (a := b1) (argsL := []) (rest := [(.ref b1)]) (wd := 1) (cl' := 3) (sl' := 14) (pc' := 7) at_4 rfl rfl (wd3 hw) (wd4 hw) (wd2 hw) (wd5 hw) (by decide) (m_ain hw b1 h1 n0 Z7 ge3 O4 nb S_NB A1 F8 F9 F10) pd_4 rfl rfl rfl (Nat.le_of_eq rfl) (by decide) (by decide) rfl rfl (by decide) (by decide) ?_
  rintro v h11 ⟨rfl, f11, e11, K11, gef11, gee11, szf11, sze11, nfe11, Ea11, Ft11, Fl11, Fb11, E11, Fm11, Fe11, Fs11, A11, O11⟩
  have ne12 : b1 ≠ f11 := Nat.ne_of_lt (Nat.lt_of_lt_of_le A1.lt szf11)
  have ne13 : b1 ≠ e11 := Nat.ne_of_lt (Nat.lt_of_lt_of_le A1.lt sze11)
  have E14 := A1.keep K11
  have O15 := O4.keep K11 (allS ge3 all0)
  have Sf16 := Safe.keep K11 (allS Sf5 all0) Hd6.ch Sf5
  have Hd17 := Hd6.keep K11 (allS Sf5 all0)
  have Z18 : n0 ≤ h11.size := Nat.le_trans Z7 K11.1
  have Sff : Safe Z consts_1 vm0 h11 f11 := Safe.obj Hd17.warm E11 (by decide) (by decide)
  have Sfe : Safe Z consts_1 vm0 h11 e11 := Safe.arf Hd17.warm A11 (by decide)
  refine WP.castS (st' := [(.ref b1)]) rfl ?_
  refine WP.astoreN (pc' := 8) at_7 rfl rfl (Ls' := #[.val (.int x0), .val (.int x1), .val (.int x2), .val (.ref b1), .unset, .unset, .unset, .unset, .unset, .unset]) rfl ?_
  refine WP.aloadN (pc' := 9) at_8 rfl rfl rfl ?_
  refine WP.callV (a := b1) (K := "com/example/cordon/cordon/http/Answer") (argsL := []) (rest := []) (wd := 0) (cl' := 3) (sl' := 14) (pc' := 12) at_9 rfl (wd42 hw) (wd43 hw) (nfS (wd45 hw) rfl) (wd45 hw) (wd44 hw) (wd2 hw) (wd46 hw) (by decide) Ea11 (m_giv hw b1 h11 n0 (-1 : Int32) Ft11) pd_25 rfl rfl rfl (Nat.le_of_eq rfl) (by decide) (by decide) rfl rfl (by decide) (by decide) ?_
  rintro v hh19 ⟨rfl, he19⟩
  rw [he19, show b2i (decide (¬ (-1 : Int32) < 0)) = 0 from by decide]
  refine WP.castS (st' := [(.int (0 : Int32))]) rfl ?_
  refine WP.istore (pc' := 14) at_12 rfl (Ls' := #[.val (.int x0), .val (.int x1), .val (.int x2), .val (.ref b1), .val (.int (0 : Int32)), .unset, .unset, .unset, .unset, .unset]) rfl ?_
  refine WP.iconst (pc' := 15) at_14 rfl (z := 1) rfl ?_
  refine WP.newPI (ty := .char) (n := 1) (cap := 1) (cl' := 4) (sl' := 15) (pc' := 17) at_15 rfl rfl rfl (wd47 hw) (by decide) (by decide) (by decide) rfl rfl (by decide) (by decide) ?_
  intro h20 b20 g20 E20 A20
  have Sf21 : Safe Z consts_1 vm0 h11 b20 := Safe.new (by rw [g20]; exact Nat.le_refl _)
  have ge22 : n0 ≤ b20 := by rw [g20]; exact Z18
  have ne23 : b1 ≠ b20 := by rw [g20]; exact Nat.ne_of_lt Ea11.lt
  have ne24 : f11 ≠ b20 := by rw [g20]; exact Nat.ne_of_lt E11.lt
  have ne25 : e11 ≠ b20 := by rw [g20]; exact Nat.ne_of_lt A11.lt
  have E26 := Ea11.ext E20
  have F27 := Ft11.ext E20
  have F28 := Fl11.ext E20
  have F29 := Fb11.ext E20
  have E30 := E11.ext E20
  have F31 := Fm11.ext E20
  have F32 := Fe11.ext E20
  have F33 := Fs11.ext E20
  have V34 := A11.ext E20
  have O35 := O11.ext E20
  have O36 := O15.ext E20
  have Sf37 := Safe.ext E20 Hd17.ch Sf16
  have Sf38 := Safe.ext E20 Hd17.ch Sff
  have Sf39 := Safe.ext E20 Hd17.ch Sfe
  have Sf40 := Safe.ext E20 Hd17.ch Sf21
  have Hd41 := Hd17.ext E20
  have Z42 : n0 ≤ h20.size := Nat.le_trans Z18 E20.1
  refine WP.dup (pc' := 18) at_17 rfl rfl ?_
  refine WP.iconst (pc' := 19) at_18 rfl (z := 0) rfl ?_
  refine WP.iloadN (pc' := 20) at_19 rfl rfl ?_
  refine WP.sipush (pc' := 23) at_20 rfl (z := 255) rfl ?_
  refine WP.iand (pc' := 24) at_23 rfl ?_
  refine WP.i2c (pc' := 25) at_24 rfl ?_
  refine WP.castoreI (x' := ((x1 &&& (255 : Int32)).toUInt32.toUInt16.toUInt32.toInt32)) (0) (pc' := 26) at_25 rfl A20 (by decide) (by decide) ge22 (narC (i2c_b8 _)) ?_
  intro h43 K44 A45
  have E46 := E26.keep K44
  have F47 := F27.keep K44 (ninS ne23 nin0)
  have F48 := F28.keep K44 (ninS ne23 nin0)
  have F49 := F29.keep K44 (ninS ne23 nin0)
  have E50 := E30.keep K44
  have F51 := F31.keep K44 (ninS ne24 nin0)
  have F52 := F32.keep K44 (ninS ne24 nin0)
  have F53 := F33.keep K44 (ninS ne24 nin0)
  have V54 := V34.keep K44 (ninS ne25 nin0)
  have O55 := O35.keep K44
  have O56 := O36.keep K44 (allS ge22 all0)
  have Sf57 := Safe.keep K44 (allS Sf40 all0) Hd41.ch Sf37
  have Sf58 := Safe.keep K44 (allS Sf40 all0) Hd41.ch Sf38
  have Sf59 := Safe.keep K44 (allS Sf40 all0) Hd41.ch Sf39
  have Sf60 := Safe.keep K44 (allS Sf40 all0) Hd41.ch Sf40
  have Hd61 := Hd41.keep K44 (allS Sf40 all0)
  have Z62 : n0 ≤ h43.size := Nat.le_trans Z42 K44.1
  refine WP.astore (pc' := 28) at_26 rfl rfl (Ls' := #[.val (.int x0), .val (.int x1), .val (.int x2), .val (.ref b1), .val (.int (0 : Int32)), .val (.ref b20), .unset, .unset, .unset, .unset]) rfl ?_
  refine WP.iloadN (pc' := 29) at_28 rfl rfl ?_
  refine WP.iconst (pc' := 30) at_29 rfl (z := 1) rfl ?_
  refine WP.iand (pc' := 31) at_30 rfl ?_
  refine WP.ifc_eq (pc1 := 49) (pc2 := 34) at_31 (by decide) (by decide) rfl ?_ ?_
  · intro hc31
    refine WP.iloadN (pc' := 50) at_49 rfl rfl ?_
    refine WP.iconst (pc' := 51) at_50 rfl (z := 2) rfl ?_
    refine WP.iand (pc' := 52) at_51 rfl ?_
    refine WP.ifc_eq (pc1 := 63) (pc2 := 55) at_52 (by decide) (by decide) rfl ?_ ?_
    · intro hc52
      refine WP.aloadN (pc' := 64) at_63 rfl rfl rfl ?_
      refine WP.callV (a := b1) (K := "com/example/cordon/cordon/http/Answer") (argsL := []) (rest := []) (wd := 0) (cl' := 4) (sl' := 15) (pc' := 67) at_64 rfl (wd42 hw) (wd43 hw) (nfS (wd45 hw) rfl) (wd45 hw) (wd44 hw) (wd2 hw) (wd46 hw) (by decide) E46 (m_giv hw b1 h43 n0 (-1 : Int32) F47) pd_25 rfl rfl rfl (Nat.le_of_eq rfl) (by decide) (by decide) rfl rfl (by decide) (by decide) ?_
      rintro v hh63 ⟨rfl, he63⟩
      rw [he63, show b2i (decide (¬ (-1 : Int32) < 0)) = 0 from by decide]
      refine WP.castS (st' := [(.int (0 : Int32))]) rfl ?_
      refine WP.istore (pc' := 69) at_67 rfl (Ls' := #[.val (.int x0), .val (.int x1), .val (.int x2), .val (.ref b1), .val (.int (0 : Int32)), .val (.ref b20), .val (.int (0 : Int32)), .unset, .unset, .unset]) rfl ?_
      refine WP.iloadN (pc' := 70) at_69 rfl rfl ?_
      refine WP.ldcI (pc' := 72) at_70 rfl (wd97 hw) ?_
      refine WP.iand (pc' := 73) at_72 rfl ?_
      refine WP.istore (pc' := 75) at_73 rfl (Ls' := #[.val (.int x0), .val (.int x1), .val (.int x2), .val (.ref b1), .val (.int (0 : Int32)), .val (.ref b20), .val (.int (0 : Int32)), .val (.int (x0 &&& (2147483647 : Int32))), .unset, .unset]) rfl ?_
      refine WP.iconst (pc' := 76) at_75 rfl (z := 1) rfl ?_
      refine WP.newPI (ty := .char) (n := 1) (cap := 1) (cl' := 5) (sl' := 16) (pc' := 78) at_76 rfl rfl rfl (wd47 hw) (by decide) (by decide) (by decide) rfl rfl (by decide) (by decide) ?_
      intro h64 b64 g64 E64 A64
      have Sf65 : Safe Z consts_1 vm0 h43 b64 := Safe.new (by rw [g64]; exact Nat.le_refl _)
      have ge66 : n0 ≤ b64 := by rw [g64]; exact Z62
      have ne67 : b1 ≠ b64 := by rw [g64]; exact Nat.ne_of_lt E46.lt
      have ne68 : f11 ≠ b64 := by rw [g64]; exact Nat.ne_of_lt E50.lt
      have ne69 : e11 ≠ b64 := by rw [g64]; exact Nat.ne_of_lt V54.lt
      have ne70 : b20 ≠ b64 := by rw [g64]; exact Nat.ne_of_lt A45.lt
      have E71 := E46.ext E64
      have F72 := F47.ext E64
      have F73 := F48.ext E64
      have F74 := F49.ext E64
      have E75 := E50.ext E64
      have F76 := F51.ext E64
      have F77 := F52.ext E64
      have F78 := F53.ext E64
      have V79 := V54.ext E64
      have O80 := O55.ext E64
      have V81 := A45.ext E64
      have O82 := O56.ext E64
      have Sf83 := Safe.ext E64 Hd61.ch Sf57
      have Sf84 := Safe.ext E64 Hd61.ch Sf58
      have Sf85 := Safe.ext E64 Hd61.ch Sf59
      have Sf86 := Safe.ext E64 Hd61.ch Sf60
      have Sf87 := Safe.ext E64 Hd61.ch Sf65
      have Hd88 := Hd61.ext E64
      have Z89 : n0 ≤ h64.size := Nat.le_trans Z62 E64.1
      refine WP.dup (pc' := 79) at_78 rfl rfl ?_
      refine WP.iconst (pc' := 80) at_79 rfl (z := 0) rfl ?_
      refine WP.iloadN (pc' := 81) at_80 rfl rfl ?_
      refine WP.sipush (pc' := 84) at_81 rfl (z := 255) rfl ?_
      refine WP.iand (pc' := 85) at_84 rfl ?_
      refine WP.i2c (pc' := 86) at_85 rfl ?_
      refine WP.castoreI (x' := ((x1 &&& (255 : Int32)).toUInt32.toUInt16.toUInt32.toInt32)) (0) (pc' := 87) at_86 rfl A64 (by decide) (by decide) ge66 (narC (i2c_b8 _)) ?_
      intro h90 K91 A92
      have E93 := E71.keep K91
      have F94 := F72.keep K91 (ninS ne67 nin0)
      have F95 := F73.keep K91 (ninS ne67 nin0)
      have F96 := F74.keep K91 (ninS ne67 nin0)
      have E97 := E75.keep K91
      have F98 := F76.keep K91 (ninS ne68 nin0)
      have F99 := F77.keep K91 (ninS ne68 nin0)
      have F100 := F78.keep K91 (ninS ne68 nin0)
      have V101 := V79.keep K91 (ninS ne69 nin0)
      have O102 := O80.keep K91
      have V103 := V81.keep K91 (ninS ne70 nin0)
      have O104 := O82.keep K91 (allS ge66 all0)
      have Sf105 := Safe.keep K91 (allS Sf87 all0) Hd88.ch Sf83
      have Sf106 := Safe.keep K91 (allS Sf87 all0) Hd88.ch Sf84
      have Sf107 := Safe.keep K91 (allS Sf87 all0) Hd88.ch Sf85
      have Sf108 := Safe.keep K91 (allS Sf87 all0) Hd88.ch Sf86
      have Sf109 := Safe.keep K91 (allS Sf87 all0) Hd88.ch Sf87
      have Hd110 := Hd88.keep K91 (allS Sf87 all0)
      have Z111 : n0 ≤ h90.size := Nat.le_trans Z89 K91.1
      refine WP.astore (pc' := 89) at_87 rfl rfl (Ls' := #[.val (.int x0), .val (.int x1), .val (.int x2), .val (.ref b1), .val (.int (0 : Int32)), .val (.ref b20), .val (.int (0 : Int32)), .val (.int (x0 &&& (2147483647 : Int32))), .val (.ref b64), .unset]) rfl ?_
      refine WP.aloadN (pc' := 90) at_89 rfl rfl rfl ?_
      refine WP.iload (pc' := 92) at_90 rfl rfl ?_
      refine WP.ldcH (n := 40) (vs := [.int 116, .int 101, .int 120, .int 116, .int 47, .int 112, .int 108, .int 97, .int 105, .int 110]) (z := 10) (cl' := 7) (sl' := 60) (pc' := 94) at_92 rfl (wd98 hw) (wSw hw) (hELw hw) (List.mem_of_getElem? (i := 4) rfl) Hd110 ⟨by decide, by decide⟩ (by decide) rfl (by decide) (by decide) rfl rfl (by decide) (by decide) ?_
      intro vm112 h112 la112 lb112 lk112 E112 X112 Fc112 Fv112 A112 Hd112 Cr112 Ne112
      have Sf113 := Cr112.safe E93.lt Sf105
      have Sf114 := Cr112.safe E97.lt Sf106
      have Sf115 := Cr112.safe V101.lt Sf107
      have Sf116 := Cr112.safe V103.lt Sf108
      have Sf117 := Cr112.safe A92.lt Sf109
      have E118 := E93.ext E112
      have F119 := F94.ext E112
      have F120 := F95.ext E112
      have F121 := F96.ext E112
      have E122 := E97.ext E112
      have F123 := F98.ext E112
      have F124 := F99.ext E112
      have F125 := F100.ext E112
      have V126 := V101.ext E112
      have O127 := O102.ext E112
      have V128 := V103.ext E112
      have V129 := A92.ext E112
      have O130 := O104.ext E112
      have Z131 : n0 ≤ h112.size := Nat.le_trans Z111 E112.1
      have ne132 : b1 ≠ la112 := (Ne112 _ Sf113).1
      have ne133 : b1 ≠ lb112 := (Ne112 _ Sf113).2
      have ne134 : f11 ≠ la112 := (Ne112 _ Sf114).1
      have ne135 : f11 ≠ lb112 := (Ne112 _ Sf114).2
      have ne136 : e11 ≠ la112 := (Ne112 _ Sf115).1
      have ne137 : e11 ≠ lb112 := (Ne112 _ Sf115).2
      have ne138 : b20 ≠ la112 := (Ne112 _ Sf116).1
      have ne139 : b20 ≠ lb112 := (Ne112 _ Sf116).2
      have ne140 : b64 ≠ la112 := (Ne112 _ Sf117).1
      have ne141 : b64 ≠ lb112 := (Ne112 _ Sf117).2
      have AL112 := Ari.of_arv (L := [116, 101, 120, 116, 47, 112, 108, 97, 105, 110]) A112 rfl rfl (by decide)
      refine WP.newO (cl' := 8) (sl' := 64) (pc' := 97) at_94 rfl (wd99 hw) (wd50 hw) (wd49 hw) rfl rfl (by decide) (by decide) ?_
      intro h142 b142 g142 E142 A142 D142
      have Sf143 : Safe Z consts_1 vm112 h112 b142 := Safe.new (by rw [g142]; exact Nat.le_refl _)
      have ge144 : n0 ≤ b142 := by rw [g142]; exact Z131
      have ne145 : b1 ≠ b142 := by rw [g142]; exact Nat.ne_of_lt E118.lt
      have ne146 : f11 ≠ b142 := by rw [g142]; exact Nat.ne_of_lt E122.lt
      have ne147 : e11 ≠ b142 := by rw [g142]; exact Nat.ne_of_lt V126.lt
      have ne148 : b20 ≠ b142 := by rw [g142]; exact Nat.ne_of_lt V128.lt
      have ne149 : b64 ≠ b142 := by rw [g142]; exact Nat.ne_of_lt V129.lt
      have ne150 : la112 ≠ b142 := by rw [g142]; exact Nat.ne_of_lt X112.lt
      have ne151 : lb112 ≠ b142 := by rw [g142]; exact Nat.ne_of_lt AL112.lt
      have E152 := E118.ext E142
      have F153 := F119.ext E142
      have F154 := F120.ext E142
      have F155 := F121.ext E142
      have E156 := E122.ext E142
      have F157 := F123.ext E142
      have F158 := F124.ext E142
      have F159 := F125.ext E142
      have V160 := V126.ext E142
      have O161 := O127.ext E142
      have V162 := V128.ext E142
      have V163 := V129.ext E142
      have E164 := X112.ext E142
      have F165 := Fc112.ext E142
      have F166 := Fv112.ext E142
      have V167 := AL112.ext E142
      have O168 := O130.ext E142
      have Sf169 := Safe.ext E142 Hd112.ch Sf113
      have Sf170 := Safe.ext E142 Hd112.ch Sf114
      have Sf171 := Safe.ext E142 Hd112.ch Sf115
      have Sf172 := Safe.ext E142 Hd112.ch Sf116
      have Sf173 := Safe.ext E142 Hd112.ch Sf117
      have Sf174 := Safe.ext E142 Hd112.ch Sf143
      have Hd175 := Hd112.ext E142
      have Z176 : n0 ≤ h142.size := Nat.le_trans Z131 E142.1
      have F177 : Fld Z h142 b142 "java/lang/String" "value" "[B" .null := D142 (Or.inr (wd52 hw)) (ty := (.array .byte)) (by decide)
      have F178 : Fld Z h142 b142 "java/lang/String" "coder" "B" (.int (0 : Int32)) := D142 (Or.inr (wd53 hw)) (ty := .byte) (by decide)
      refine WP.dup (pc' := 98) at_97 rfl rfl ?_
      refine WP.aload (pc' := 100) at_98 rfl rfl rfl ?_
      refine WP.callI (a := b142) (argsL := [(.ref b64)]) (rest := [(.ref b142), (.ref la112), (.int (x0 &&& (2147483647 : Int32))), (.ref b1)]) (wd := 4) (cl' := 9) (sl' := 65) (pc' := 103) at_100 rfl rfl (wd100 hw) (wd101 hw) (wd49 hw) (wd102 hw) (by decide) (s_si hw b142 b64 h142 n0 Z176 ge144 A142 F177 F178 cs (S_CS.ext O168.2) hcs 1 (updI (fun _ => 0) 0 ((x1 &&& (255 : Int32)).toUInt32.toUInt16.toUInt32.toInt32)) V163 (by omega) (by omega) (by omega) (lat1 (i2c_b8 _)) ne149) pd_26 rfl rfl rfl (Nat.le_of_eq rfl) (by decide) (by decide) rfl rfl (by decide) (by decide) ?_
      rintro v h179 ⟨rfl, c179, K179, ge179, sz179, E179, Fv179, Fc179, B179, XB179⟩
      have ne180 : b1 ≠ c179 := Nat.ne_of_lt (Nat.lt_of_lt_of_le E152.lt sz179)
      have ne181 : f11 ≠ c179 := Nat.ne_of_lt (Nat.lt_of_lt_of_le E156.lt sz179)
      have ne182 : e11 ≠ c179 := Nat.ne_of_lt (Nat.lt_of_lt_of_le V160.lt sz179)
      have ne183 : b20 ≠ c179 := Nat.ne_of_lt (Nat.lt_of_lt_of_le V162.lt sz179)
      have ne184 : b64 ≠ c179 := Nat.ne_of_lt (Nat.lt_of_lt_of_le V163.lt sz179)
      have ne185 : la112 ≠ c179 := Nat.ne_of_lt (Nat.lt_of_lt_of_le E164.lt sz179)
      have ne186 : lb112 ≠ c179 := Nat.ne_of_lt (Nat.lt_of_lt_of_le V167.lt sz179)
      have ne187 : b142 ≠ c179 := Nat.ne_of_lt (Nat.lt_of_lt_of_le A142.lt sz179)
      have E188 := E152.keep K179
      have F189 := F153.keep K179 (ninS ne145 nin0)
      have F190 := F154.keep K179 (ninS ne145 nin0)
      have F191 := F155.keep K179 (ninS ne145 nin0)
      have E192 := E156.keep K179
      have F193 := F157.keep K179 (ninS ne146 nin0)
      have F194 := F158.keep K179 (ninS ne146 nin0)
      have F195 := F159.keep K179 (ninS ne146 nin0)
      have V196 := V160.keep K179 (ninS ne147 nin0)
      have O197 := O161.keep K179
      have V198 := V162.keep K179 (ninS ne148 nin0)
      have V199 := V163.keep K179 (ninS ne149 nin0)
      have E200 := E164.keep K179
      have F201 := F165.keep K179 (ninS ne150 nin0)
      have F202 := F166.keep K179 (ninS ne150 nin0)
      have V203 := V167.keep K179 (ninS ne151 nin0)
      have E204 := A142.keep K179
      have O205 := O168.keep K179 (allS ge144 all0)
      have Sf206 := Safe.keep K179 (allS Sf174 all0) Hd175.ch Sf169
      have Sf207 := Safe.keep K179 (allS Sf174 all0) Hd175.ch Sf170
      have Sf208 := Safe.keep K179 (allS Sf174 all0) Hd175.ch Sf171
      have Sf209 := Safe.keep K179 (allS Sf174 all0) Hd175.ch Sf172
      have Sf210 := Safe.keep K179 (allS Sf174 all0) Hd175.ch Sf173
      have Sf211 := Safe.keep K179 (allS Sf174 all0) Hd175.ch Sf174
      have Hd212 := Hd175.keep K179 (allS Sf174 all0)
      have Z213 : n0 ≤ h179.size := Nat.le_trans Z176 K179.1
      refine WP.castS (st' := [(.ref b142), (.ref la112), (.int (x0 &&& (2147483647 : Int32))), (.ref b1)]) rfl ?_
      have hel214 : ∀ i, i < 0 → ElemOk Z h179 12 b1 ((fun _ => .null) i) := fun i hi => by
        exact absurd hi (Nat.not_lt_zero _)
      refine WP.callVH (a := b1) (K := "com/example/cordon/cordon/http/Answer") (argsL := [(.int (x0 &&& (2147483647 : Int32))), (.ref la112), (.ref b142)]) (rest := []) (wd := 0) (cl' := 14) (sl' := 122) (pc' := 106) at_103 rfl (wd121 hw) (wd122 hw) (nfS (wd124 hw) rfl) (wd124 hw) (wd123 hw) (wd2 hw) (wd125 hw) (by decide) E188 (hELw hw) Hd212 (m_snd hw b1 (x0 &&& (2147483647 : Int32)) la112 b142 h179 n0 Z213 O205 cs S_CS hcs ge3 f11 nb E188 F189 F190 F191 gef11 e11 gee11 nfe11 (0 : Int32) (0 : Int32) 0 rfl (by omega) (fun _ => .null) E192 F193 F194 F195 V196 O197 ne12 ne13 c179 (fun i => cv ((updI (fun _ => 0) 0 ((x1 &&& (255 : Int32)).toUInt32.toUInt16.toUInt32.toInt32)) i)) E179 Fv179 Fc179 B179 XB179 (Ne.symm ne145) (Ne.symm ne146) (Ne.symm ne147) (Ne.symm ne180) (Ne.symm ne181) (Ne.symm ne182) hel214 u8 S_U8 S_UI) pd_27 rfl rfl rfl (Nat.le_of_eq rfl) (by decide) (by decide) rfl rfl (by decide) (by decide) ?_
      rintro v vm214 h214 ⟨rfl, K214, Ea214, Ft214⟩ Hd214 Cr214
      have O215 := O205.keep K214 (allS ge3 (allS gef11 (allS gee11 all0)))
      have Z216 : n0 ≤ h214.size := Nat.le_trans Z213 K214.1
      refine WP.castS (st' := []) rfl ?_
      refine WP.aloadN (pc' := 107) at_106 rfl rfl rfl ?_
      refine WP.callV (a := b1) (K := "com/example/cordon/cordon/http/Answer") (argsL := []) (rest := []) (wd := 0) (cl' := 14) (sl' := 122) (pc' := 110) at_107 rfl (wd42 hw) (wd43 hw) (nfS (wd45 hw) rfl) (wd45 hw) (wd44 hw) (wd2 hw) (wd46 hw) (by decide) Ea214 (m_giv hw b1 h214 n0 (x0 &&& (2147483647 : Int32)) Ft214) pd_25 rfl rfl rfl (Nat.le_of_eq rfl) (by decide) (by decide) rfl rfl (by decide) (by decide) ?_
      rintro v hh217 ⟨rfl, he217⟩
      rw [he217, show b2i (decide (¬ (x0 &&& (2147483647 : Int32)) < 0)) = 1 from b2i_1.mpr (decide_eq_true (nonneg _))]
      refine WP.castS (st' := [(.int (1 : Int32))]) rfl ?_
      refine WP.istore (pc' := 112) at_110 rfl (Ls' := #[.val (.int x0), .val (.int x1), .val (.int x2), .val (.ref b1), .val (.int (0 : Int32)), .val (.ref b20), .val (.int (0 : Int32)), .val (.int (x0 &&& (2147483647 : Int32))), .val (.ref b64), .val (.int (1 : Int32))]) rfl ?_
      refine WP.iload (pc' := 114) at_112 rfl rfl ?_
      have hc114 : (0 : Int32) = (0 : Int32) := by decide
      refine WP.ifc_ne (pc1 := 131) (pc2 := 117) at_114 (by decide) (by decide) rfl (fun k => absurd hc114 k) (fun _ => ?_)
      refine WP.iload (pc' := 119) at_117 rfl rfl ?_
      have hc119 : (0 : Int32) = (0 : Int32) := by decide
      refine WP.ifc_ne (pc1 := 131) (pc2 := 122) at_119 (by decide) (by decide) rfl (fun k => absurd hc119 k) (fun _ => ?_)
      refine WP.iload (pc' := 124) at_122 rfl rfl ?_
      have hc124 : ¬ (1 : Int32) = (0 : Int32) := by decide
      refine WP.ifc_eq (pc1 := 131) (pc2 := 127) at_124 (by decide) (by decide) rfl (fun k => absurd k hc124) (fun _ => ?_)
      refine WP.iconst (pc' := 128) at_127 rfl (z := 1) rfl ?_
      refine WP.goto (pc' := 132) at_128 (by decide) (by decide) ?_
      refine WP.nretW (t := .boolean) at_132 rfl (by simp) rfl (Hd214).sn (by decide) (by decide) rfl
    · intro hc52
      refine WP.aloadN (pc' := 56) at_55 rfl rfl rfl ?_
      refine WP.ldcH (n := 40) (vs := [.int 83, .int 101, .int 116, .int 45, .int 67, .int 111, .int 111, .int 107, .int 105, .int 101]) (z := 10) (cl' := 6) (sl' := 59) (pc' := 58) at_56 rfl (wd48 hw) (wSw hw) (hELw hw) (List.mem_of_getElem? (i := 2) rfl) Hd61 ⟨by decide, by decide⟩ (by decide) rfl (by decide) (by decide) rfl rfl (by decide) (by decide) ?_
      intro vm218 h218 la218 lb218 lk218 E218 X218 Fc218 Fv218 A218 Hd218 Cr218 Ne218
      have Sf219 := Cr218.safe E46.lt Sf57
      have Sf220 := Cr218.safe E50.lt Sf58
      have Sf221 := Cr218.safe V54.lt Sf59
      have Sf222 := Cr218.safe A45.lt Sf60
      have E223 := E46.ext E218
      have F224 := F47.ext E218
      have F225 := F48.ext E218
      have F226 := F49.ext E218
      have E227 := E50.ext E218
      have F228 := F51.ext E218
      have F229 := F52.ext E218
      have F230 := F53.ext E218
      have V231 := V54.ext E218
      have O232 := O55.ext E218
      have V233 := A45.ext E218
      have O234 := O56.ext E218
      have Z235 : n0 ≤ h218.size := Nat.le_trans Z62 E218.1
      have ne236 : b1 ≠ la218 := (Ne218 _ Sf219).1
      have ne237 : b1 ≠ lb218 := (Ne218 _ Sf219).2
      have ne238 : f11 ≠ la218 := (Ne218 _ Sf220).1
      have ne239 : f11 ≠ lb218 := (Ne218 _ Sf220).2
      have ne240 : e11 ≠ la218 := (Ne218 _ Sf221).1
      have ne241 : e11 ≠ lb218 := (Ne218 _ Sf221).2
      have ne242 : b20 ≠ la218 := (Ne218 _ Sf222).1
      have ne243 : b20 ≠ lb218 := (Ne218 _ Sf222).2
      have AL218 := Ari.of_arv (L := [83, 101, 116, 45, 67, 111, 111, 107, 105, 101]) A218 rfl rfl (by decide)
      refine WP.ldcH (n := 12) (vs := [.int 97, .int 61, .int 98]) (z := 3) (cl' := 8) (sl' := 75) (pc' := 60) at_58 rfl (wd56 hw) (wSw hw) (hELw hw) (List.mem_of_getElem? (i := 3) rfl) Hd218 ⟨by decide, by decide⟩ (by decide) rfl (by decide) (by decide) rfl rfl (by decide) (by decide) ?_
      intro vm244 h244 la244 lb244 lk244 E244 X244 Fc244 Fv244 A244 Hd244 Cr244 Ne244
      have Sf245 := Cr244.safe E223.lt Sf219
      have Sf246 := Cr244.safe E227.lt Sf220
      have Sf247 := Cr244.safe V231.lt Sf221
      have Sf248 := Cr244.safe V233.lt Sf222
      have E249 := E223.ext E244
      have F250 := F224.ext E244
      have F251 := F225.ext E244
      have F252 := F226.ext E244
      have E253 := E227.ext E244
      have F254 := F228.ext E244
      have F255 := F229.ext E244
      have F256 := F230.ext E244
      have V257 := V231.ext E244
      have O258 := O232.ext E244
      have V259 := V233.ext E244
      have E260 := X218.ext E244
      have F261 := Fc218.ext E244
      have F262 := Fv218.ext E244
      have V263 := AL218.ext E244
      have O264 := O234.ext E244
      have Z265 : n0 ≤ h244.size := Nat.le_trans Z235 E244.1
      have ne266 : b1 ≠ la244 := (Ne244 _ Sf245).1
      have ne267 : b1 ≠ lb244 := (Ne244 _ Sf245).2
      have ne268 : f11 ≠ la244 := (Ne244 _ Sf246).1
      have ne269 : f11 ≠ lb244 := (Ne244 _ Sf246).2
      have ne270 : e11 ≠ la244 := (Ne244 _ Sf247).1
      have ne271 : e11 ≠ lb244 := (Ne244 _ Sf247).2
      have ne272 : b20 ≠ la244 := (Ne244 _ Sf248).1
      have ne273 : b20 ≠ lb244 := (Ne244 _ Sf248).2
      have AL244 := Ari.of_arv (L := [97, 61, 98]) A244 rfl rfl (by decide)
      refine WP.callV (a := b1) (K := "com/example/cordon/cordon/http/Answer") (argsL := [(.ref la218), (.ref la244)]) (rest := []) (wd := 0) (cl' := 9) (sl' := 77) (pc' := 63) at_60 rfl (wd57 hw) (wd58 hw) (nfS (wd60 hw) rfl) (wd60 hw) (wd59 hw) (wd2 hw) (wd61 hw) (by decide) E249 (m_aad hw b1 la218 la244 h244 n0 Z265 f11 gef11 e11 gee11 nfe11 (0 : Int32) (0 : Int32) 0 rfl (by omega) (fun _ => .null) E253 F254 F255 F256 V257 O258 F251) pd_7 rfl rfl rfl (Nat.le_of_eq rfl) (by decide) (by decide) rfl rfl (by decide) (by decide) ?_
      rintro v h274 ⟨rfl, x274, K274, ge274, sz274, E274, Fm274, Fe274, Fs274, A274, O274, Ex274, Fx274⟩
      have ne275 : b1 ≠ x274 := Nat.ne_of_lt (Nat.lt_of_lt_of_le E249.lt sz274)
      have ne276 : f11 ≠ x274 := Nat.ne_of_lt (Nat.lt_of_lt_of_le E253.lt sz274)
      have ne277 : e11 ≠ x274 := Nat.ne_of_lt (Nat.lt_of_lt_of_le V257.lt sz274)
      have ne278 : b20 ≠ x274 := Nat.ne_of_lt (Nat.lt_of_lt_of_le V259.lt sz274)
      have ne279 : la218 ≠ x274 := Nat.ne_of_lt (Nat.lt_of_lt_of_le E260.lt sz274)
      have ne280 : lb218 ≠ x274 := Nat.ne_of_lt (Nat.lt_of_lt_of_le V263.lt sz274)
      have ne281 : la244 ≠ x274 := Nat.ne_of_lt (Nat.lt_of_lt_of_le X244.lt sz274)
      have ne282 : lb244 ≠ x274 := Nat.ne_of_lt (Nat.lt_of_lt_of_le AL244.lt sz274)
      have E283 := E249.keep K274
      have F284 := F250.keep K274 (ninS ne12 (ninS ne13 nin0))
      have F285 := F251.keep K274 (ninS ne12 (ninS ne13 nin0))
      have F286 := F252.keep K274 (ninS ne12 (ninS ne13 nin0))
      have E287 := E253.keep K274
      have O288 := O258.keep K274
      have V289 := V259.keep K274 (ninS (Ne.symm ne24) (ninS (Ne.symm ne25) nin0))
      have E290 := E260.keep K274
      have F291 := F261.keep K274 (ninS (Ne.symm ne238) (ninS (Ne.symm ne240) nin0))
      have F292 := F262.keep K274 (ninS (Ne.symm ne238) (ninS (Ne.symm ne240) nin0))
      have V293 := V263.keep K274 (ninS (Ne.symm ne239) (ninS (Ne.symm ne241) nin0))
      have E294 := X244.keep K274
      have F295 := Fc244.keep K274 (ninS (Ne.symm ne268) (ninS (Ne.symm ne270) nin0))
      have F296 := Fv244.keep K274 (ninS (Ne.symm ne268) (ninS (Ne.symm ne270) nin0))
      have V297 := AL244.keep K274 (ninS (Ne.symm ne269) (ninS (Ne.symm ne271) nin0))
      have O298 := O264.keep K274 (allS gef11 (allS gee11 all0))
      have Sf299 := Safe.keep K274 (allS Sf246 (allS Sf247 all0)) Hd244.ch Sf245
      have Sf300 := Safe.keep K274 (allS Sf246 (allS Sf247 all0)) Hd244.ch Sf246
      have Sf301 := Safe.keep K274 (allS Sf246 (allS Sf247 all0)) Hd244.ch Sf247
      have Sf302 := Safe.keep K274 (allS Sf246 (allS Sf247 all0)) Hd244.ch Sf248
      have Hd303 := Hd244.keep K274 (allS Sf246 (allS Sf247 all0))
      have Z304 : n0 ≤ h274.size := Nat.le_trans Z265 K274.1
      refine WP.castS (st' := []) rfl ?_
      refine WP.aloadN (pc' := 64) at_63 rfl rfl rfl ?_
      refine WP.callV (a := b1) (K := "com/example/cordon/cordon/http/Answer") (argsL := []) (rest := []) (wd := 0) (cl' := 9) (sl' := 77) (pc' := 67) at_64 rfl (wd42 hw) (wd43 hw) (nfS (wd45 hw) rfl) (wd45 hw) (wd44 hw) (wd2 hw) (wd46 hw) (by decide) E283 (m_giv hw b1 h274 n0 (-1 : Int32) F284) pd_25 rfl rfl rfl (Nat.le_of_eq rfl) (by decide) (by decide) rfl rfl (by decide) (by decide) ?_
      rintro v hh305 ⟨rfl, he305⟩
      rw [he305, show b2i (decide (¬ (-1 : Int32) < 0)) = 0 from by decide]
      refine WP.castS (st' := [(.int (0 : Int32))]) rfl ?_
      refine WP.istore (pc' := 69) at_67 rfl (Ls' := #[.val (.int x0), .val (.int x1), .val (.int x2), .val (.ref b1), .val (.int (0 : Int32)), .val (.ref b20), .val (.int (0 : Int32)), .unset, .unset, .unset]) rfl ?_
      refine WP.iloadN (pc' := 70) at_69 rfl rfl ?_
      refine WP.ldcI (pc' := 72) at_70 rfl (wd97 hw) ?_
      refine WP.iand (pc' := 73) at_72 rfl ?_
      refine WP.istore (pc' := 75) at_73 rfl (Ls' := #[.val (.int x0), .val (.int x1), .val (.int x2), .val (.ref b1), .val (.int (0 : Int32)), .val (.ref b20), .val (.int (0 : Int32)), .val (.int (x0 &&& (2147483647 : Int32))), .unset, .unset]) rfl ?_
      refine WP.iconst (pc' := 76) at_75 rfl (z := 1) rfl ?_
      refine WP.newPI (ty := .char) (n := 1) (cap := 1) (cl' := 10) (sl' := 78) (pc' := 78) at_76 rfl rfl rfl (wd47 hw) (by decide) (by decide) (by decide) rfl rfl (by decide) (by decide) ?_
      intro h306 b306 g306 E306 A306
      have Sf307 : Safe Z consts_1 vm244 h274 b306 := Safe.new (by rw [g306]; exact Nat.le_refl _)
      have ge308 : n0 ≤ b306 := by rw [g306]; exact Z304
      have ne309 : b1 ≠ b306 := by rw [g306]; exact Nat.ne_of_lt E283.lt
      have ne310 : f11 ≠ b306 := by rw [g306]; exact Nat.ne_of_lt E274.lt
      have ne311 : b20 ≠ b306 := by rw [g306]; exact Nat.ne_of_lt V289.lt
      have ne312 : la218 ≠ b306 := by rw [g306]; exact Nat.ne_of_lt E290.lt
      have ne313 : lb218 ≠ b306 := by rw [g306]; exact Nat.ne_of_lt V293.lt
      have ne314 : la244 ≠ b306 := by rw [g306]; exact Nat.ne_of_lt E294.lt
      have ne315 : lb244 ≠ b306 := by rw [g306]; exact Nat.ne_of_lt V297.lt
      have ne316 : e11 ≠ b306 := by rw [g306]; exact Nat.ne_of_lt A274.lt
      have ne317 : x274 ≠ b306 := by rw [g306]; exact Nat.ne_of_lt Ex274.lt
      have E318 := E283.ext E306
      have F319 := F284.ext E306
      have F320 := F285.ext E306
      have F321 := F286.ext E306
      have E322 := E274.ext E306
      have O323 := O274.ext E306
      have V324 := V289.ext E306
      have E325 := E290.ext E306
      have F326 := F291.ext E306
      have F327 := F292.ext E306
      have V328 := V293.ext E306
      have E329 := E294.ext E306
      have F330 := F295.ext E306
      have F331 := F296.ext E306
      have V332 := V297.ext E306
      have F333 := Fm274.ext E306
      have F334 := Fe274.ext E306
      have F335 := Fs274.ext E306
      have V336 := A274.ext E306
      have E337 := Ex274.ext E306
      have F338 := Fx274.ext E306
      have O339 := O298.ext E306
      have Sf340 := Safe.ext E306 Hd303.ch Sf299
      have Sf341 := Safe.ext E306 Hd303.ch Sf300
      have Sf342 := Safe.ext E306 Hd303.ch Sf301
      have Sf343 := Safe.ext E306 Hd303.ch Sf302
      have Sf344 := Safe.ext E306 Hd303.ch Sf307
      have Hd345 := Hd303.ext E306
      have Z346 : n0 ≤ h306.size := Nat.le_trans Z304 E306.1
      refine WP.dup (pc' := 79) at_78 rfl rfl ?_
      refine WP.iconst (pc' := 80) at_79 rfl (z := 0) rfl ?_
      refine WP.iloadN (pc' := 81) at_80 rfl rfl ?_
      refine WP.sipush (pc' := 84) at_81 rfl (z := 255) rfl ?_
      refine WP.iand (pc' := 85) at_84 rfl ?_
      refine WP.i2c (pc' := 86) at_85 rfl ?_
      refine WP.castoreI (x' := ((x1 &&& (255 : Int32)).toUInt32.toUInt16.toUInt32.toInt32)) (0) (pc' := 87) at_86 rfl A306 (by decide) (by decide) ge308 (narC (i2c_b8 _)) ?_
      intro h347 K348 A349
      have E350 := E318.keep K348
      have F351 := F319.keep K348 (ninS ne309 nin0)
      have F352 := F320.keep K348 (ninS ne309 nin0)
      have F353 := F321.keep K348 (ninS ne309 nin0)
      have E354 := E322.keep K348
      have O355 := O323.keep K348
      have V356 := V324.keep K348 (ninS ne311 nin0)
      have E357 := E325.keep K348
      have F358 := F326.keep K348 (ninS ne312 nin0)
      have F359 := F327.keep K348 (ninS ne312 nin0)
      have V360 := V328.keep K348 (ninS ne313 nin0)
      have E361 := E329.keep K348
      have F362 := F330.keep K348 (ninS ne314 nin0)
      have F363 := F331.keep K348 (ninS ne314 nin0)
      have V364 := V332.keep K348 (ninS ne315 nin0)
      have F365 := F333.keep K348 (ninS ne310 nin0)
      have F366 := F334.keep K348 (ninS ne310 nin0)
      have F367 := F335.keep K348 (ninS ne310 nin0)
      have V368 := V336.keep K348 (ninS ne316 nin0)
      have E369 := E337.keep K348
      have F370 := F338.keep K348 (ninS ne317 nin0)
      have O371 := O339.keep K348 (allS ge308 all0)
      have Sf372 := Safe.keep K348 (allS Sf344 all0) Hd345.ch Sf340
      have Sf373 := Safe.keep K348 (allS Sf344 all0) Hd345.ch Sf341
      have Sf374 := Safe.keep K348 (allS Sf344 all0) Hd345.ch Sf342
      have Sf375 := Safe.keep K348 (allS Sf344 all0) Hd345.ch Sf343
      have Sf376 := Safe.keep K348 (allS Sf344 all0) Hd345.ch Sf344
      have Hd377 := Hd345.keep K348 (allS Sf344 all0)
      have Z378 : n0 ≤ h347.size := Nat.le_trans Z346 K348.1
      refine WP.astore (pc' := 89) at_87 rfl rfl (Ls' := #[.val (.int x0), .val (.int x1), .val (.int x2), .val (.ref b1), .val (.int (0 : Int32)), .val (.ref b20), .val (.int (0 : Int32)), .val (.int (x0 &&& (2147483647 : Int32))), .val (.ref b306), .unset]) rfl ?_
      refine WP.aloadN (pc' := 90) at_89 rfl rfl rfl ?_
      refine WP.iload (pc' := 92) at_90 rfl rfl ?_
      refine WP.ldcH (n := 40) (vs := [.int 116, .int 101, .int 120, .int 116, .int 47, .int 112, .int 108, .int 97, .int 105, .int 110]) (z := 10) (cl' := 12) (sl' := 122) (pc' := 94) at_92 rfl (wd98 hw) (wSw hw) (hELw hw) (List.mem_of_getElem? (i := 4) rfl) Hd377 ⟨by decide, by decide⟩ (by decide) rfl (by decide) (by decide) rfl rfl (by decide) (by decide) ?_
      intro vm379 h379 la379 lb379 lk379 E379 X379 Fc379 Fv379 A379 Hd379 Cr379 Ne379
      have Sf380 := Cr379.safe E350.lt Sf372
      have Sf381 := Cr379.safe E354.lt Sf373
      have Sf382 := Cr379.safe V368.lt Sf374
      have Sf383 := Cr379.safe V356.lt Sf375
      have Sf384 := Cr379.safe A349.lt Sf376
      have E385 := E350.ext E379
      have F386 := F351.ext E379
      have F387 := F352.ext E379
      have F388 := F353.ext E379
      have E389 := E354.ext E379
      have O390 := O355.ext E379
      have V391 := V356.ext E379
      have E392 := E357.ext E379
      have F393 := F358.ext E379
      have F394 := F359.ext E379
      have V395 := V360.ext E379
      have E396 := E361.ext E379
      have F397 := F362.ext E379
      have F398 := F363.ext E379
      have V399 := V364.ext E379
      have F400 := F365.ext E379
      have F401 := F366.ext E379
      have F402 := F367.ext E379
      have V403 := V368.ext E379
      have E404 := E369.ext E379
      have F405 := F370.ext E379
      have V406 := A349.ext E379
      have O407 := O371.ext E379
      have Z408 : n0 ≤ h379.size := Nat.le_trans Z378 E379.1
      have ne409 : b1 ≠ la379 := (Ne379 _ Sf380).1
      have ne410 : b1 ≠ lb379 := (Ne379 _ Sf380).2
      have ne411 : f11 ≠ la379 := (Ne379 _ Sf381).1
      have ne412 : f11 ≠ lb379 := (Ne379 _ Sf381).2
      have ne413 : e11 ≠ la379 := (Ne379 _ Sf382).1
      have ne414 : e11 ≠ lb379 := (Ne379 _ Sf382).2
      have ne415 : b20 ≠ la379 := (Ne379 _ Sf383).1
      have ne416 : b20 ≠ lb379 := (Ne379 _ Sf383).2
      have ne417 : b306 ≠ la379 := (Ne379 _ Sf384).1
      have ne418 : b306 ≠ lb379 := (Ne379 _ Sf384).2
      have AL379 := Ari.of_arv (L := [116, 101, 120, 116, 47, 112, 108, 97, 105, 110]) A379 rfl rfl (by decide)
      refine WP.newO (cl' := 13) (sl' := 126) (pc' := 97) at_94 rfl (wd99 hw) (wd50 hw) (wd49 hw) rfl rfl (by decide) (by decide) ?_
      intro h419 b419 g419 E419 A419 D419
      have Sf420 : Safe Z consts_1 vm379 h379 b419 := Safe.new (by rw [g419]; exact Nat.le_refl _)
      have ge421 : n0 ≤ b419 := by rw [g419]; exact Z408
      have ne422 : b1 ≠ b419 := by rw [g419]; exact Nat.ne_of_lt E385.lt
      have ne423 : f11 ≠ b419 := by rw [g419]; exact Nat.ne_of_lt E389.lt
      have ne424 : b20 ≠ b419 := by rw [g419]; exact Nat.ne_of_lt V391.lt
      have ne425 : la218 ≠ b419 := by rw [g419]; exact Nat.ne_of_lt E392.lt
      have ne426 : lb218 ≠ b419 := by rw [g419]; exact Nat.ne_of_lt V395.lt
      have ne427 : la244 ≠ b419 := by rw [g419]; exact Nat.ne_of_lt E396.lt
      have ne428 : lb244 ≠ b419 := by rw [g419]; exact Nat.ne_of_lt V399.lt
      have ne429 : e11 ≠ b419 := by rw [g419]; exact Nat.ne_of_lt V403.lt
      have ne430 : x274 ≠ b419 := by rw [g419]; exact Nat.ne_of_lt E404.lt
      have ne431 : b306 ≠ b419 := by rw [g419]; exact Nat.ne_of_lt V406.lt
      have ne432 : la379 ≠ b419 := by rw [g419]; exact Nat.ne_of_lt X379.lt
      have ne433 : lb379 ≠ b419 := by rw [g419]; exact Nat.ne_of_lt AL379.lt
      have E434 := E385.ext E419
      have F435 := F386.ext E419
      have F436 := F387.ext E419
      have F437 := F388.ext E419
      have E438 := E389.ext E419
      have O439 := O390.ext E419
      have V440 := V391.ext E419
      have E441 := E392.ext E419
      have F442 := F393.ext E419
      have F443 := F394.ext E419
      have V444 := V395.ext E419
      have E445 := E396.ext E419
      have F446 := F397.ext E419
      have F447 := F398.ext E419
      have V448 := V399.ext E419
      have F449 := F400.ext E419
      have F450 := F401.ext E419
      have F451 := F402.ext E419
      have V452 := V403.ext E419
      have E453 := E404.ext E419
      have F454 := F405.ext E419
      have V455 := V406.ext E419
      have E456 := X379.ext E419
      have F457 := Fc379.ext E419
      have F458 := Fv379.ext E419
      have V459 := AL379.ext E419
      have O460 := O407.ext E419
      have Sf461 := Safe.ext E419 Hd379.ch Sf380
      have Sf462 := Safe.ext E419 Hd379.ch Sf381
      have Sf463 := Safe.ext E419 Hd379.ch Sf382
      have Sf464 := Safe.ext E419 Hd379.ch Sf383
      have Sf465 := Safe.ext E419 Hd379.ch Sf384
      have Sf466 := Safe.ext E419 Hd379.ch Sf420
      have Hd467 := Hd379.ext E419
      have Z468 : n0 ≤ h419.size := Nat.le_trans Z408 E419.1
      have F469 : Fld Z h419 b419 "java/lang/String" "value" "[B" .null := D419 (Or.inr (wd52 hw)) (ty := (.array .byte)) (by decide)
      have F470 : Fld Z h419 b419 "java/lang/String" "coder" "B" (.int (0 : Int32)) := D419 (Or.inr (wd53 hw)) (ty := .byte) (by decide)
      refine WP.dup (pc' := 98) at_97 rfl rfl ?_
      refine WP.aload (pc' := 100) at_98 rfl rfl rfl ?_
      refine WP.callI (a := b419) (argsL := [(.ref b306)]) (rest := [(.ref b419), (.ref la379), (.int (x0 &&& (2147483647 : Int32))), (.ref b1)]) (wd := 4) (cl' := 14) (sl' := 127) (pc' := 103) at_100 rfl rfl (wd100 hw) (wd101 hw) (wd49 hw) (wd102 hw) (by decide) (s_si hw b419 b306 h419 n0 Z468 ge421 A419 F469 F470 cs (S_CS.ext O460.2) hcs 1 (updI (fun _ => 0) 0 ((x1 &&& (255 : Int32)).toUInt32.toUInt16.toUInt32.toInt32)) V455 (by omega) (by omega) (by omega) (lat1 (i2c_b8 _)) ne431) pd_26 rfl rfl rfl (Nat.le_of_eq rfl) (by decide) (by decide) rfl rfl (by decide) (by decide) ?_
      rintro v h471 ⟨rfl, c471, K471, ge471, sz471, E471, Fv471, Fc471, B471, XB471⟩
      have ne472 : b1 ≠ c471 := Nat.ne_of_lt (Nat.lt_of_lt_of_le E434.lt sz471)
      have ne473 : f11 ≠ c471 := Nat.ne_of_lt (Nat.lt_of_lt_of_le E438.lt sz471)
      have ne474 : b20 ≠ c471 := Nat.ne_of_lt (Nat.lt_of_lt_of_le V440.lt sz471)
      have ne475 : la218 ≠ c471 := Nat.ne_of_lt (Nat.lt_of_lt_of_le E441.lt sz471)
      have ne476 : lb218 ≠ c471 := Nat.ne_of_lt (Nat.lt_of_lt_of_le V444.lt sz471)
      have ne477 : la244 ≠ c471 := Nat.ne_of_lt (Nat.lt_of_lt_of_le E445.lt sz471)
      have ne478 : lb244 ≠ c471 := Nat.ne_of_lt (Nat.lt_of_lt_of_le V448.lt sz471)
      have ne479 : e11 ≠ c471 := Nat.ne_of_lt (Nat.lt_of_lt_of_le V452.lt sz471)
      have ne480 : x274 ≠ c471 := Nat.ne_of_lt (Nat.lt_of_lt_of_le E453.lt sz471)
      have ne481 : b306 ≠ c471 := Nat.ne_of_lt (Nat.lt_of_lt_of_le V455.lt sz471)
      have ne482 : la379 ≠ c471 := Nat.ne_of_lt (Nat.lt_of_lt_of_le E456.lt sz471)
      have ne483 : lb379 ≠ c471 := Nat.ne_of_lt (Nat.lt_of_lt_of_le V459.lt sz471)
      have ne484 : b419 ≠ c471 := Nat.ne_of_lt (Nat.lt_of_lt_of_le A419.lt sz471)
      have E485 := E434.keep K471
      have F486 := F435.keep K471 (ninS ne422 nin0)
      have F487 := F436.keep K471 (ninS ne422 nin0)
      have F488 := F437.keep K471 (ninS ne422 nin0)
      have E489 := E438.keep K471
      have O490 := O439.keep K471
      have V491 := V440.keep K471 (ninS ne424 nin0)
      have E492 := E441.keep K471
      have F493 := F442.keep K471 (ninS ne425 nin0)
      have F494 := F443.keep K471 (ninS ne425 nin0)
      have V495 := V444.keep K471 (ninS ne426 nin0)
      have E496 := E445.keep K471
      have F497 := F446.keep K471 (ninS ne427 nin0)
      have F498 := F447.keep K471 (ninS ne427 nin0)
      have V499 := V448.keep K471 (ninS ne428 nin0)
      have F500 := F449.keep K471 (ninS ne423 nin0)
      have F501 := F450.keep K471 (ninS ne423 nin0)
      have F502 := F451.keep K471 (ninS ne423 nin0)
      have V503 := V452.keep K471 (ninS ne429 nin0)
      have E504 := E453.keep K471
      have F505 := F454.keep K471 (ninS ne430 nin0)
      have V506 := V455.keep K471 (ninS ne431 nin0)
      have E507 := E456.keep K471
      have F508 := F457.keep K471 (ninS ne432 nin0)
      have F509 := F458.keep K471 (ninS ne432 nin0)
      have V510 := V459.keep K471 (ninS ne433 nin0)
      have E511 := A419.keep K471
      have O512 := O460.keep K471 (allS ge421 all0)
      have Sf513 := Safe.keep K471 (allS Sf466 all0) Hd467.ch Sf461
      have Sf514 := Safe.keep K471 (allS Sf466 all0) Hd467.ch Sf462
      have Sf515 := Safe.keep K471 (allS Sf466 all0) Hd467.ch Sf463
      have Sf516 := Safe.keep K471 (allS Sf466 all0) Hd467.ch Sf464
      have Sf517 := Safe.keep K471 (allS Sf466 all0) Hd467.ch Sf465
      have Sf518 := Safe.keep K471 (allS Sf466 all0) Hd467.ch Sf466
      have Hd519 := Hd467.keep K471 (allS Sf466 all0)
      have Z520 : n0 ≤ h471.size := Nat.le_trans Z468 K471.1
      refine WP.castS (st' := [(.ref b419), (.ref la379), (.int (x0 &&& (2147483647 : Int32))), (.ref b1)]) rfl ?_
      have hel521 : ∀ i, i < 1 → ElemOk Z h471 12 b1 ((updV (fun _ => .null) 0 (.ref x274)) i) := fun i hi => by
        have hi3 : i = 0 := by omega
        rcases hi3 with rfl
        · exact ⟨x274, la218, lb218, 10, _, rfl, ⟨(Ne.symm ne275), (Ne.symm ne236), (Ne.symm ne237)⟩, E504, F505, E492, F494, F493, V495, by decide, by decide⟩
      refine WP.callVH (a := b1) (K := "com/example/cordon/cordon/http/Answer") (argsL := [(.int (x0 &&& (2147483647 : Int32))), (.ref la379), (.ref b419)]) (rest := []) (wd := 0) (cl' := 19) (sl' := 184) (pc' := 106) at_103 rfl (wd121 hw) (wd122 hw) (nfS (wd124 hw) rfl) (wd124 hw) (wd123 hw) (wd2 hw) (wd125 hw) (by decide) E485 (hELw hw) Hd519 (m_snd hw b1 (x0 &&& (2147483647 : Int32)) la379 b419 h471 n0 Z520 O512 cs S_CS hcs ge3 f11 nb E485 F486 F487 F488 gef11 e11 gee11 nfe11 ((0 : Int32) + (1 : Int32)) ((0 : Int32) + (1 : Int32)) 1 (by decide) (by omega) (updV (fun _ => .null) 0 (.ref x274)) E489 F500 F501 F502 V503 O490 ne12 ne13 c471 (fun i => cv ((updI (fun _ => 0) 0 ((x1 &&& (255 : Int32)).toUInt32.toUInt16.toUInt32.toInt32)) i)) E471 Fv471 Fc471 B471 XB471 (Ne.symm ne422) (Ne.symm ne423) (Ne.symm ne429) (Ne.symm ne472) (Ne.symm ne473) (Ne.symm ne479) hel521 u8 S_U8 S_UI) pd_27 rfl rfl rfl (Nat.le_of_eq rfl) (by decide) (by decide) rfl rfl (by decide) (by decide) ?_
      rintro v vm521 h521 ⟨rfl, K521, Ea521, Ft521⟩ Hd521 Cr521
      have O522 := O512.keep K521 (allS ge3 (allS gef11 (allS gee11 all0)))
      have Z523 : n0 ≤ h521.size := Nat.le_trans Z520 K521.1
      refine WP.castS (st' := []) rfl ?_
      refine WP.aloadN (pc' := 107) at_106 rfl rfl rfl ?_
      refine WP.callV (a := b1) (K := "com/example/cordon/cordon/http/Answer") (argsL := []) (rest := []) (wd := 0) (cl' := 19) (sl' := 184) (pc' := 110) at_107 rfl (wd42 hw) (wd43 hw) (nfS (wd45 hw) rfl) (wd45 hw) (wd44 hw) (wd2 hw) (wd46 hw) (by decide) Ea521 (m_giv hw b1 h521 n0 (x0 &&& (2147483647 : Int32)) Ft521) pd_25 rfl rfl rfl (Nat.le_of_eq rfl) (by decide) (by decide) rfl rfl (by decide) (by decide) ?_
      rintro v hh524 ⟨rfl, he524⟩
      rw [he524, show b2i (decide (¬ (x0 &&& (2147483647 : Int32)) < 0)) = 1 from b2i_1.mpr (decide_eq_true (nonneg _))]
      refine WP.castS (st' := [(.int (1 : Int32))]) rfl ?_
      refine WP.istore (pc' := 112) at_110 rfl (Ls' := #[.val (.int x0), .val (.int x1), .val (.int x2), .val (.ref b1), .val (.int (0 : Int32)), .val (.ref b20), .val (.int (0 : Int32)), .val (.int (x0 &&& (2147483647 : Int32))), .val (.ref b306), .val (.int (1 : Int32))]) rfl ?_
      refine WP.iload (pc' := 114) at_112 rfl rfl ?_
      have hc114 : (0 : Int32) = (0 : Int32) := by decide
      refine WP.ifc_ne (pc1 := 131) (pc2 := 117) at_114 (by decide) (by decide) rfl (fun k => absurd hc114 k) (fun _ => ?_)
      refine WP.iload (pc' := 119) at_117 rfl rfl ?_
      have hc119 : (0 : Int32) = (0 : Int32) := by decide
      refine WP.ifc_ne (pc1 := 131) (pc2 := 122) at_119 (by decide) (by decide) rfl (fun k => absurd hc119 k) (fun _ => ?_)
      refine WP.iload (pc' := 124) at_122 rfl rfl ?_
      have hc124 : ¬ (1 : Int32) = (0 : Int32) := by decide
      refine WP.ifc_eq (pc1 := 131) (pc2 := 127) at_124 (by decide) (by decide) rfl (fun k => absurd k hc124) (fun _ => ?_)
      refine WP.iconst (pc' := 128) at_127 rfl (z := 1) rfl ?_
      refine WP.goto (pc' := 132) at_128 (by decide) (by decide) ?_
      refine WP.nretW (t := .boolean) at_132 rfl (by simp) rfl (Hd521).sn (by decide) (by decide) rfl
  · intro hc31
    refine WP.aloadN (pc' := 35) at_34 rfl rfl rfl ?_
    refine WP.ldcH (n := 12) (vs := [.int 88, .int 45, .int 65]) (z := 3) (cl' := 6) (sl' := 31) (pc' := 37) at_35 rfl (wd217 hw) (wSw hw) (hELw hw) (List.mem_of_getElem? (i := 1) rfl) Hd61 ⟨by decide, by decide⟩ (by decide) rfl (by decide) (by decide) rfl rfl (by decide) (by decide) ?_
    intro vm525 h525 la525 lb525 lk525 E525 X525 Fc525 Fv525 A525 Hd525 Cr525 Ne525
    have Sf526 := Cr525.safe E46.lt Sf57
    have Sf527 := Cr525.safe E50.lt Sf58
    have Sf528 := Cr525.safe V54.lt Sf59
    have Sf529 := Cr525.safe A45.lt Sf60
    have E530 := E46.ext E525
    have F531 := F47.ext E525
    have F532 := F48.ext E525
    have F533 := F49.ext E525
    have E534 := E50.ext E525
    have F535 := F51.ext E525
    have F536 := F52.ext E525
    have F537 := F53.ext E525
    have V538 := V54.ext E525
    have O539 := O55.ext E525
    have V540 := A45.ext E525
    have O541 := O56.ext E525
    have Z542 : n0 ≤ h525.size := Nat.le_trans Z62 E525.1
    have ne543 : b1 ≠ la525 := (Ne525 _ Sf526).1
    have ne544 : b1 ≠ lb525 := (Ne525 _ Sf526).2
    have ne545 : f11 ≠ la525 := (Ne525 _ Sf527).1
    have ne546 : f11 ≠ lb525 := (Ne525 _ Sf527).2
    have ne547 : e11 ≠ la525 := (Ne525 _ Sf528).1
    have ne548 : e11 ≠ lb525 := (Ne525 _ Sf528).2
    have ne549 : b20 ≠ la525 := (Ne525 _ Sf529).1
    have ne550 : b20 ≠ lb525 := (Ne525 _ Sf529).2
    have AL525 := Ari.of_arv (L := [88, 45, 65]) A525 rfl rfl (by decide)
    refine WP.newO (cl' := 7) (sl' := 35) (pc' := 40) at_37 rfl (wd99 hw) (wd50 hw) (wd49 hw) rfl rfl (by decide) (by decide) ?_
    intro h551 b551 g551 E551 A551 D551
    have Sf552 : Safe Z consts_1 vm525 h525 b551 := Safe.new (by rw [g551]; exact Nat.le_refl _)
    have ge553 : n0 ≤ b551 := by rw [g551]; exact Z542
    have ne554 : b1 ≠ b551 := by rw [g551]; exact Nat.ne_of_lt E530.lt
    have ne555 : f11 ≠ b551 := by rw [g551]; exact Nat.ne_of_lt E534.lt
    have ne556 : e11 ≠ b551 := by rw [g551]; exact Nat.ne_of_lt V538.lt
    have ne557 : b20 ≠ b551 := by rw [g551]; exact Nat.ne_of_lt V540.lt
    have ne558 : la525 ≠ b551 := by rw [g551]; exact Nat.ne_of_lt X525.lt
    have ne559 : lb525 ≠ b551 := by rw [g551]; exact Nat.ne_of_lt AL525.lt
    have E560 := E530.ext E551
    have F561 := F531.ext E551
    have F562 := F532.ext E551
    have F563 := F533.ext E551
    have E564 := E534.ext E551
    have F565 := F535.ext E551
    have F566 := F536.ext E551
    have F567 := F537.ext E551
    have V568 := V538.ext E551
    have O569 := O539.ext E551
    have V570 := V540.ext E551
    have E571 := X525.ext E551
    have F572 := Fc525.ext E551
    have F573 := Fv525.ext E551
    have V574 := AL525.ext E551
    have O575 := O541.ext E551
    have Sf576 := Safe.ext E551 Hd525.ch Sf526
    have Sf577 := Safe.ext E551 Hd525.ch Sf527
    have Sf578 := Safe.ext E551 Hd525.ch Sf528
    have Sf579 := Safe.ext E551 Hd525.ch Sf529
    have Sf580 := Safe.ext E551 Hd525.ch Sf552
    have Hd581 := Hd525.ext E551
    have Z582 : n0 ≤ h551.size := Nat.le_trans Z542 E551.1
    have F583 : Fld Z h551 b551 "java/lang/String" "value" "[B" .null := D551 (Or.inr (wd52 hw)) (ty := (.array .byte)) (by decide)
    have F584 : Fld Z h551 b551 "java/lang/String" "coder" "B" (.int (0 : Int32)) := D551 (Or.inr (wd53 hw)) (ty := .byte) (by decide)
    refine WP.dup (pc' := 41) at_40 rfl rfl ?_
    refine WP.aload (pc' := 43) at_41 rfl rfl rfl ?_
    refine WP.callI (a := b551) (argsL := [(.ref b20)]) (rest := [(.ref b551), (.ref la525), (.ref b1)]) (wd := 3) (cl' := 8) (sl' := 36) (pc' := 46) at_43 rfl rfl (wd100 hw) (wd101 hw) (wd49 hw) (wd102 hw) (by decide) (s_si hw b551 b20 h551 n0 Z582 ge553 A551 F583 F584 cs (S_CS.ext O575.2) hcs 1 (updI (fun _ => 0) 0 ((x1 &&& (255 : Int32)).toUInt32.toUInt16.toUInt32.toInt32)) V570 (by omega) (by omega) (by omega) (lat1 (i2c_b8 _)) ne557) pd_26 rfl rfl rfl (Nat.le_of_eq rfl) (by decide) (by decide) rfl rfl (by decide) (by decide) ?_
    rintro v h585 ⟨rfl, c585, K585, ge585, sz585, E585, Fv585, Fc585, B585, XB585⟩
    have ne586 : b1 ≠ c585 := Nat.ne_of_lt (Nat.lt_of_lt_of_le E560.lt sz585)
    have ne587 : f11 ≠ c585 := Nat.ne_of_lt (Nat.lt_of_lt_of_le E564.lt sz585)
    have ne588 : e11 ≠ c585 := Nat.ne_of_lt (Nat.lt_of_lt_of_le V568.lt sz585)
    have ne589 : b20 ≠ c585 := Nat.ne_of_lt (Nat.lt_of_lt_of_le V570.lt sz585)
    have ne590 : la525 ≠ c585 := Nat.ne_of_lt (Nat.lt_of_lt_of_le E571.lt sz585)
    have ne591 : lb525 ≠ c585 := Nat.ne_of_lt (Nat.lt_of_lt_of_le V574.lt sz585)
    have ne592 : b551 ≠ c585 := Nat.ne_of_lt (Nat.lt_of_lt_of_le A551.lt sz585)
    have E593 := E560.keep K585
    have F594 := F561.keep K585 (ninS ne554 nin0)
    have F595 := F562.keep K585 (ninS ne554 nin0)
    have F596 := F563.keep K585 (ninS ne554 nin0)
    have E597 := E564.keep K585
    have F598 := F565.keep K585 (ninS ne555 nin0)
    have F599 := F566.keep K585 (ninS ne555 nin0)
    have F600 := F567.keep K585 (ninS ne555 nin0)
    have V601 := V568.keep K585 (ninS ne556 nin0)
    have O602 := O569.keep K585
    have V603 := V570.keep K585 (ninS ne557 nin0)
    have E604 := E571.keep K585
    have F605 := F572.keep K585 (ninS ne558 nin0)
    have F606 := F573.keep K585 (ninS ne558 nin0)
    have V607 := V574.keep K585 (ninS ne559 nin0)
    have E608 := A551.keep K585
    have O609 := O575.keep K585 (allS ge553 all0)
    have Sf610 := Safe.keep K585 (allS Sf580 all0) Hd581.ch Sf576
    have Sf611 := Safe.keep K585 (allS Sf580 all0) Hd581.ch Sf577
    have Sf612 := Safe.keep K585 (allS Sf580 all0) Hd581.ch Sf578
    have Sf613 := Safe.keep K585 (allS Sf580 all0) Hd581.ch Sf579
    have Sf614 := Safe.keep K585 (allS Sf580 all0) Hd581.ch Sf580
    have Hd615 := Hd581.keep K585 (allS Sf580 all0)
    have Z616 : n0 ≤ h585.size := Nat.le_trans Z582 K585.1
    refine WP.castS (st' := [(.ref b551), (.ref la525), (.ref b1)]) rfl ?_
    refine WP.callV (a := b1) (K := "com/example/cordon/cordon/http/Answer") (argsL := [(.ref la525), (.ref b551)]) (rest := []) (wd := 0) (cl' := 10) (sl' := 39) (pc' := 49) at_46 rfl (wd218 hw) (wd132 hw) (nfS (wd134 hw) rfl) (wd134 hw) (wd133 hw) (wd2 hw) (wd135 hw) (by decide) E593 (m_ase hw b1 la525 b551 h585 n0 Z616 f11 gef11 e11 gee11 nfe11 (0 : Int32) (0 : Int32) 0 rfl (by omega) (fun _ => .null) E597 F598 F599 F600 V601 O602 F595 O609 cs S_CS hcs lb525 3 (litG [88, 45, 65]) E604 F606 F605 V607 (by omega) (fun i hi => absurd hi (Nat.not_lt_zero _))) pd_7 rfl rfl rfl (Nat.le_of_eq rfl) (by decide) (by decide) rfl rfl (by decide) (by decide) ?_
    rintro v h617 ⟨rfl, x617, K617, ge617, sz617, E617, Fm617, Fe617, Fs617, A617, O617, Ex617, Fx617⟩
    have ne618 : b1 ≠ x617 := Nat.ne_of_lt (Nat.lt_of_lt_of_le E593.lt sz617)
    have ne619 : f11 ≠ x617 := Nat.ne_of_lt (Nat.lt_of_lt_of_le E597.lt sz617)
    have ne620 : e11 ≠ x617 := Nat.ne_of_lt (Nat.lt_of_lt_of_le V601.lt sz617)
    have ne621 : b20 ≠ x617 := Nat.ne_of_lt (Nat.lt_of_lt_of_le V603.lt sz617)
    have ne622 : la525 ≠ x617 := Nat.ne_of_lt (Nat.lt_of_lt_of_le E604.lt sz617)
    have ne623 : lb525 ≠ x617 := Nat.ne_of_lt (Nat.lt_of_lt_of_le V607.lt sz617)
    have ne624 : b551 ≠ x617 := Nat.ne_of_lt (Nat.lt_of_lt_of_le E585.lt sz617)
    have ne625 : c585 ≠ x617 := Nat.ne_of_lt (Nat.lt_of_lt_of_le B585.lt sz617)
    have E626 := E593.keep K617
    have F627 := F594.keep K617 (ninS ne12 (ninS ne13 nin0))
    have F628 := F595.keep K617 (ninS ne12 (ninS ne13 nin0))
    have F629 := F596.keep K617 (ninS ne12 (ninS ne13 nin0))
    have E630 := E597.keep K617
    have O631 := O602.keep K617
    have V632 := V603.keep K617 (ninS (Ne.symm ne24) (ninS (Ne.symm ne25) nin0))
    have E633 := E604.keep K617
    have F634 := F605.keep K617 (ninS (Ne.symm ne545) (ninS (Ne.symm ne547) nin0))
    have F635 := F606.keep K617 (ninS (Ne.symm ne545) (ninS (Ne.symm ne547) nin0))
    have V636 := V607.keep K617 (ninS (Ne.symm ne546) (ninS (Ne.symm ne548) nin0))
    have E637 := E585.keep K617
    have F638 := Fv585.keep K617 (ninS (Ne.symm ne555) (ninS (Ne.symm ne556) nin0))
    have F639 := Fc585.keep K617 (ninS (Ne.symm ne555) (ninS (Ne.symm ne556) nin0))
    have V640 := B585.keep K617 (ninS (Ne.symm ne587) (ninS (Ne.symm ne588) nin0))
    have E641 := XB585.keep K617
    have O642 := O609.keep K617 (allS gef11 (allS gee11 all0))
    have Sf643 := Safe.keep K617 (allS Sf611 (allS Sf612 all0)) Hd615.ch Sf610
    have Sf644 := Safe.keep K617 (allS Sf611 (allS Sf612 all0)) Hd615.ch Sf611
    have Sf645 := Safe.keep K617 (allS Sf611 (allS Sf612 all0)) Hd615.ch Sf612
    have Sf646 := Safe.keep K617 (allS Sf611 (allS Sf612 all0)) Hd615.ch Sf613
    have Sf647 := Safe.keep K617 (allS Sf611 (allS Sf612 all0)) Hd615.ch Sf614
    have Hd648 := Hd615.keep K617 (allS Sf611 (allS Sf612 all0))
    have Z649 : n0 ≤ h617.size := Nat.le_trans Z616 K617.1
    refine WP.castS (st' := []) rfl ?_
    refine WP.iloadN (pc' := 50) at_49 rfl rfl ?_
    refine WP.iconst (pc' := 51) at_50 rfl (z := 2) rfl ?_
    refine WP.iand (pc' := 52) at_51 rfl ?_
    refine WP.ifc_eq (pc1 := 63) (pc2 := 55) at_52 (by decide) (by decide) rfl ?_ ?_
    · intro hc52
      refine WP.aloadN (pc' := 64) at_63 rfl rfl rfl ?_
      refine WP.callV (a := b1) (K := "com/example/cordon/cordon/http/Answer") (argsL := []) (rest := []) (wd := 0) (cl' := 10) (sl' := 39) (pc' := 67) at_64 rfl (wd42 hw) (wd43 hw) (nfS (wd45 hw) rfl) (wd45 hw) (wd44 hw) (wd2 hw) (wd46 hw) (by decide) E626 (m_giv hw b1 h617 n0 (-1 : Int32) F627) pd_25 rfl rfl rfl (Nat.le_of_eq rfl) (by decide) (by decide) rfl rfl (by decide) (by decide) ?_
      rintro v hh650 ⟨rfl, he650⟩
      rw [he650, show b2i (decide (¬ (-1 : Int32) < 0)) = 0 from by decide]
      refine WP.castS (st' := [(.int (0 : Int32))]) rfl ?_
      refine WP.istore (pc' := 69) at_67 rfl (Ls' := #[.val (.int x0), .val (.int x1), .val (.int x2), .val (.ref b1), .val (.int (0 : Int32)), .val (.ref b20), .val (.int (0 : Int32)), .unset, .unset, .unset]) rfl ?_
      refine WP.iloadN (pc' := 70) at_69 rfl rfl ?_
      refine WP.ldcI (pc' := 72) at_70 rfl (wd97 hw) ?_
      refine WP.iand (pc' := 73) at_72 rfl ?_
      refine WP.istore (pc' := 75) at_73 rfl (Ls' := #[.val (.int x0), .val (.int x1), .val (.int x2), .val (.ref b1), .val (.int (0 : Int32)), .val (.ref b20), .val (.int (0 : Int32)), .val (.int (x0 &&& (2147483647 : Int32))), .unset, .unset]) rfl ?_
      refine WP.iconst (pc' := 76) at_75 rfl (z := 1) rfl ?_
      refine WP.newPI (ty := .char) (n := 1) (cap := 1) (cl' := 11) (sl' := 40) (pc' := 78) at_76 rfl rfl rfl (wd47 hw) (by decide) (by decide) (by decide) rfl rfl (by decide) (by decide) ?_
      intro h651 b651 g651 E651 A651
      have Sf652 : Safe Z consts_1 vm525 h617 b651 := Safe.new (by rw [g651]; exact Nat.le_refl _)
      have ge653 : n0 ≤ b651 := by rw [g651]; exact Z649
      have ne654 : b1 ≠ b651 := by rw [g651]; exact Nat.ne_of_lt E626.lt
      have ne655 : f11 ≠ b651 := by rw [g651]; exact Nat.ne_of_lt E617.lt
      have ne656 : b20 ≠ b651 := by rw [g651]; exact Nat.ne_of_lt V632.lt
      have ne657 : la525 ≠ b651 := by rw [g651]; exact Nat.ne_of_lt E633.lt
      have ne658 : lb525 ≠ b651 := by rw [g651]; exact Nat.ne_of_lt V636.lt
      have ne659 : b551 ≠ b651 := by rw [g651]; exact Nat.ne_of_lt E637.lt
      have ne660 : c585 ≠ b651 := by rw [g651]; exact Nat.ne_of_lt V640.lt
      have ne661 : e11 ≠ b651 := by rw [g651]; exact Nat.ne_of_lt A617.lt
      have ne662 : x617 ≠ b651 := by rw [g651]; exact Nat.ne_of_lt Ex617.lt
      have E663 := E626.ext E651
      have F664 := F627.ext E651
      have F665 := F628.ext E651
      have F666 := F629.ext E651
      have E667 := E617.ext E651
      have O668 := O617.ext E651
      have V669 := V632.ext E651
      have E670 := E633.ext E651
      have F671 := F634.ext E651
      have F672 := F635.ext E651
      have V673 := V636.ext E651
      have E674 := E637.ext E651
      have F675 := F638.ext E651
      have F676 := F639.ext E651
      have V677 := V640.ext E651
      have E678 := E641.ext E651
      have F679 := Fm617.ext E651
      have F680 := Fe617.ext E651
      have F681 := Fs617.ext E651
      have V682 := A617.ext E651
      have E683 := Ex617.ext E651
      have F684 := Fx617.ext E651
      have O685 := O642.ext E651
      have Sf686 := Safe.ext E651 Hd648.ch Sf643
      have Sf687 := Safe.ext E651 Hd648.ch Sf644
      have Sf688 := Safe.ext E651 Hd648.ch Sf645
      have Sf689 := Safe.ext E651 Hd648.ch Sf646
      have Sf690 := Safe.ext E651 Hd648.ch Sf647
      have Sf691 := Safe.ext E651 Hd648.ch Sf652
      have Hd692 := Hd648.ext E651
      have Z693 : n0 ≤ h651.size := Nat.le_trans Z649 E651.1
      refine WP.dup (pc' := 79) at_78 rfl rfl ?_
      refine WP.iconst (pc' := 80) at_79 rfl (z := 0) rfl ?_
      refine WP.iloadN (pc' := 81) at_80 rfl rfl ?_
      refine WP.sipush (pc' := 84) at_81 rfl (z := 255) rfl ?_
      refine WP.iand (pc' := 85) at_84 rfl ?_
      refine WP.i2c (pc' := 86) at_85 rfl ?_
      refine WP.castoreI (x' := ((x1 &&& (255 : Int32)).toUInt32.toUInt16.toUInt32.toInt32)) (0) (pc' := 87) at_86 rfl A651 (by decide) (by decide) ge653 (narC (i2c_b8 _)) ?_
      intro h694 K695 A696
      have E697 := E663.keep K695
      have F698 := F664.keep K695 (ninS ne654 nin0)
      have F699 := F665.keep K695 (ninS ne654 nin0)
      have F700 := F666.keep K695 (ninS ne654 nin0)
      have E701 := E667.keep K695
      have O702 := O668.keep K695
      have V703 := V669.keep K695 (ninS ne656 nin0)
      have E704 := E670.keep K695
      have F705 := F671.keep K695 (ninS ne657 nin0)
      have F706 := F672.keep K695 (ninS ne657 nin0)
      have V707 := V673.keep K695 (ninS ne658 nin0)
      have E708 := E674.keep K695
      have F709 := F675.keep K695 (ninS ne659 nin0)
      have F710 := F676.keep K695 (ninS ne659 nin0)
      have V711 := V677.keep K695 (ninS ne660 nin0)
      have E712 := E678.keep K695
      have F713 := F679.keep K695 (ninS ne655 nin0)
      have F714 := F680.keep K695 (ninS ne655 nin0)
      have F715 := F681.keep K695 (ninS ne655 nin0)
      have V716 := V682.keep K695 (ninS ne661 nin0)
      have E717 := E683.keep K695
      have F718 := F684.keep K695 (ninS ne662 nin0)
      have O719 := O685.keep K695 (allS ge653 all0)
      have Sf720 := Safe.keep K695 (allS Sf691 all0) Hd692.ch Sf686
      have Sf721 := Safe.keep K695 (allS Sf691 all0) Hd692.ch Sf687
      have Sf722 := Safe.keep K695 (allS Sf691 all0) Hd692.ch Sf688
      have Sf723 := Safe.keep K695 (allS Sf691 all0) Hd692.ch Sf689
      have Sf724 := Safe.keep K695 (allS Sf691 all0) Hd692.ch Sf690
      have Sf725 := Safe.keep K695 (allS Sf691 all0) Hd692.ch Sf691
      have Hd726 := Hd692.keep K695 (allS Sf691 all0)
      have Z727 : n0 ≤ h694.size := Nat.le_trans Z693 K695.1
      refine WP.astore (pc' := 89) at_87 rfl rfl (Ls' := #[.val (.int x0), .val (.int x1), .val (.int x2), .val (.ref b1), .val (.int (0 : Int32)), .val (.ref b20), .val (.int (0 : Int32)), .val (.int (x0 &&& (2147483647 : Int32))), .val (.ref b651), .unset]) rfl ?_
      refine WP.aloadN (pc' := 90) at_89 rfl rfl rfl ?_
      refine WP.iload (pc' := 92) at_90 rfl rfl ?_
      refine WP.ldcH (n := 40) (vs := [.int 116, .int 101, .int 120, .int 116, .int 47, .int 112, .int 108, .int 97, .int 105, .int 110]) (z := 10) (cl' := 13) (sl' := 84) (pc' := 94) at_92 rfl (wd98 hw) (wSw hw) (hELw hw) (List.mem_of_getElem? (i := 4) rfl) Hd726 ⟨by decide, by decide⟩ (by decide) rfl (by decide) (by decide) rfl rfl (by decide) (by decide) ?_
      intro vm728 h728 la728 lb728 lk728 E728 X728 Fc728 Fv728 A728 Hd728 Cr728 Ne728
      have Sf729 := Cr728.safe E697.lt Sf720
      have Sf730 := Cr728.safe E701.lt Sf721
      have Sf731 := Cr728.safe V716.lt Sf722
      have Sf732 := Cr728.safe V703.lt Sf723
      have Sf733 := Cr728.safe E708.lt Sf724
      have Sf734 := Cr728.safe A696.lt Sf725
      have E735 := E697.ext E728
      have F736 := F698.ext E728
      have F737 := F699.ext E728
      have F738 := F700.ext E728
      have E739 := E701.ext E728
      have O740 := O702.ext E728
      have V741 := V703.ext E728
      have E742 := E704.ext E728
      have F743 := F705.ext E728
      have F744 := F706.ext E728
      have V745 := V707.ext E728
      have E746 := E708.ext E728
      have F747 := F709.ext E728
      have F748 := F710.ext E728
      have V749 := V711.ext E728
      have E750 := E712.ext E728
      have F751 := F713.ext E728
      have F752 := F714.ext E728
      have F753 := F715.ext E728
      have V754 := V716.ext E728
      have E755 := E717.ext E728
      have F756 := F718.ext E728
      have V757 := A696.ext E728
      have O758 := O719.ext E728
      have Z759 : n0 ≤ h728.size := Nat.le_trans Z727 E728.1
      have ne760 : b1 ≠ la728 := (Ne728 _ Sf729).1
      have ne761 : b1 ≠ lb728 := (Ne728 _ Sf729).2
      have ne762 : f11 ≠ la728 := (Ne728 _ Sf730).1
      have ne763 : f11 ≠ lb728 := (Ne728 _ Sf730).2
      have ne764 : e11 ≠ la728 := (Ne728 _ Sf731).1
      have ne765 : e11 ≠ lb728 := (Ne728 _ Sf731).2
      have ne766 : b20 ≠ la728 := (Ne728 _ Sf732).1
      have ne767 : b20 ≠ lb728 := (Ne728 _ Sf732).2
      have ne768 : b551 ≠ la728 := (Ne728 _ Sf733).1
      have ne769 : b551 ≠ lb728 := (Ne728 _ Sf733).2
      have ne770 : b651 ≠ la728 := (Ne728 _ Sf734).1
      have ne771 : b651 ≠ lb728 := (Ne728 _ Sf734).2
      have AL728 := Ari.of_arv (L := [116, 101, 120, 116, 47, 112, 108, 97, 105, 110]) A728 rfl rfl (by decide)
      refine WP.newO (cl' := 14) (sl' := 88) (pc' := 97) at_94 rfl (wd99 hw) (wd50 hw) (wd49 hw) rfl rfl (by decide) (by decide) ?_
      intro h772 b772 g772 E772 A772 D772
      have Sf773 : Safe Z consts_1 vm728 h728 b772 := Safe.new (by rw [g772]; exact Nat.le_refl _)
      have ge774 : n0 ≤ b772 := by rw [g772]; exact Z759
      have ne775 : b1 ≠ b772 := by rw [g772]; exact Nat.ne_of_lt E735.lt
      have ne776 : f11 ≠ b772 := by rw [g772]; exact Nat.ne_of_lt E739.lt
      have ne777 : b20 ≠ b772 := by rw [g772]; exact Nat.ne_of_lt V741.lt
      have ne778 : la525 ≠ b772 := by rw [g772]; exact Nat.ne_of_lt E742.lt
      have ne779 : lb525 ≠ b772 := by rw [g772]; exact Nat.ne_of_lt V745.lt
      have ne780 : b551 ≠ b772 := by rw [g772]; exact Nat.ne_of_lt E746.lt
      have ne781 : c585 ≠ b772 := by rw [g772]; exact Nat.ne_of_lt V749.lt
      have ne782 : e11 ≠ b772 := by rw [g772]; exact Nat.ne_of_lt V754.lt
      have ne783 : x617 ≠ b772 := by rw [g772]; exact Nat.ne_of_lt E755.lt
      have ne784 : b651 ≠ b772 := by rw [g772]; exact Nat.ne_of_lt V757.lt
      have ne785 : la728 ≠ b772 := by rw [g772]; exact Nat.ne_of_lt X728.lt
      have ne786 : lb728 ≠ b772 := by rw [g772]; exact Nat.ne_of_lt AL728.lt
      have E787 := E735.ext E772
      have F788 := F736.ext E772
      have F789 := F737.ext E772
      have F790 := F738.ext E772
      have E791 := E739.ext E772
      have O792 := O740.ext E772
      have V793 := V741.ext E772
      have E794 := E742.ext E772
      have F795 := F743.ext E772
      have F796 := F744.ext E772
      have V797 := V745.ext E772
      have E798 := E746.ext E772
      have F799 := F747.ext E772
      have F800 := F748.ext E772
      have V801 := V749.ext E772
      have E802 := E750.ext E772
      have F803 := F751.ext E772
      have F804 := F752.ext E772
      have F805 := F753.ext E772
      have V806 := V754.ext E772
      have E807 := E755.ext E772
      have F808 := F756.ext E772
      have V809 := V757.ext E772
      have E810 := X728.ext E772
      have F811 := Fc728.ext E772
      have F812 := Fv728.ext E772
      have V813 := AL728.ext E772
      have O814 := O758.ext E772
      have Sf815 := Safe.ext E772 Hd728.ch Sf729
      have Sf816 := Safe.ext E772 Hd728.ch Sf730
      have Sf817 := Safe.ext E772 Hd728.ch Sf731
      have Sf818 := Safe.ext E772 Hd728.ch Sf732
      have Sf819 := Safe.ext E772 Hd728.ch Sf733
      have Sf820 := Safe.ext E772 Hd728.ch Sf734
      have Sf821 := Safe.ext E772 Hd728.ch Sf773
      have Hd822 := Hd728.ext E772
      have Z823 : n0 ≤ h772.size := Nat.le_trans Z759 E772.1
      have F824 : Fld Z h772 b772 "java/lang/String" "value" "[B" .null := D772 (Or.inr (wd52 hw)) (ty := (.array .byte)) (by decide)
      have F825 : Fld Z h772 b772 "java/lang/String" "coder" "B" (.int (0 : Int32)) := D772 (Or.inr (wd53 hw)) (ty := .byte) (by decide)
      refine WP.dup (pc' := 98) at_97 rfl rfl ?_
      refine WP.aload (pc' := 100) at_98 rfl rfl rfl ?_
      refine WP.callI (a := b772) (argsL := [(.ref b651)]) (rest := [(.ref b772), (.ref la728), (.int (x0 &&& (2147483647 : Int32))), (.ref b1)]) (wd := 4) (cl' := 15) (sl' := 89) (pc' := 103) at_100 rfl rfl (wd100 hw) (wd101 hw) (wd49 hw) (wd102 hw) (by decide) (s_si hw b772 b651 h772 n0 Z823 ge774 A772 F824 F825 cs (S_CS.ext O814.2) hcs 1 (updI (fun _ => 0) 0 ((x1 &&& (255 : Int32)).toUInt32.toUInt16.toUInt32.toInt32)) V809 (by omega) (by omega) (by omega) (lat1 (i2c_b8 _)) ne784) pd_26 rfl rfl rfl (Nat.le_of_eq rfl) (by decide) (by decide) rfl rfl (by decide) (by decide) ?_
      rintro v h826 ⟨rfl, c826, K826, ge826, sz826, E826, Fv826, Fc826, B826, XB826⟩
      have ne827 : b1 ≠ c826 := Nat.ne_of_lt (Nat.lt_of_lt_of_le E787.lt sz826)
      have ne828 : f11 ≠ c826 := Nat.ne_of_lt (Nat.lt_of_lt_of_le E791.lt sz826)
      have ne829 : b20 ≠ c826 := Nat.ne_of_lt (Nat.lt_of_lt_of_le V793.lt sz826)
      have ne830 : la525 ≠ c826 := Nat.ne_of_lt (Nat.lt_of_lt_of_le E794.lt sz826)
      have ne831 : lb525 ≠ c826 := Nat.ne_of_lt (Nat.lt_of_lt_of_le V797.lt sz826)
      have ne832 : b551 ≠ c826 := Nat.ne_of_lt (Nat.lt_of_lt_of_le E798.lt sz826)
      have ne833 : c585 ≠ c826 := Nat.ne_of_lt (Nat.lt_of_lt_of_le V801.lt sz826)
      have ne834 : e11 ≠ c826 := Nat.ne_of_lt (Nat.lt_of_lt_of_le V806.lt sz826)
      have ne835 : x617 ≠ c826 := Nat.ne_of_lt (Nat.lt_of_lt_of_le E807.lt sz826)
      have ne836 : b651 ≠ c826 := Nat.ne_of_lt (Nat.lt_of_lt_of_le V809.lt sz826)
      have ne837 : la728 ≠ c826 := Nat.ne_of_lt (Nat.lt_of_lt_of_le E810.lt sz826)
      have ne838 : lb728 ≠ c826 := Nat.ne_of_lt (Nat.lt_of_lt_of_le V813.lt sz826)
      have ne839 : b772 ≠ c826 := Nat.ne_of_lt (Nat.lt_of_lt_of_le A772.lt sz826)
      have E840 := E787.keep K826
      have F841 := F788.keep K826 (ninS ne775 nin0)
      have F842 := F789.keep K826 (ninS ne775 nin0)
      have F843 := F790.keep K826 (ninS ne775 nin0)
      have E844 := E791.keep K826
      have O845 := O792.keep K826
      have V846 := V793.keep K826 (ninS ne777 nin0)
      have E847 := E794.keep K826
      have F848 := F795.keep K826 (ninS ne778 nin0)
      have F849 := F796.keep K826 (ninS ne778 nin0)
      have V850 := V797.keep K826 (ninS ne779 nin0)
      have E851 := E798.keep K826
      have F852 := F799.keep K826 (ninS ne780 nin0)
      have F853 := F800.keep K826 (ninS ne780 nin0)
      have V854 := V801.keep K826 (ninS ne781 nin0)
      have E855 := E802.keep K826
      have F856 := F803.keep K826 (ninS ne776 nin0)
      have F857 := F804.keep K826 (ninS ne776 nin0)
      have F858 := F805.keep K826 (ninS ne776 nin0)
      have V859 := V806.keep K826 (ninS ne782 nin0)
      have E860 := E807.keep K826
      have F861 := F808.keep K826 (ninS ne783 nin0)
      have V862 := V809.keep K826 (ninS ne784 nin0)
      have E863 := E810.keep K826
      have F864 := F811.keep K826 (ninS ne785 nin0)
      have F865 := F812.keep K826 (ninS ne785 nin0)
      have V866 := V813.keep K826 (ninS ne786 nin0)
      have E867 := A772.keep K826
      have O868 := O814.keep K826 (allS ge774 all0)
      have Sf869 := Safe.keep K826 (allS Sf821 all0) Hd822.ch Sf815
      have Sf870 := Safe.keep K826 (allS Sf821 all0) Hd822.ch Sf816
      have Sf871 := Safe.keep K826 (allS Sf821 all0) Hd822.ch Sf817
      have Sf872 := Safe.keep K826 (allS Sf821 all0) Hd822.ch Sf818
      have Sf873 := Safe.keep K826 (allS Sf821 all0) Hd822.ch Sf819
      have Sf874 := Safe.keep K826 (allS Sf821 all0) Hd822.ch Sf820
      have Sf875 := Safe.keep K826 (allS Sf821 all0) Hd822.ch Sf821
      have Hd876 := Hd822.keep K826 (allS Sf821 all0)
      have Z877 : n0 ≤ h826.size := Nat.le_trans Z823 K826.1
      refine WP.castS (st' := [(.ref b772), (.ref la728), (.int (x0 &&& (2147483647 : Int32))), (.ref b1)]) rfl ?_
      have hel878 : ∀ i, i < 1 → ElemOk Z h826 12 b1 ((updV (fun _ => .null) 0 (.ref x617)) i) := fun i hi => by
        have hi3 : i = 0 := by omega
        rcases hi3 with rfl
        · exact ⟨x617, la525, lb525, 3, _, rfl, ⟨(Ne.symm ne618), (Ne.symm ne543), (Ne.symm ne544)⟩, E860, F861, E847, F849, F848, V850, by decide, by decide⟩
      refine WP.callVH (a := b1) (K := "com/example/cordon/cordon/http/Answer") (argsL := [(.int (x0 &&& (2147483647 : Int32))), (.ref la728), (.ref b772)]) (rest := []) (wd := 0) (cl' := 20) (sl' := 146) (pc' := 106) at_103 rfl (wd121 hw) (wd122 hw) (nfS (wd124 hw) rfl) (wd124 hw) (wd123 hw) (wd2 hw) (wd125 hw) (by decide) E840 (hELw hw) Hd876 (m_snd hw b1 (x0 &&& (2147483647 : Int32)) la728 b772 h826 n0 Z877 O868 cs S_CS hcs ge3 f11 nb E840 F841 F842 F843 gef11 e11 gee11 nfe11 ((0 : Int32) + (1 : Int32)) ((0 : Int32) + (1 : Int32)) 1 (by decide) (by omega) (updV (fun _ => .null) 0 (.ref x617)) E844 F856 F857 F858 V859 O845 ne12 ne13 c826 (fun i => cv ((updI (fun _ => 0) 0 ((x1 &&& (255 : Int32)).toUInt32.toUInt16.toUInt32.toInt32)) i)) E826 Fv826 Fc826 B826 XB826 (Ne.symm ne775) (Ne.symm ne776) (Ne.symm ne782) (Ne.symm ne827) (Ne.symm ne828) (Ne.symm ne834) hel878 u8 S_U8 S_UI) pd_27 rfl rfl rfl (Nat.le_of_eq rfl) (by decide) (by decide) rfl rfl (by decide) (by decide) ?_
      rintro v vm878 h878 ⟨rfl, K878, Ea878, Ft878⟩ Hd878 Cr878
      have O879 := O868.keep K878 (allS ge3 (allS gef11 (allS gee11 all0)))
      have Z880 : n0 ≤ h878.size := Nat.le_trans Z877 K878.1
      refine WP.castS (st' := []) rfl ?_
      refine WP.aloadN (pc' := 107) at_106 rfl rfl rfl ?_
      refine WP.callV (a := b1) (K := "com/example/cordon/cordon/http/Answer") (argsL := []) (rest := []) (wd := 0) (cl' := 20) (sl' := 146) (pc' := 110) at_107 rfl (wd42 hw) (wd43 hw) (nfS (wd45 hw) rfl) (wd45 hw) (wd44 hw) (wd2 hw) (wd46 hw) (by decide) Ea878 (m_giv hw b1 h878 n0 (x0 &&& (2147483647 : Int32)) Ft878) pd_25 rfl rfl rfl (Nat.le_of_eq rfl) (by decide) (by decide) rfl rfl (by decide) (by decide) ?_
      rintro v hh881 ⟨rfl, he881⟩
      rw [he881, show b2i (decide (¬ (x0 &&& (2147483647 : Int32)) < 0)) = 1 from b2i_1.mpr (decide_eq_true (nonneg _))]
      refine WP.castS (st' := [(.int (1 : Int32))]) rfl ?_
      refine WP.istore (pc' := 112) at_110 rfl (Ls' := #[.val (.int x0), .val (.int x1), .val (.int x2), .val (.ref b1), .val (.int (0 : Int32)), .val (.ref b20), .val (.int (0 : Int32)), .val (.int (x0 &&& (2147483647 : Int32))), .val (.ref b651), .val (.int (1 : Int32))]) rfl ?_
      refine WP.iload (pc' := 114) at_112 rfl rfl ?_
      have hc114 : (0 : Int32) = (0 : Int32) := by decide
      refine WP.ifc_ne (pc1 := 131) (pc2 := 117) at_114 (by decide) (by decide) rfl (fun k => absurd hc114 k) (fun _ => ?_)
      refine WP.iload (pc' := 119) at_117 rfl rfl ?_
      have hc119 : (0 : Int32) = (0 : Int32) := by decide
      refine WP.ifc_ne (pc1 := 131) (pc2 := 122) at_119 (by decide) (by decide) rfl (fun k => absurd hc119 k) (fun _ => ?_)
      refine WP.iload (pc' := 124) at_122 rfl rfl ?_
      have hc124 : ¬ (1 : Int32) = (0 : Int32) := by decide
      refine WP.ifc_eq (pc1 := 131) (pc2 := 127) at_124 (by decide) (by decide) rfl (fun k => absurd k hc124) (fun _ => ?_)
      refine WP.iconst (pc' := 128) at_127 rfl (z := 1) rfl ?_
      refine WP.goto (pc' := 132) at_128 (by decide) (by decide) ?_
      refine WP.nretW (t := .boolean) at_132 rfl (by simp) rfl (Hd878).sn (by decide) (by decide) rfl
    · intro hc52
      refine WP.aloadN (pc' := 56) at_55 rfl rfl rfl ?_
      refine WP.ldcH (n := 40) (vs := [.int 83, .int 101, .int 116, .int 45, .int 67, .int 111, .int 111, .int 107, .int 105, .int 101]) (z := 10) (cl' := 12) (sl' := 83) (pc' := 58) at_56 rfl (wd48 hw) (wSw hw) (hELw hw) (List.mem_of_getElem? (i := 2) rfl) Hd648 ⟨by decide, by decide⟩ (by decide) rfl (by decide) (by decide) rfl rfl (by decide) (by decide) ?_
      intro vm882 h882 la882 lb882 lk882 E882 X882 Fc882 Fv882 A882 Hd882 Cr882 Ne882
      have Sf883 := Cr882.safe E626.lt Sf643
      have Sf884 := Cr882.safe E617.lt Sf644
      have Sf885 := Cr882.safe A617.lt Sf645
      have Sf886 := Cr882.safe V632.lt Sf646
      have Sf887 := Cr882.safe E637.lt Sf647
      have E888 := E626.ext E882
      have F889 := F627.ext E882
      have F890 := F628.ext E882
      have F891 := F629.ext E882
      have E892 := E617.ext E882
      have O893 := O617.ext E882
      have V894 := V632.ext E882
      have E895 := E633.ext E882
      have F896 := F634.ext E882
      have F897 := F635.ext E882
      have V898 := V636.ext E882
      have E899 := E637.ext E882
      have F900 := F638.ext E882
      have F901 := F639.ext E882
      have V902 := V640.ext E882
      have E903 := E641.ext E882
      have F904 := Fm617.ext E882
      have F905 := Fe617.ext E882
      have F906 := Fs617.ext E882
      have V907 := A617.ext E882
      have E908 := Ex617.ext E882
      have F909 := Fx617.ext E882
      have O910 := O642.ext E882
      have Z911 : n0 ≤ h882.size := Nat.le_trans Z649 E882.1
      have ne912 : b1 ≠ la882 := (Ne882 _ Sf883).1
      have ne913 : b1 ≠ lb882 := (Ne882 _ Sf883).2
      have ne914 : f11 ≠ la882 := (Ne882 _ Sf884).1
      have ne915 : f11 ≠ lb882 := (Ne882 _ Sf884).2
      have ne916 : e11 ≠ la882 := (Ne882 _ Sf885).1
      have ne917 : e11 ≠ lb882 := (Ne882 _ Sf885).2
      have ne918 : b20 ≠ la882 := (Ne882 _ Sf886).1
      have ne919 : b20 ≠ lb882 := (Ne882 _ Sf886).2
      have ne920 : b551 ≠ la882 := (Ne882 _ Sf887).1
      have ne921 : b551 ≠ lb882 := (Ne882 _ Sf887).2
      have AL882 := Ari.of_arv (L := [83, 101, 116, 45, 67, 111, 111, 107, 105, 101]) A882 rfl rfl (by decide)
      refine WP.ldcH (n := 12) (vs := [.int 97, .int 61, .int 98]) (z := 3) (cl' := 14) (sl' := 99) (pc' := 60) at_58 rfl (wd56 hw) (wSw hw) (hELw hw) (List.mem_of_getElem? (i := 3) rfl) Hd882 ⟨by decide, by decide⟩ (by decide) rfl (by decide) (by decide) rfl rfl (by decide) (by decide) ?_
      intro vm922 h922 la922 lb922 lk922 E922 X922 Fc922 Fv922 A922 Hd922 Cr922 Ne922
      have Sf923 := Cr922.safe E888.lt Sf883
      have Sf924 := Cr922.safe E892.lt Sf884
      have Sf925 := Cr922.safe V907.lt Sf885
      have Sf926 := Cr922.safe V894.lt Sf886
      have Sf927 := Cr922.safe E899.lt Sf887
      have E928 := E888.ext E922
      have F929 := F889.ext E922
      have F930 := F890.ext E922
      have F931 := F891.ext E922
      have E932 := E892.ext E922
      have O933 := O893.ext E922
      have V934 := V894.ext E922
      have E935 := E895.ext E922
      have F936 := F896.ext E922
      have F937 := F897.ext E922
      have V938 := V898.ext E922
      have E939 := E899.ext E922
      have F940 := F900.ext E922
      have F941 := F901.ext E922
      have V942 := V902.ext E922
      have E943 := E903.ext E922
      have F944 := F904.ext E922
      have F945 := F905.ext E922
      have F946 := F906.ext E922
      have V947 := V907.ext E922
      have E948 := E908.ext E922
      have F949 := F909.ext E922
      have E950 := X882.ext E922
      have F951 := Fc882.ext E922
      have F952 := Fv882.ext E922
      have V953 := AL882.ext E922
      have O954 := O910.ext E922
      have Z955 : n0 ≤ h922.size := Nat.le_trans Z911 E922.1
      have ne956 : b1 ≠ la922 := (Ne922 _ Sf923).1
      have ne957 : b1 ≠ lb922 := (Ne922 _ Sf923).2
      have ne958 : f11 ≠ la922 := (Ne922 _ Sf924).1
      have ne959 : f11 ≠ lb922 := (Ne922 _ Sf924).2
      have ne960 : e11 ≠ la922 := (Ne922 _ Sf925).1
      have ne961 : e11 ≠ lb922 := (Ne922 _ Sf925).2
      have ne962 : b20 ≠ la922 := (Ne922 _ Sf926).1
      have ne963 : b20 ≠ lb922 := (Ne922 _ Sf926).2
      have ne964 : b551 ≠ la922 := (Ne922 _ Sf927).1
      have ne965 : b551 ≠ lb922 := (Ne922 _ Sf927).2
      have AL922 := Ari.of_arv (L := [97, 61, 98]) A922 rfl rfl (by decide)
      refine WP.callV (a := b1) (K := "com/example/cordon/cordon/http/Answer") (argsL := [(.ref la882), (.ref la922)]) (rest := []) (wd := 0) (cl' := 15) (sl' := 101) (pc' := 63) at_60 rfl (wd57 hw) (wd58 hw) (nfS (wd60 hw) rfl) (wd60 hw) (wd59 hw) (wd2 hw) (wd61 hw) (by decide) E928 (m_aad hw b1 la882 la922 h922 n0 Z955 f11 gef11 e11 gee11 nfe11 ((0 : Int32) + (1 : Int32)) ((0 : Int32) + (1 : Int32)) 1 (by decide) (by omega) (updV (fun _ => .null) 0 (.ref x617)) E932 F944 F945 F946 V947 O933 F930) pd_7 rfl rfl rfl (Nat.le_of_eq rfl) (by decide) (by decide) rfl rfl (by decide) (by decide) ?_
      rintro v h966 ⟨rfl, x966, K966, ge966, sz966, E966, Fm966, Fe966, Fs966, A966, O966, Ex966, Fx966⟩
      have ne967 : b1 ≠ x966 := Nat.ne_of_lt (Nat.lt_of_lt_of_le E928.lt sz966)
      have ne968 : f11 ≠ x966 := Nat.ne_of_lt (Nat.lt_of_lt_of_le E932.lt sz966)
      have ne969 : b20 ≠ x966 := Nat.ne_of_lt (Nat.lt_of_lt_of_le V934.lt sz966)
      have ne970 : la525 ≠ x966 := Nat.ne_of_lt (Nat.lt_of_lt_of_le E935.lt sz966)
      have ne971 : lb525 ≠ x966 := Nat.ne_of_lt (Nat.lt_of_lt_of_le V938.lt sz966)
      have ne972 : b551 ≠ x966 := Nat.ne_of_lt (Nat.lt_of_lt_of_le E939.lt sz966)
      have ne973 : c585 ≠ x966 := Nat.ne_of_lt (Nat.lt_of_lt_of_le V942.lt sz966)
      have ne974 : e11 ≠ x966 := Nat.ne_of_lt (Nat.lt_of_lt_of_le V947.lt sz966)
      have ne975 : x617 ≠ x966 := Nat.ne_of_lt (Nat.lt_of_lt_of_le E948.lt sz966)
      have ne976 : la882 ≠ x966 := Nat.ne_of_lt (Nat.lt_of_lt_of_le E950.lt sz966)
      have ne977 : lb882 ≠ x966 := Nat.ne_of_lt (Nat.lt_of_lt_of_le V953.lt sz966)
      have ne978 : la922 ≠ x966 := Nat.ne_of_lt (Nat.lt_of_lt_of_le X922.lt sz966)
      have ne979 : lb922 ≠ x966 := Nat.ne_of_lt (Nat.lt_of_lt_of_le AL922.lt sz966)
      have E980 := E928.keep K966
      have F981 := F929.keep K966 (ninS ne12 (ninS ne13 nin0))
      have F982 := F930.keep K966 (ninS ne12 (ninS ne13 nin0))
      have F983 := F931.keep K966 (ninS ne12 (ninS ne13 nin0))
      have E984 := E932.keep K966
      have O985 := O933.keep K966
      have V986 := V934.keep K966 (ninS (Ne.symm ne24) (ninS (Ne.symm ne25) nin0))
      have E987 := E935.keep K966
      have F988 := F936.keep K966 (ninS (Ne.symm ne545) (ninS (Ne.symm ne547) nin0))
      have F989 := F937.keep K966 (ninS (Ne.symm ne545) (ninS (Ne.symm ne547) nin0))
      have V990 := V938.keep K966 (ninS (Ne.symm ne546) (ninS (Ne.symm ne548) nin0))
      have E991 := E939.keep K966
      have F992 := F940.keep K966 (ninS (Ne.symm ne555) (ninS (Ne.symm ne556) nin0))
      have F993 := F941.keep K966 (ninS (Ne.symm ne555) (ninS (Ne.symm ne556) nin0))
      have V994 := V942.keep K966 (ninS (Ne.symm ne587) (ninS (Ne.symm ne588) nin0))
      have E995 := E943.keep K966
      have E996 := E948.keep K966
      have F997 := F949.keep K966 (ninS (Ne.symm ne619) (ninS (Ne.symm ne620) nin0))
      have E998 := E950.keep K966
      have F999 := F951.keep K966 (ninS (Ne.symm ne914) (ninS (Ne.symm ne916) nin0))
      have F1000 := F952.keep K966 (ninS (Ne.symm ne914) (ninS (Ne.symm ne916) nin0))
      have V1001 := V953.keep K966 (ninS (Ne.symm ne915) (ninS (Ne.symm ne917) nin0))
      have E1002 := X922.keep K966
      have F1003 := Fc922.keep K966 (ninS (Ne.symm ne958) (ninS (Ne.symm ne960) nin0))
      have F1004 := Fv922.keep K966 (ninS (Ne.symm ne958) (ninS (Ne.symm ne960) nin0))
      have V1005 := AL922.keep K966 (ninS (Ne.symm ne959) (ninS (Ne.symm ne961) nin0))
      have O1006 := O954.keep K966 (allS gef11 (allS gee11 all0))
      have Sf1007 := Safe.keep K966 (allS Sf924 (allS Sf925 all0)) Hd922.ch Sf923
      have Sf1008 := Safe.keep K966 (allS Sf924 (allS Sf925 all0)) Hd922.ch Sf924
      have Sf1009 := Safe.keep K966 (allS Sf924 (allS Sf925 all0)) Hd922.ch Sf925
      have Sf1010 := Safe.keep K966 (allS Sf924 (allS Sf925 all0)) Hd922.ch Sf926
      have Sf1011 := Safe.keep K966 (allS Sf924 (allS Sf925 all0)) Hd922.ch Sf927
      have Hd1012 := Hd922.keep K966 (allS Sf924 (allS Sf925 all0))
      have Z1013 : n0 ≤ h966.size := Nat.le_trans Z955 K966.1
      refine WP.castS (st' := []) rfl ?_
      refine WP.aloadN (pc' := 64) at_63 rfl rfl rfl ?_
      refine WP.callV (a := b1) (K := "com/example/cordon/cordon/http/Answer") (argsL := []) (rest := []) (wd := 0) (cl' := 15) (sl' := 101) (pc' := 67) at_64 rfl (wd42 hw) (wd43 hw) (nfS (wd45 hw) rfl) (wd45 hw) (wd44 hw) (wd2 hw) (wd46 hw) (by decide) E980 (m_giv hw b1 h966 n0 (-1 : Int32) F981) pd_25 rfl rfl rfl (Nat.le_of_eq rfl) (by decide) (by decide) rfl rfl (by decide) (by decide) ?_
      rintro v hh1014 ⟨rfl, he1014⟩
      rw [he1014, show b2i (decide (¬ (-1 : Int32) < 0)) = 0 from by decide]
      refine WP.castS (st' := [(.int (0 : Int32))]) rfl ?_
      refine WP.istore (pc' := 69) at_67 rfl (Ls' := #[.val (.int x0), .val (.int x1), .val (.int x2), .val (.ref b1), .val (.int (0 : Int32)), .val (.ref b20), .val (.int (0 : Int32)), .unset, .unset, .unset]) rfl ?_
      refine WP.iloadN (pc' := 70) at_69 rfl rfl ?_
      refine WP.ldcI (pc' := 72) at_70 rfl (wd97 hw) ?_
      refine WP.iand (pc' := 73) at_72 rfl ?_
      refine WP.istore (pc' := 75) at_73 rfl (Ls' := #[.val (.int x0), .val (.int x1), .val (.int x2), .val (.ref b1), .val (.int (0 : Int32)), .val (.ref b20), .val (.int (0 : Int32)), .val (.int (x0 &&& (2147483647 : Int32))), .unset, .unset]) rfl ?_
      refine WP.iconst (pc' := 76) at_75 rfl (z := 1) rfl ?_
      refine WP.newPI (ty := .char) (n := 1) (cap := 1) (cl' := 16) (sl' := 102) (pc' := 78) at_76 rfl rfl rfl (wd47 hw) (by decide) (by decide) (by decide) rfl rfl (by decide) (by decide) ?_
      intro h1015 b1015 g1015 E1015 A1015
      have Sf1016 : Safe Z consts_1 vm922 h966 b1015 := Safe.new (by rw [g1015]; exact Nat.le_refl _)
      have ge1017 : n0 ≤ b1015 := by rw [g1015]; exact Z1013
      have ne1018 : b1 ≠ b1015 := by rw [g1015]; exact Nat.ne_of_lt E980.lt
      have ne1019 : f11 ≠ b1015 := by rw [g1015]; exact Nat.ne_of_lt E966.lt
      have ne1020 : b20 ≠ b1015 := by rw [g1015]; exact Nat.ne_of_lt V986.lt
      have ne1021 : la525 ≠ b1015 := by rw [g1015]; exact Nat.ne_of_lt E987.lt
      have ne1022 : lb525 ≠ b1015 := by rw [g1015]; exact Nat.ne_of_lt V990.lt
      have ne1023 : b551 ≠ b1015 := by rw [g1015]; exact Nat.ne_of_lt E991.lt
      have ne1024 : c585 ≠ b1015 := by rw [g1015]; exact Nat.ne_of_lt V994.lt
      have ne1025 : x617 ≠ b1015 := by rw [g1015]; exact Nat.ne_of_lt E996.lt
      have ne1026 : la882 ≠ b1015 := by rw [g1015]; exact Nat.ne_of_lt E998.lt
      have ne1027 : lb882 ≠ b1015 := by rw [g1015]; exact Nat.ne_of_lt V1001.lt
      have ne1028 : la922 ≠ b1015 := by rw [g1015]; exact Nat.ne_of_lt E1002.lt
      have ne1029 : lb922 ≠ b1015 := by rw [g1015]; exact Nat.ne_of_lt V1005.lt
      have ne1030 : e11 ≠ b1015 := by rw [g1015]; exact Nat.ne_of_lt A966.lt
      have ne1031 : x966 ≠ b1015 := by rw [g1015]; exact Nat.ne_of_lt Ex966.lt
      have E1032 := E980.ext E1015
      have F1033 := F981.ext E1015
      have F1034 := F982.ext E1015
      have F1035 := F983.ext E1015
      have E1036 := E966.ext E1015
      have O1037 := O966.ext E1015
      have V1038 := V986.ext E1015
      have E1039 := E987.ext E1015
      have F1040 := F988.ext E1015
      have F1041 := F989.ext E1015
      have V1042 := V990.ext E1015
      have E1043 := E991.ext E1015
      have F1044 := F992.ext E1015
      have F1045 := F993.ext E1015
      have V1046 := V994.ext E1015
      have E1047 := E995.ext E1015
      have E1048 := E996.ext E1015
      have F1049 := F997.ext E1015
      have E1050 := E998.ext E1015
      have F1051 := F999.ext E1015
      have F1052 := F1000.ext E1015
      have V1053 := V1001.ext E1015
      have E1054 := E1002.ext E1015
      have F1055 := F1003.ext E1015
      have F1056 := F1004.ext E1015
      have V1057 := V1005.ext E1015
      have F1058 := Fm966.ext E1015
      have F1059 := Fe966.ext E1015
      have F1060 := Fs966.ext E1015
      have V1061 := A966.ext E1015
      have E1062 := Ex966.ext E1015
      have F1063 := Fx966.ext E1015
      have O1064 := O1006.ext E1015
      have Sf1065 := Safe.ext E1015 Hd1012.ch Sf1007
      have Sf1066 := Safe.ext E1015 Hd1012.ch Sf1008
      have Sf1067 := Safe.ext E1015 Hd1012.ch Sf1009
      have Sf1068 := Safe.ext E1015 Hd1012.ch Sf1010
      have Sf1069 := Safe.ext E1015 Hd1012.ch Sf1011
      have Sf1070 := Safe.ext E1015 Hd1012.ch Sf1016
      have Hd1071 := Hd1012.ext E1015
      have Z1072 : n0 ≤ h1015.size := Nat.le_trans Z1013 E1015.1
      refine WP.dup (pc' := 79) at_78 rfl rfl ?_
      refine WP.iconst (pc' := 80) at_79 rfl (z := 0) rfl ?_
      refine WP.iloadN (pc' := 81) at_80 rfl rfl ?_
      refine WP.sipush (pc' := 84) at_81 rfl (z := 255) rfl ?_
      refine WP.iand (pc' := 85) at_84 rfl ?_
      refine WP.i2c (pc' := 86) at_85 rfl ?_
      refine WP.castoreI (x' := ((x1 &&& (255 : Int32)).toUInt32.toUInt16.toUInt32.toInt32)) (0) (pc' := 87) at_86 rfl A1015 (by decide) (by decide) ge1017 (narC (i2c_b8 _)) ?_
      intro h1073 K1074 A1075
      have E1076 := E1032.keep K1074
      have F1077 := F1033.keep K1074 (ninS ne1018 nin0)
      have F1078 := F1034.keep K1074 (ninS ne1018 nin0)
      have F1079 := F1035.keep K1074 (ninS ne1018 nin0)
      have E1080 := E1036.keep K1074
      have O1081 := O1037.keep K1074
      have V1082 := V1038.keep K1074 (ninS ne1020 nin0)
      have E1083 := E1039.keep K1074
      have F1084 := F1040.keep K1074 (ninS ne1021 nin0)
      have F1085 := F1041.keep K1074 (ninS ne1021 nin0)
      have V1086 := V1042.keep K1074 (ninS ne1022 nin0)
      have E1087 := E1043.keep K1074
      have F1088 := F1044.keep K1074 (ninS ne1023 nin0)
      have F1089 := F1045.keep K1074 (ninS ne1023 nin0)
      have V1090 := V1046.keep K1074 (ninS ne1024 nin0)
      have E1091 := E1047.keep K1074
      have E1092 := E1048.keep K1074
      have F1093 := F1049.keep K1074 (ninS ne1025 nin0)
      have E1094 := E1050.keep K1074
      have F1095 := F1051.keep K1074 (ninS ne1026 nin0)
      have F1096 := F1052.keep K1074 (ninS ne1026 nin0)
      have V1097 := V1053.keep K1074 (ninS ne1027 nin0)
      have E1098 := E1054.keep K1074
      have F1099 := F1055.keep K1074 (ninS ne1028 nin0)
      have F1100 := F1056.keep K1074 (ninS ne1028 nin0)
      have V1101 := V1057.keep K1074 (ninS ne1029 nin0)
      have F1102 := F1058.keep K1074 (ninS ne1019 nin0)
      have F1103 := F1059.keep K1074 (ninS ne1019 nin0)
      have F1104 := F1060.keep K1074 (ninS ne1019 nin0)
      have V1105 := V1061.keep K1074 (ninS ne1030 nin0)
      have E1106 := E1062.keep K1074
      have F1107 := F1063.keep K1074 (ninS ne1031 nin0)
      have O1108 := O1064.keep K1074 (allS ge1017 all0)
      have Sf1109 := Safe.keep K1074 (allS Sf1070 all0) Hd1071.ch Sf1065
      have Sf1110 := Safe.keep K1074 (allS Sf1070 all0) Hd1071.ch Sf1066
      have Sf1111 := Safe.keep K1074 (allS Sf1070 all0) Hd1071.ch Sf1067
      have Sf1112 := Safe.keep K1074 (allS Sf1070 all0) Hd1071.ch Sf1068
      have Sf1113 := Safe.keep K1074 (allS Sf1070 all0) Hd1071.ch Sf1069
      have Sf1114 := Safe.keep K1074 (allS Sf1070 all0) Hd1071.ch Sf1070
      have Hd1115 := Hd1071.keep K1074 (allS Sf1070 all0)
      have Z1116 : n0 ≤ h1073.size := Nat.le_trans Z1072 K1074.1
      refine WP.astore (pc' := 89) at_87 rfl rfl (Ls' := #[.val (.int x0), .val (.int x1), .val (.int x2), .val (.ref b1), .val (.int (0 : Int32)), .val (.ref b20), .val (.int (0 : Int32)), .val (.int (x0 &&& (2147483647 : Int32))), .val (.ref b1015), .unset]) rfl ?_
      refine WP.aloadN (pc' := 90) at_89 rfl rfl rfl ?_
      refine WP.iload (pc' := 92) at_90 rfl rfl ?_
      refine WP.ldcH (n := 40) (vs := [.int 116, .int 101, .int 120, .int 116, .int 47, .int 112, .int 108, .int 97, .int 105, .int 110]) (z := 10) (cl' := 18) (sl' := 146) (pc' := 94) at_92 rfl (wd98 hw) (wSw hw) (hELw hw) (List.mem_of_getElem? (i := 4) rfl) Hd1115 ⟨by decide, by decide⟩ (by decide) rfl (by decide) (by decide) rfl rfl (by decide) (by decide) ?_
      intro vm1117 h1117 la1117 lb1117 lk1117 E1117 X1117 Fc1117 Fv1117 A1117 Hd1117 Cr1117 Ne1117
      have Sf1118 := Cr1117.safe E1076.lt Sf1109
      have Sf1119 := Cr1117.safe E1080.lt Sf1110
      have Sf1120 := Cr1117.safe V1105.lt Sf1111
      have Sf1121 := Cr1117.safe V1082.lt Sf1112
      have Sf1122 := Cr1117.safe E1087.lt Sf1113
      have Sf1123 := Cr1117.safe A1075.lt Sf1114
      have E1124 := E1076.ext E1117
      have F1125 := F1077.ext E1117
      have F1126 := F1078.ext E1117
      have F1127 := F1079.ext E1117
      have E1128 := E1080.ext E1117
      have O1129 := O1081.ext E1117
      have V1130 := V1082.ext E1117
      have E1131 := E1083.ext E1117
      have F1132 := F1084.ext E1117
      have F1133 := F1085.ext E1117
      have V1134 := V1086.ext E1117
      have E1135 := E1087.ext E1117
      have F1136 := F1088.ext E1117
      have F1137 := F1089.ext E1117
      have V1138 := V1090.ext E1117
      have E1139 := E1091.ext E1117
      have E1140 := E1092.ext E1117
      have F1141 := F1093.ext E1117
      have E1142 := E1094.ext E1117
      have F1143 := F1095.ext E1117
      have F1144 := F1096.ext E1117
      have V1145 := V1097.ext E1117
      have E1146 := E1098.ext E1117
      have F1147 := F1099.ext E1117
      have F1148 := F1100.ext E1117
      have V1149 := V1101.ext E1117
      have F1150 := F1102.ext E1117
      have F1151 := F1103.ext E1117
      have F1152 := F1104.ext E1117
      have V1153 := V1105.ext E1117
      have E1154 := E1106.ext E1117
      have F1155 := F1107.ext E1117
      have V1156 := A1075.ext E1117
      have O1157 := O1108.ext E1117
      have Z1158 : n0 ≤ h1117.size := Nat.le_trans Z1116 E1117.1
      have ne1159 : b1 ≠ la1117 := (Ne1117 _ Sf1118).1
      have ne1160 : b1 ≠ lb1117 := (Ne1117 _ Sf1118).2
      have ne1161 : f11 ≠ la1117 := (Ne1117 _ Sf1119).1
      have ne1162 : f11 ≠ lb1117 := (Ne1117 _ Sf1119).2
      have ne1163 : e11 ≠ la1117 := (Ne1117 _ Sf1120).1
      have ne1164 : e11 ≠ lb1117 := (Ne1117 _ Sf1120).2
      have ne1165 : b20 ≠ la1117 := (Ne1117 _ Sf1121).1
      have ne1166 : b20 ≠ lb1117 := (Ne1117 _ Sf1121).2
      have ne1167 : b551 ≠ la1117 := (Ne1117 _ Sf1122).1
      have ne1168 : b551 ≠ lb1117 := (Ne1117 _ Sf1122).2
      have ne1169 : b1015 ≠ la1117 := (Ne1117 _ Sf1123).1
      have ne1170 : b1015 ≠ lb1117 := (Ne1117 _ Sf1123).2
      have AL1117 := Ari.of_arv (L := [116, 101, 120, 116, 47, 112, 108, 97, 105, 110]) A1117 rfl rfl (by decide)
      refine WP.newO (cl' := 19) (sl' := 150) (pc' := 97) at_94 rfl (wd99 hw) (wd50 hw) (wd49 hw) rfl rfl (by decide) (by decide) ?_
      intro h1171 b1171 g1171 E1171 A1171 D1171
      have Sf1172 : Safe Z consts_1 vm1117 h1117 b1171 := Safe.new (by rw [g1171]; exact Nat.le_refl _)
      have ge1173 : n0 ≤ b1171 := by rw [g1171]; exact Z1158
      have ne1174 : b1 ≠ b1171 := by rw [g1171]; exact Nat.ne_of_lt E1124.lt
      have ne1175 : f11 ≠ b1171 := by rw [g1171]; exact Nat.ne_of_lt E1128.lt
      have ne1176 : b20 ≠ b1171 := by rw [g1171]; exact Nat.ne_of_lt V1130.lt
      have ne1177 : la525 ≠ b1171 := by rw [g1171]; exact Nat.ne_of_lt E1131.lt
      have ne1178 : lb525 ≠ b1171 := by rw [g1171]; exact Nat.ne_of_lt V1134.lt
      have ne1179 : b551 ≠ b1171 := by rw [g1171]; exact Nat.ne_of_lt E1135.lt
      have ne1180 : c585 ≠ b1171 := by rw [g1171]; exact Nat.ne_of_lt V1138.lt
      have ne1181 : x617 ≠ b1171 := by rw [g1171]; exact Nat.ne_of_lt E1140.lt
      have ne1182 : la882 ≠ b1171 := by rw [g1171]; exact Nat.ne_of_lt E1142.lt
      have ne1183 : lb882 ≠ b1171 := by rw [g1171]; exact Nat.ne_of_lt V1145.lt
      have ne1184 : la922 ≠ b1171 := by rw [g1171]; exact Nat.ne_of_lt E1146.lt
      have ne1185 : lb922 ≠ b1171 := by rw [g1171]; exact Nat.ne_of_lt V1149.lt
      have ne1186 : e11 ≠ b1171 := by rw [g1171]; exact Nat.ne_of_lt V1153.lt
      have ne1187 : x966 ≠ b1171 := by rw [g1171]; exact Nat.ne_of_lt E1154.lt
      have ne1188 : b1015 ≠ b1171 := by rw [g1171]; exact Nat.ne_of_lt V1156.lt
      have ne1189 : la1117 ≠ b1171 := by rw [g1171]; exact Nat.ne_of_lt X1117.lt
      have ne1190 : lb1117 ≠ b1171 := by rw [g1171]; exact Nat.ne_of_lt AL1117.lt
      have E1191 := E1124.ext E1171
      have F1192 := F1125.ext E1171
      have F1193 := F1126.ext E1171
      have F1194 := F1127.ext E1171
      have E1195 := E1128.ext E1171
      have O1196 := O1129.ext E1171
      have V1197 := V1130.ext E1171
      have E1198 := E1131.ext E1171
      have F1199 := F1132.ext E1171
      have F1200 := F1133.ext E1171
      have V1201 := V1134.ext E1171
      have E1202 := E1135.ext E1171
      have F1203 := F1136.ext E1171
      have F1204 := F1137.ext E1171
      have V1205 := V1138.ext E1171
      have E1206 := E1139.ext E1171
      have E1207 := E1140.ext E1171
      have F1208 := F1141.ext E1171
      have E1209 := E1142.ext E1171
      have F1210 := F1143.ext E1171
      have F1211 := F1144.ext E1171
      have V1212 := V1145.ext E1171
      have E1213 := E1146.ext E1171
      have F1214 := F1147.ext E1171
      have F1215 := F1148.ext E1171
      have V1216 := V1149.ext E1171
      have F1217 := F1150.ext E1171
      have F1218 := F1151.ext E1171
      have F1219 := F1152.ext E1171
      have V1220 := V1153.ext E1171
      have E1221 := E1154.ext E1171
      have F1222 := F1155.ext E1171
      have V1223 := V1156.ext E1171
      have E1224 := X1117.ext E1171
      have F1225 := Fc1117.ext E1171
      have F1226 := Fv1117.ext E1171
      have V1227 := AL1117.ext E1171
      have O1228 := O1157.ext E1171
      have Sf1229 := Safe.ext E1171 Hd1117.ch Sf1118
      have Sf1230 := Safe.ext E1171 Hd1117.ch Sf1119
      have Sf1231 := Safe.ext E1171 Hd1117.ch Sf1120
      have Sf1232 := Safe.ext E1171 Hd1117.ch Sf1121
      have Sf1233 := Safe.ext E1171 Hd1117.ch Sf1122
      have Sf1234 := Safe.ext E1171 Hd1117.ch Sf1123
      have Sf1235 := Safe.ext E1171 Hd1117.ch Sf1172
      have Hd1236 := Hd1117.ext E1171
      have Z1237 : n0 ≤ h1171.size := Nat.le_trans Z1158 E1171.1
      have F1238 : Fld Z h1171 b1171 "java/lang/String" "value" "[B" .null := D1171 (Or.inr (wd52 hw)) (ty := (.array .byte)) (by decide)
      have F1239 : Fld Z h1171 b1171 "java/lang/String" "coder" "B" (.int (0 : Int32)) := D1171 (Or.inr (wd53 hw)) (ty := .byte) (by decide)
      refine WP.dup (pc' := 98) at_97 rfl rfl ?_
      refine WP.aload (pc' := 100) at_98 rfl rfl rfl ?_
      refine WP.callI (a := b1171) (argsL := [(.ref b1015)]) (rest := [(.ref b1171), (.ref la1117), (.int (x0 &&& (2147483647 : Int32))), (.ref b1)]) (wd := 4) (cl' := 20) (sl' := 151) (pc' := 103) at_100 rfl rfl (wd100 hw) (wd101 hw) (wd49 hw) (wd102 hw) (by decide) (s_si hw b1171 b1015 h1171 n0 Z1237 ge1173 A1171 F1238 F1239 cs (S_CS.ext O1228.2) hcs 1 (updI (fun _ => 0) 0 ((x1 &&& (255 : Int32)).toUInt32.toUInt16.toUInt32.toInt32)) V1223 (by omega) (by omega) (by omega) (lat1 (i2c_b8 _)) ne1188) pd_26 rfl rfl rfl (Nat.le_of_eq rfl) (by decide) (by decide) rfl rfl (by decide) (by decide) ?_
      rintro v h1240 ⟨rfl, c1240, K1240, ge1240, sz1240, E1240, Fv1240, Fc1240, B1240, XB1240⟩
      have ne1241 : b1 ≠ c1240 := Nat.ne_of_lt (Nat.lt_of_lt_of_le E1191.lt sz1240)
      have ne1242 : f11 ≠ c1240 := Nat.ne_of_lt (Nat.lt_of_lt_of_le E1195.lt sz1240)
      have ne1243 : b20 ≠ c1240 := Nat.ne_of_lt (Nat.lt_of_lt_of_le V1197.lt sz1240)
      have ne1244 : la525 ≠ c1240 := Nat.ne_of_lt (Nat.lt_of_lt_of_le E1198.lt sz1240)
      have ne1245 : lb525 ≠ c1240 := Nat.ne_of_lt (Nat.lt_of_lt_of_le V1201.lt sz1240)
      have ne1246 : b551 ≠ c1240 := Nat.ne_of_lt (Nat.lt_of_lt_of_le E1202.lt sz1240)
      have ne1247 : c585 ≠ c1240 := Nat.ne_of_lt (Nat.lt_of_lt_of_le V1205.lt sz1240)
      have ne1248 : x617 ≠ c1240 := Nat.ne_of_lt (Nat.lt_of_lt_of_le E1207.lt sz1240)
      have ne1249 : la882 ≠ c1240 := Nat.ne_of_lt (Nat.lt_of_lt_of_le E1209.lt sz1240)
      have ne1250 : lb882 ≠ c1240 := Nat.ne_of_lt (Nat.lt_of_lt_of_le V1212.lt sz1240)
      have ne1251 : la922 ≠ c1240 := Nat.ne_of_lt (Nat.lt_of_lt_of_le E1213.lt sz1240)
      have ne1252 : lb922 ≠ c1240 := Nat.ne_of_lt (Nat.lt_of_lt_of_le V1216.lt sz1240)
      have ne1253 : e11 ≠ c1240 := Nat.ne_of_lt (Nat.lt_of_lt_of_le V1220.lt sz1240)
      have ne1254 : x966 ≠ c1240 := Nat.ne_of_lt (Nat.lt_of_lt_of_le E1221.lt sz1240)
      have ne1255 : b1015 ≠ c1240 := Nat.ne_of_lt (Nat.lt_of_lt_of_le V1223.lt sz1240)
      have ne1256 : la1117 ≠ c1240 := Nat.ne_of_lt (Nat.lt_of_lt_of_le E1224.lt sz1240)
      have ne1257 : lb1117 ≠ c1240 := Nat.ne_of_lt (Nat.lt_of_lt_of_le V1227.lt sz1240)
      have ne1258 : b1171 ≠ c1240 := Nat.ne_of_lt (Nat.lt_of_lt_of_le A1171.lt sz1240)
      have E1259 := E1191.keep K1240
      have F1260 := F1192.keep K1240 (ninS ne1174 nin0)
      have F1261 := F1193.keep K1240 (ninS ne1174 nin0)
      have F1262 := F1194.keep K1240 (ninS ne1174 nin0)
      have E1263 := E1195.keep K1240
      have O1264 := O1196.keep K1240
      have V1265 := V1197.keep K1240 (ninS ne1176 nin0)
      have E1266 := E1198.keep K1240
      have F1267 := F1199.keep K1240 (ninS ne1177 nin0)
      have F1268 := F1200.keep K1240 (ninS ne1177 nin0)
      have V1269 := V1201.keep K1240 (ninS ne1178 nin0)
      have E1270 := E1202.keep K1240
      have F1271 := F1203.keep K1240 (ninS ne1179 nin0)
      have F1272 := F1204.keep K1240 (ninS ne1179 nin0)
      have V1273 := V1205.keep K1240 (ninS ne1180 nin0)
      have E1274 := E1206.keep K1240
      have E1275 := E1207.keep K1240
      have F1276 := F1208.keep K1240 (ninS ne1181 nin0)
      have E1277 := E1209.keep K1240
      have F1278 := F1210.keep K1240 (ninS ne1182 nin0)
      have F1279 := F1211.keep K1240 (ninS ne1182 nin0)
      have V1280 := V1212.keep K1240 (ninS ne1183 nin0)
      have E1281 := E1213.keep K1240
      have F1282 := F1214.keep K1240 (ninS ne1184 nin0)
      have F1283 := F1215.keep K1240 (ninS ne1184 nin0)
      have V1284 := V1216.keep K1240 (ninS ne1185 nin0)
      have F1285 := F1217.keep K1240 (ninS ne1175 nin0)
      have F1286 := F1218.keep K1240 (ninS ne1175 nin0)
      have F1287 := F1219.keep K1240 (ninS ne1175 nin0)
      have V1288 := V1220.keep K1240 (ninS ne1186 nin0)
      have E1289 := E1221.keep K1240
      have F1290 := F1222.keep K1240 (ninS ne1187 nin0)
      have V1291 := V1223.keep K1240 (ninS ne1188 nin0)
      have E1292 := E1224.keep K1240
      have F1293 := F1225.keep K1240 (ninS ne1189 nin0)
      have F1294 := F1226.keep K1240 (ninS ne1189 nin0)
      have V1295 := V1227.keep K1240 (ninS ne1190 nin0)
      have E1296 := A1171.keep K1240
      have O1297 := O1228.keep K1240 (allS ge1173 all0)
      have Sf1298 := Safe.keep K1240 (allS Sf1235 all0) Hd1236.ch Sf1229
      have Sf1299 := Safe.keep K1240 (allS Sf1235 all0) Hd1236.ch Sf1230
      have Sf1300 := Safe.keep K1240 (allS Sf1235 all0) Hd1236.ch Sf1231
      have Sf1301 := Safe.keep K1240 (allS Sf1235 all0) Hd1236.ch Sf1232
      have Sf1302 := Safe.keep K1240 (allS Sf1235 all0) Hd1236.ch Sf1233
      have Sf1303 := Safe.keep K1240 (allS Sf1235 all0) Hd1236.ch Sf1234
      have Sf1304 := Safe.keep K1240 (allS Sf1235 all0) Hd1236.ch Sf1235
      have Hd1305 := Hd1236.keep K1240 (allS Sf1235 all0)
      have Z1306 : n0 ≤ h1240.size := Nat.le_trans Z1237 K1240.1
      refine WP.castS (st' := [(.ref b1171), (.ref la1117), (.int (x0 &&& (2147483647 : Int32))), (.ref b1)]) rfl ?_
      have hel1307 : ∀ i, i < 2 → ElemOk Z h1240 12 b1 ((updV (updV (fun _ => .null) 0 (.ref x617)) 1 (.ref x966)) i) := fun i hi => by
        have hi3 : i = 0 ∨ i = 1 := by omega
        rcases hi3 with rfl | rfl
        · exact ⟨x617, la525, lb525, 3, _, rfl, ⟨(Ne.symm ne618), (Ne.symm ne543), (Ne.symm ne544)⟩, E1275, F1276, E1266, F1268, F1267, V1269, by decide, by decide⟩
        · exact ⟨x966, la882, lb882, 10, _, rfl, ⟨(Ne.symm ne967), (Ne.symm ne912), (Ne.symm ne913)⟩, E1289, F1290, E1277, F1279, F1278, V1280, by decide, by decide⟩
      refine WP.callVH (a := b1) (K := "com/example/cordon/cordon/http/Answer") (argsL := [(.int (x0 &&& (2147483647 : Int32))), (.ref la1117), (.ref b1171)]) (rest := []) (wd := 0) (cl' := 25) (sl' := 208) (pc' := 106) at_103 rfl (wd121 hw) (wd122 hw) (nfS (wd124 hw) rfl) (wd124 hw) (wd123 hw) (wd2 hw) (wd125 hw) (by decide) E1259 (hELw hw) Hd1305 (m_snd hw b1 (x0 &&& (2147483647 : Int32)) la1117 b1171 h1240 n0 Z1306 O1297 cs S_CS hcs ge3 f11 nb E1259 F1260 F1261 F1262 gef11 e11 gee11 nfe11 (((0 : Int32) + (1 : Int32)) + (1 : Int32)) (((0 : Int32) + (1 : Int32)) + (1 : Int32)) 2 (by decide) (by omega) (updV (updV (fun _ => .null) 0 (.ref x617)) 1 (.ref x966)) E1263 F1285 F1286 F1287 V1288 O1264 ne12 ne13 c1240 (fun i => cv ((updI (fun _ => 0) 0 ((x1 &&& (255 : Int32)).toUInt32.toUInt16.toUInt32.toInt32)) i)) E1240 Fv1240 Fc1240 B1240 XB1240 (Ne.symm ne1174) (Ne.symm ne1175) (Ne.symm ne1186) (Ne.symm ne1241) (Ne.symm ne1242) (Ne.symm ne1253) hel1307 u8 S_U8 S_UI) pd_27 rfl rfl rfl (Nat.le_of_eq rfl) (by decide) (by decide) rfl rfl (by decide) (by decide) ?_
      rintro v vm1307 h1307 ⟨rfl, K1307, Ea1307, Ft1307⟩ Hd1307 Cr1307
      have O1308 := O1297.keep K1307 (allS ge3 (allS gef11 (allS gee11 all0)))
      have Z1309 : n0 ≤ h1307.size := Nat.le_trans Z1306 K1307.1
      refine WP.castS (st' := []) rfl ?_
      refine WP.aloadN (pc' := 107) at_106 rfl rfl rfl ?_
      refine WP.callV (a := b1) (K := "com/example/cordon/cordon/http/Answer") (argsL := []) (rest := []) (wd := 0) (cl' := 25) (sl' := 208) (pc' := 110) at_107 rfl (wd42 hw) (wd43 hw) (nfS (wd45 hw) rfl) (wd45 hw) (wd44 hw) (wd2 hw) (wd46 hw) (by decide) Ea1307 (m_giv hw b1 h1307 n0 (x0 &&& (2147483647 : Int32)) Ft1307) pd_25 rfl rfl rfl (Nat.le_of_eq rfl) (by decide) (by decide) rfl rfl (by decide) (by decide) ?_
      rintro v hh1310 ⟨rfl, he1310⟩
      rw [he1310, show b2i (decide (¬ (x0 &&& (2147483647 : Int32)) < 0)) = 1 from b2i_1.mpr (decide_eq_true (nonneg _))]
      refine WP.castS (st' := [(.int (1 : Int32))]) rfl ?_
      refine WP.istore (pc' := 112) at_110 rfl (Ls' := #[.val (.int x0), .val (.int x1), .val (.int x2), .val (.ref b1), .val (.int (0 : Int32)), .val (.ref b20), .val (.int (0 : Int32)), .val (.int (x0 &&& (2147483647 : Int32))), .val (.ref b1015), .val (.int (1 : Int32))]) rfl ?_
      refine WP.iload (pc' := 114) at_112 rfl rfl ?_
      have hc114 : (0 : Int32) = (0 : Int32) := by decide
      refine WP.ifc_ne (pc1 := 131) (pc2 := 117) at_114 (by decide) (by decide) rfl (fun k => absurd hc114 k) (fun _ => ?_)
      refine WP.iload (pc' := 119) at_117 rfl rfl ?_
      have hc119 : (0 : Int32) = (0 : Int32) := by decide
      refine WP.ifc_ne (pc1 := 131) (pc2 := 122) at_119 (by decide) (by decide) rfl (fun k => absurd hc119 k) (fun _ => ?_)
      refine WP.iload (pc' := 124) at_122 rfl rfl ?_
      have hc124 : ¬ (1 : Int32) = (0 : Int32) := by decide
      refine WP.ifc_eq (pc1 := 131) (pc2 := 127) at_124 (by decide) (by decide) rfl (fun k => absurd k hc124) (fun _ => ?_)
      refine WP.iconst (pc' := 128) at_127 rfl (z := 1) rfl ?_
      refine WP.goto (pc' := 132) at_128 (by decide) (by decide) ?_
      refine WP.nretW (t := .boolean) at_132 rfl (by simp) rfl (Hd1307).sn (by decide) (by decide) rfl
theorem eq_refs {args : Array Value} {first s : State} {o : Option Outcome} {idx : List Nat} {t u : Term} {a b : Addr} (ht : t.eval args first o idx s = some (.ref a)) (hu : u.eval args first o idx s = some (.ref b)) (h : (Jvm.Cond.eq t u).value args first o s idx = some true) : a = b := by
  simp [Jvm.Cond.value, ht, hu] at h
  exact h
theorem wd39 {Z : State} {a0 : Array Value} (hw : ∀ d ∈ tables_1, d.before a0 Z = true) : (Jvm.Cond.laysStatic "com/example/cordon/cordon/http/Answer" "NO_BODY" "[B").before a0 Z = true := hw _ (List.mem_of_getElem? (i := 39) rfl)
set_option maxRecDepth 65536 in
set_option maxHeartbeats 40000000 in
theorem comes_1 {Post : Tables → Env → Array Value → State → Outcome → State → Prop} (hpost : ∀ tb e args s v u, (limb_1_1.after args s (.returned v) u = true ∧ limb_1_2.after args s (.returned v) u = true ∧ True) → ReturnedEndW s (.returned v) u (Jvm.fieldLocs frame_1_writes args s ++ Jvm.arrayLocs frame_1_arrays args s ++ Jvm.staticLocs frame_1_statics s) 48 5312 → Post tb e args s (.returned v) u) :
    ArmFor flags0 classFile x code maxLocals ret World_1 tables_1 room_1 Calls_1 rest_1 Pre_1 Post := by
  intro l hfl _ _ p e ha hc hk s m args below hf hA hF happ hP
  obtain ⟨hcalls, hrest, hpre⟩ := hP
  obtain ⟨-, -, -, hnamed, -, -, -, hat⟩ := (Spec.applies_iff hf).mp happ
  obtain ⟨hg, hn⟩ := and_e (Cond.before_iff.mp (show (Jvm.Cond.and given_1 narrow_1).before args s = true from hpre))
  obtain ⟨g1, g2⟩ := and_e hg
  obtain ⟨g3, g4⟩ := and_e g2
  obtain ⟨g5, g6⟩ := and_e g4
  obtain ⟨w0, w1, w2, rfl⟩ : ∃ w0 w1 w2 : Value, args = #[w0, w1, w2] := by
    have hs : args.size = 3 := by simpa [Cond.value, given_1] using g1
    obtain ⟨L⟩ := args
    match L, hs with
    | [w0, w1, w2], _ => exact ⟨w0, w1, w2, rfl⟩
  have hw := fun d (hd : d ∈ tables_1) => atoms_spec (ws := Jvm.Cond.code x code maxLocals ret :: tables_1) hat d (List.mem_cons_of_mem _ hd)
  have hfit : Fit s := fun {y c} hc i hi => by
    obtain ⟨ha, rfl⟩ := Array.getElem?_eq_some_iff.mp hc
    have q := List.all_eq_true.mp ((Array.all_eq_true_iff_forall_mem.mp hF) _ (Array.getElem_mem ha)) i (List.mem_range.mpr hi)
    simpa [Array.getElem?_eq_getElem hi] using q
  obtain ⟨hsets, hown0⟩ := atoms_of _ (rest_1_c_eq ▸ (show rest_1_c.before _ s = true from hrest))
  have hr0 := Cond.before_iff.mp hown0
  obtain ⟨i0, ei0⟩ := is_v g3
  obtain rfl : w0 = (.int i0) := Option.some.inj ei0
  obtain ⟨i1, ei1⟩ := is_v g5
  obtain rfl : w1 = (.int i1) := Option.some.inj ei1
  obtain ⟨i2, ei2⟩ := is_v g6
  obtain rfl : w2 = (.int i2) := Option.some.inj ei2
  obtain ⟨k7, k8⟩ := and_e hn
  obtain ⟨cs, evS⟩ := is_v (Cond.before_iff.mp (hsets _ (List.mem_of_getElem? (i := 1) rfl)))
  have S_CS := Sta.start evS (Or.inl (hsets _ (List.mem_of_getElem? (i := 0) rfl)))
  have hcs : ¬ cs = 0 := fun q => by
    have z := not_v (Cond.before_iff.mp (hsets _ (List.mem_of_getElem? (i := 2) rfl)))
    rw [q] at evS
    rw [eq_i evS (Term.int_eval 0) rfl] at z
    exact absurd z (by decide)
  obtain ⟨u8, ev8, S_U8, -⟩ := Sta.of_exa (Cond.before_iff.mp (hsets _ (List.mem_of_getElem? (i := 14) rfl))) (Or.inl (hsets _ (List.mem_of_getElem? (i := 10) rfl)))
  obtain ⟨u9, ev9, S_UI, -⟩ := Sta.of_exa (Cond.before_iff.mp (hsets _ (List.mem_of_getElem? (i := 17) rfl))) (Or.inl (hsets _ (List.mem_of_getElem? (i := 12) rfl)))
  obtain rfl : u8 = u9 := eq_refs ev8 ev9 (Cond.before_iff.mp (hsets _ (List.mem_of_getElem? (i := 13) rfl)))
  obtain ⟨nb, gnb, S_NB, -, -, -, -⟩ := Ari.of_static (k := 0) hfit k7 k8 (by simp) (Or.inr ⟨(wd2 hw), (wd39 hw)⟩) rfl
  have hCH : CHv s consts_1 s.vm s.heap := CHv.start (hELw hw) (fun p hp => hcalls.1 p hp) (hsets _ (List.mem_of_getElem? (i := 2) rfl)) (wd51 hw) (wd50 hw)
  obtain ⟨n, o, h1, h2, h3, _, L, rfl, ⟨rfl, N⟩, hq⟩ := rm0 (Z := s) hw i0 i1 i2 s.heap s.heap.size (Nat.le_refl _) (Old.start s) cs S_CS hcs nb S_NB u8 S_U8 S_UI l tables_1 p e ha hc hk s m _ below hf ((Spec.applies_iff_loose hf).mp happ).1 ⟨rfl, State.Warmed39.refl s, rfl, hCH⟩ trivial
  refine ⟨n, _, h1, h2, h3, hpost _ _ _ _ _ _ ⟨Cond.after_iff.mpr rfl, Cond.after_iff.mpr (eq_i res_at (Term.int_eval (1)) rfl), trivial⟩ ⟨hq.1, hq.2.1, hq.2.2.1, (hq.2.2.2.sift fun y hy => Or.inr (N y hy)).mono (by decide) (by decide)⟩⟩
theorem main_1_1 : Claimed_1_1 := comes_1 fun _ _ _ _ _ _ h hF => ⟨h.1, hF⟩
theorem main_1_2 : Claimed_1_2 := comes_1 fun _ _ _ _ _ _ h hF => ⟨h.2.1, hF⟩
end Jvm.Pilot.@@N@@
namespace Jvm.Pilot.@@N@@
open Jvm Jvm.ClassFile Sem Op Lib Jvm.Free Jvm.Stand Jvm.Pilot.@@N@@.Jvm.D
/-! MADE BY PROGRAM (witnessworld.py) out of the Statement's table words and the real class files: 40 classes; the members and pool entries that the words name. The judged class is class 1, her method 1. -/
namespace start1
open Jvm.ClassFile
def u (s : String) : CpInfo := .utf8 (stringToUtf16 s)
/-- a pool by its gaps: so many unusable entries, then the entry; so many at the end -/
def gap : Nat → List CpInfo → List CpInfo
  | 0, r => r
  | n + 1, r => .unusable :: gap n r
def poolList (es : List (Nat × CpInfo)) (last : Nat) : List CpInfo := es.foldr (fun e r => gap e.1 (e.2 :: r)) (gap last [])
def pool (es : List (Nat × CpInfo)) (last : Nat) : Array CpInfo := ⟨poolList es last⟩
def fileOf (pool : Array CpInfo) (this : Nat) (attrs : Array Attribute := #[]) (ms : Array MethodInfo := #[]) (fl : Nat := 33) (sup : Nat := 0) (ifs : Array Nat := #[]) (fds : Array FieldInfo := #[]) : ClassFile where
  minorVersion := 0
  majorVersion := 65
  constantPool := pool
  accessFlags := fl
  thisClass := this
  superClass := sup
  interfaces := ifs
  fields := fds
  methods := ms
  attributes := attrs
def plain (name : String) (sup : Option ClassId) : Class where
  name := name
  kind := .ordinary
  loader := none
  accessFlags := 33
  super := sup
  interfaces := #[]
  cf := none
  fields := #[]
  methods := #[]
  instanceTypes := #[]
  staticTypes := #[]
  resolved := #[]
  callSites := []
  init := .initialized
  statics := none
  mirror := none

def pool0 : Array CpInfo := pool [(5, u "<init>"), (0, u "()V"), (1, .class_ 10), (1, u "java/lang/Object"), (85, u "clone"), (0, u "()Ljava/lang/Object;")] 26

def k0c0 : Code := { maxStack := 0, maxLocals := 1, code := object_method_1_code, exceptionTable := #[], attributes := #[] }
def k0m0 : Method := { name := "<init>", desc := "()V", sig := { parameters := [], returnType := none }, accessFlags := 1, code := some k0c0 }
def k0m1 : Method := { name := "clone", desc := "()Ljava/lang/Object;", sig := { parameters := [], returnType := some (.object "java/lang/Object") }, accessFlags := 260, code := none }
/-- java/lang/Object -/
def k0 : Class := { plain "java/lang/Object" none with
  accessFlags := 33
  interfaces := #[]
  cf := some (fileOf pool0 8 #[] #[{ accessFlags := 1, nameIndex := 5, descriptorIndex := 6, attributes := #[] }, { accessFlags := 260, nameIndex := 96, descriptorIndex := 97, attributes := #[] }] 33 0 #[] #[])
  fields := #[]
  methods := #[k0m0, k0m1]
  instanceTypes := #[]
  staticTypes := #[]
  resolved := Array.replicate 124 none
  statics := none }

def pool1 : Array CpInfo := pool [(2, .class_ 4), (0, .nameAndType 5 6), (0, u "java/lang/Object"), (0, u "<init>"), (0, u "()V"), (0, .class_ 8), (0, u "com/example/cordon/cordon/http/Answer"), (0, .methodref 7 3), (0, .methodref 7 11), (0, .nameAndType 12 13), (0, u "isGiven"), (0, u "()Z"), (0, .string 15), (0, u "X-A"), (0, .class_ 17), (0, u "java/lang/String"), (0, .methodref 16 19), (0, .nameAndType 5 20), (0, u "([C)V"), (0, .methodref 7 22), (0, .nameAndType 23 24), (0, u "set"), (0, u "(Ljava/lang/String;Ljava/lang/String;)V"), (0, .string 26), (0, u "Set-Cookie"), (0, .string 28), (0, u "a=b"), (0, .methodref 7 30), (0, .nameAndType 31 24), (0, u "add"), (0, .integer 2147483647), (0, .string 34), (0, u "text/plain"), (0, .methodref 7 36), (0, .nameAndType 37 38), (0, u "send"), (0, u "(ILjava/lang/String;Ljava/lang/String;)V"), (0, .class_ 40), (0, u "com/example/cordon/cordon/http/AnswerIsGivenPinLaw"), (2, u "law"), (0, u "(III)Z")] 5

def k1m0 : Method := { name := "<init>", desc := "()V", sig := { parameters := [], returnType := none }, accessFlags := 1, code := none }
def k1c1 : Code := { maxStack := 6, maxLocals := 10, code := code, exceptionTable := #[], attributes := #[] }
def k1m1 : Method := { name := "law", desc := "(III)Z", sig := { parameters := [.int, .int, .int], returnType := some .boolean }, accessFlags := 9, code := some k1c1 }
/-- com/example/cordon/cordon/http/AnswerIsGivenPinLaw -/
def k1 : Class := { plain "com/example/cordon/cordon/http/AnswerIsGivenPinLaw" (some 0) with
  accessFlags := 49
  interfaces := #[]
  cf := some (fileOf pool1 39 #[] #[{ accessFlags := 1, nameIndex := 5, descriptorIndex := 6, attributes := #[] }, { accessFlags := 9, nameIndex := 43, descriptorIndex := 44, attributes := #[] }] 49 2 #[] #[])
  fields := #[]
  methods := #[k1m0, k1m1]
  instanceTypes := #[]
  staticTypes := #[]
  resolved := Array.replicate 50 none
  statics := none }

def pool2 : Array CpInfo := pool [(1, .methodref 2 3), (0, .class_ 4), (0, .nameAndType 5 6), (0, u "java/lang/Object"), (0, u "<init>"), (0, u "()V"), (0, .fieldref 8 9), (0, .class_ 10), (0, .nameAndType 11 12), (0, u "com/example/cordon/cordon/http/Answer"), (0, u "status"), (0, u "I"), (0, .class_ 14), (0, u "java/util/ArrayList"), (0, .methodref 13 16), (0, .nameAndType 5 17), (0, u "(I)V"), (0, .fieldref 8 19), (0, .nameAndType 20 21), (0, u "fields"), (0, u "Ljava/util/List;"), (0, .fieldref 8 23), (0, .nameAndType 24 25), (0, u "NO_BODY"), (0, u "[B"), (0, .fieldref 8 27), (0, .nameAndType 28 25), (0, u "body"), (0, .invokeDynamic 0 30), (0, .nameAndType 31 32), (0, u "test"), (0, u "(Ljava/lang/String;)Ljava/util/function/Predicate;"), (0, .interfaceMethodref 34 35), (0, .class_ 36), (0, .nameAndType 37 38), (0, u "java/util/List"), (0, u "removeIf"), (0, u "(Ljava/util/function/Predicate;)Z"), (0, .class_ 40), (0, u "com/example/cordon/cordon/http/HttpHead$Field"), (0, .methodref 39 42), (0, .nameAndType 5 43), (0, u "(Ljava/lang/String;Ljava/lang/String;)V"), (0, .interfaceMethodref 34 45), (0, .nameAndType 46 47), (0, u "add"), (0, u "(Ljava/lang/Object;)Z"), (0, .methodref 8 49), (0, .nameAndType 50 17), (0, u "give"), (0, .string 52), (0, u "Content-Type"), (0, .methodref 8 54), (0, .nameAndType 55 43), (0, u "set"), (0, .fieldref 57 58), (0, .class_ 59), (0, .nameAndType 60 61), (0, u "java/nio/charset/StandardCharsets"), (0, u "UTF_8"), (0, u "Ljava/nio/charset/Charset;"), (0, .methodref 63 64), (0, .class_ 65), (0, .nameAndType 66 67), (0, u "java/lang/String"), (0, u "getBytes"), (0, u "(Ljava/nio/charset/Charset;)[B"), (11, u "()Ljava/lang/String;"), (22, u "send"), (0, u "(ILjava/lang/String;Ljava/lang/String;)V"), (26, u "REASONS"), (0, u "Ljava/util/Map;"), (26, u "()Z"), (4, .methodref 39 164), (0, .nameAndType 165 79), (0, u "name"), (36, u "latestDate"), (0, u "Lcom/example/cordon/cordon/http/Answer$DateField;"), (1, .class_ 207), (1, u "com/example/cordon/cordon/http/Answer$DateField"), (17, u "HTTP_DATE"), (0, u "Ljava/time/format/DateTimeFormatter;"), (6, .methodref 63 234), (0, .nameAndType 235 236), (0, u "equalsIgnoreCase"), (0, u "(Ljava/lang/String;)Z"), (83, u "isGiven"), (2, u "lambda$set$0"), (0, u "(Ljava/lang/String;Lcom/example/cordon/cordon/http/HttpHead$Field;)Z"), (5, .methodType 47), (0, .methodHandle 6 332), (0, .methodref 8 333), (0, .nameAndType 323 324), (0, .methodType 335), (0, u "(Lcom/example/cordon/cordon/http/HttpHead$Field;)Z"), (2, .methodHandle 6 339), (0, .methodref 340 341), (0, .class_ 342), (0, .nameAndType 343 344), (0, u "java/lang/invoke/LambdaMetafactory"), (0, u "metafactory"), (0, u "(Ljava/lang/invoke/MethodHandles$Lookup;Ljava/lang/String;Ljava/lang/invoke/MethodType;Ljava/lang/invoke/MethodType;Ljava/lang/invoke/MethodHandle;Ljava/lang/invoke/MethodType;)Ljava/lang/invoke/CallSite;")] 19

def k2c0 : Code := { maxStack := 4, maxLocals := 1, code := prog_14_method_1_code, exceptionTable := #[], attributes := #[] }
def k2m0 : Method := { name := "<init>", desc := "()V", sig := { parameters := [], returnType := none }, accessFlags := 1, code := some k2c0 }
def k2c1 : Code := { maxStack := 5, maxLocals := 3, code := prog_14_method_2_code, exceptionTable := #[], attributes := #[] }
def k2m1 : Method := { name := "set", desc := "(Ljava/lang/String;Ljava/lang/String;)V", sig := { parameters := [(.object "java/lang/String"), (.object "java/lang/String")], returnType := none }, accessFlags := 1, code := some k2c1 }
def k2c2 : Code := { maxStack := 5, maxLocals := 3, code := prog_14_method_3_code, exceptionTable := #[], attributes := #[] }
def k2m2 : Method := { name := "add", desc := "(Ljava/lang/String;Ljava/lang/String;)V", sig := { parameters := [(.object "java/lang/String"), (.object "java/lang/String")], returnType := none }, accessFlags := 1, code := some k2c2 }
def k2c3 : Code := { maxStack := 3, maxLocals := 4, code := prog_14_method_4_code, exceptionTable := #[], attributes := #[] }
def k2m3 : Method := { name := "send", desc := "(ILjava/lang/String;Ljava/lang/String;)V", sig := { parameters := [.int, (.object "java/lang/String"), (.object "java/lang/String")], returnType := none }, accessFlags := 1, code := some k2c3 }
def k2c4 : Code := { maxStack := 3, maxLocals := 2, code := prog_14_method_8_code, exceptionTable := #[], attributes := #[] }
def k2m4 : Method := { name := "give", desc := "(I)V", sig := { parameters := [.int], returnType := none }, accessFlags := 2, code := some k2c4 }
def k2c5 : Code := { maxStack := 1, maxLocals := 1, code := prog_14_method_9_code, exceptionTable := #[], attributes := #[] }
def k2m5 : Method := { name := "isGiven", desc := "()Z", sig := { parameters := [], returnType := some .boolean }, accessFlags := 1, code := some k2c5 }
def k2c6 : Code := { maxStack := 2, maxLocals := 2, code := prog_14_method_13_code, exceptionTable := #[], attributes := #[] }
def k2m6 : Method := { name := "lambda$set$0", desc := "(Ljava/lang/String;Lcom/example/cordon/cordon/http/HttpHead$Field;)Z", sig := { parameters := [(.object "java/lang/String"), (.object "com/example/cordon/cordon/http/HttpHead$Field")], returnType := some .boolean }, accessFlags := 4106, code := some k2c6 }
/-- com/example/cordon/cordon/http/Answer -/
def k2 : Class := { plain "com/example/cordon/cordon/http/Answer" (some 0) with
  accessFlags := 49
  interfaces := #[]
  cf := some (fileOf pool2 8 #[.nestMembers #[205], .bootstrapMethods #[⟨338, #[330, 331, 334]⟩, ⟨0, #[]⟩]] #[{ accessFlags := 1, nameIndex := 5, descriptorIndex := 6, attributes := #[] }, { accessFlags := 1, nameIndex := 55, descriptorIndex := 43, attributes := #[] }, { accessFlags := 1, nameIndex := 46, descriptorIndex := 43, attributes := #[] }, { accessFlags := 1, nameIndex := 102, descriptorIndex := 103, attributes := #[] }, { accessFlags := 2, nameIndex := 50, descriptorIndex := 17, attributes := #[] }, { accessFlags := 1, nameIndex := 320, descriptorIndex := 158, attributes := #[] }, { accessFlags := 4106, nameIndex := 323, descriptorIndex := 324, attributes := #[] }] 49 2 #[] #[{ accessFlags := 26, nameIndex := 130, descriptorIndex := 131, attributes := #[] }, { accessFlags := 26, nameIndex := 225, descriptorIndex := 226, attributes := #[] }, { accessFlags := 74, nameIndex := 202, descriptorIndex := 203, attributes := #[] }, { accessFlags := 26, nameIndex := 24, descriptorIndex := 25, attributes := #[] }, { accessFlags := 2, nameIndex := 11, descriptorIndex := 12, attributes := #[] }, { accessFlags := 18, nameIndex := 20, descriptorIndex := 21, attributes := #[] }, { accessFlags := 2, nameIndex := 28, descriptorIndex := 25, attributes := #[] }])
  fields := #[{ name := "REASONS", type := (.object "java/util/Map"), accessFlags := 26, slot := 0, constantValue := 0 }, { name := "HTTP_DATE", type := (.object "java/time/format/DateTimeFormatter"), accessFlags := 26, slot := 1, constantValue := 0 }, { name := "latestDate", type := (.object "com/example/cordon/cordon/http/Answer$DateField"), accessFlags := 74, slot := 2, constantValue := 0 }, { name := "NO_BODY", type := (.array .byte), accessFlags := 26, slot := 3, constantValue := 0 }, { name := "status", type := .int, accessFlags := 2, slot := 0, constantValue := 0 }, { name := "fields", type := (.object "java/util/List"), accessFlags := 18, slot := 1, constantValue := 0 }, { name := "body", type := (.array .byte), accessFlags := 2, slot := 2, constantValue := 0 }]
  methods := #[k2m0, k2m1, k2m2, k2m3, k2m4, k2m5, k2m6]
  instanceTypes := #[.int, (.object "java/util/List"), (.array .byte)]
  staticTypes := #[(.object "java/util/Map"), (.object "java/time/format/DateTimeFormatter"), (.object "com/example/cordon/cordon/http/Answer$DateField"), (.array .byte)]
  resolved := Array.replicate 364 none
  callSites := [(1, 5, .makes 39)]
  statics := some 0 }

def pool3 : Array CpInfo := pool [(8, .class_ 10), (1, u "java/lang/Iterable"), (24, .class_ 36), (0, u "java/lang/Object")] 25

/-- java/lang/Iterable -/
def k3 : Class := { plain "java/lang/Iterable" (some 0) with
  accessFlags := 1537
  interfaces := #[]
  cf := some (fileOf pool3 8 #[] #[] 1537 35 #[] #[])
  fields := #[]
  methods := #[]
  instanceTypes := #[]
  staticTypes := #[]
  resolved := Array.replicate 62 none
  statics := none }

def pool4 : Array CpInfo := pool [(10, .class_ 12), (1, u "java/util/Collection"), (47, .class_ 61), (0, u "java/lang/Object"), (0, .class_ 63), (0, u "java/lang/Iterable"), (28, u "removeIf"), (0, u "(Ljava/util/function/Predicate;)Z")] 21

def k4c0 : Code := { maxStack := 2, maxLocals := 4, code := ⟨#[0x2b, 0xb8, 0x00, 0x0f, 0x57, 0x03, 0x3d, 0x2a, 0xb9, 0x00, 0x15, 0x01, 0x00, 0x4e, 0x2d, 0xb9, 0x00, 0x19, 0x01, 0x00, 0x99, 0x00, 0x1d, 0x2b, 0x2d, 0xb9, 0x00, 0x1f, 0x01, 0x00, 0xb9, 0x00, 0x23, 0x02, 0x00, 0x99, 0xff, 0xeb, 0x2d, 0xb9, 0x00, 0x29, 0x01, 0x00, 0x04, 0x3d, 0xa7, 0xff, 0xe0, 0x1c, 0xac]⟩, exceptionTable := #[], attributes := #[] }
def k4m0 : Method := { name := "removeIf", desc := "(Ljava/util/function/Predicate;)Z", sig := { parameters := [(.object "java/util/function/Predicate")], returnType := some .boolean }, accessFlags := 1, code := some k4c0 }
/-- java/util/Collection -/
def k4 : Class := { plain "java/util/Collection" (some 0) with
  accessFlags := 1537
  interfaces := #[3]
  cf := some (fileOf pool4 10 #[] #[{ accessFlags := 1, nameIndex := 92, descriptorIndex := 93, attributes := #[] }] 1537 60 #[62] #[])
  fields := #[]
  methods := #[k4m0]
  instanceTypes := #[]
  staticTypes := #[]
  resolved := Array.replicate 115 none
  statics := none }

def pool5 : Array CpInfo := pool [(1, .methodref 2 3), (0, .class_ 4), (0, .nameAndType 5 6), (0, u "java/lang/Object"), (0, u "<init>"), (0, u "()V"), (1, .class_ 10), (1, u "java/util/AbstractCollection"), (66, .class_ 78), (0, u "java/util/Collection")] 81

def k5c0 : Code := { maxStack := 1, maxLocals := 1, code := jdk_22_method_1_code, exceptionTable := #[], attributes := #[] }
def k5m0 : Method := { name := "<init>", desc := "()V", sig := { parameters := [], returnType := none }, accessFlags := 4, code := some k5c0 }
/-- java/util/AbstractCollection -/
def k5 : Class := { plain "java/util/AbstractCollection" (some 0) with
  accessFlags := 1057
  interfaces := #[4]
  cf := some (fileOf pool5 8 #[] #[{ accessFlags := 4, nameIndex := 5, descriptorIndex := 6, attributes := #[] }] 1057 2 #[77] #[])
  fields := #[]
  methods := #[k5m0]
  instanceTypes := #[]
  staticTypes := #[]
  resolved := Array.replicate 160 none
  statics := none }

def pool6 : Array CpInfo := pool [(8, .class_ 10), (1, u "java/util/SequencedCollection"), (15, .class_ 27), (0, u "java/lang/Object"), (0, .class_ 29), (0, u "java/util/Collection")] 27

/-- java/util/SequencedCollection -/
def k6 : Class := { plain "java/util/SequencedCollection" (some 0) with
  accessFlags := 1537
  interfaces := #[4]
  cf := some (fileOf pool6 8 #[] #[] 1537 26 #[28] #[])
  fields := #[]
  methods := #[]
  instanceTypes := #[]
  staticTypes := #[]
  resolved := Array.replicate 57 none
  statics := none }

def pool7 : Array CpInfo := pool [(8, .class_ 10), (1, u "java/util/List"), (49, u "add"), (3, u "(Ljava/lang/Object;)Z"), (38, .class_ 104), (0, u "java/lang/Object"), (15, .class_ 121), (0, u "java/util/SequencedCollection")] 129

def k7m0 : Method := { name := "add", desc := "(Ljava/lang/Object;)Z", sig := { parameters := [(.object "java/lang/Object")], returnType := some .boolean }, accessFlags := 1025, code := none }
/-- java/util/List -/
def k7 : Class := { plain "java/util/List" (some 0) with
  accessFlags := 1537
  interfaces := #[6]
  cf := some (fileOf pool7 8 #[] #[{ accessFlags := 1025, nameIndex := 60, descriptorIndex := 64, attributes := #[] }] 1537 103 #[120] #[])
  fields := #[]
  methods := #[k7m0]
  instanceTypes := #[]
  staticTypes := #[]
  resolved := Array.replicate 251 none
  statics := none }

def pool8 : Array CpInfo := pool [(1, .methodref 2 3), (0, .class_ 4), (0, .nameAndType 5 6), (0, u "java/util/AbstractCollection"), (0, u "<init>"), (0, u "()V"), (0, .fieldref 8 9), (0, .class_ 10), (0, .nameAndType 11 12), (0, u "java/util/AbstractList"), (0, u "modCount"), (0, u "I"), (64, .class_ 78), (0, u "java/util/AbstractList$Itr"), (3, .class_ 83), (0, u "java/util/AbstractList$ListItr"), (9, .class_ 94), (0, u "java/util/AbstractList$RandomAccessSubList"), (3, .class_ 99), (0, u "java/util/AbstractList$SubList"), (33, .class_ 134), (0, u "java/util/List"), (73, .class_ 209), (0, u "java/util/AbstractList$SubList$1"), (0, .class_ 211), (0, u "java/util/AbstractList$RandomAccessSpliterator")] 6

def k8c0 : Code := { maxStack := 2, maxLocals := 1, code := jdk_39_method_1_code, exceptionTable := #[], attributes := #[] }
def k8m0 : Method := { name := "<init>", desc := "()V", sig := { parameters := [], returnType := none }, accessFlags := 4, code := some k8c0 }
/-- java/util/AbstractList -/
def k8 : Class := { plain "java/util/AbstractList" (some 5) with
  accessFlags := 1057
  interfaces := #[7]
  cf := some (fileOf pool8 8 #[.nestMembers #[93, 98, 208, 210, 82, 77]] #[{ accessFlags := 4, nameIndex := 5, descriptorIndex := 6, attributes := #[] }] 1057 2 #[133] #[{ accessFlags := 132, nameIndex := 11, descriptorIndex := 12, attributes := #[] }])
  fields := #[{ name := "modCount", type := .int, accessFlags := 132, slot := 0, constantValue := 0 }]
  methods := #[k8m0]
  instanceTypes := #[.int]
  staticTypes := #[]
  resolved := Array.replicate 218 none
  statics := none }

def pool9 : Array CpInfo := pool [(1, .class_ 2), (0, u "java/util/RandomAccess"), (0, .class_ 4), (0, u "java/lang/Object")] 2

/-- java/util/RandomAccess -/
def k9 : Class := { plain "java/util/RandomAccess" (some 0) with
  accessFlags := 1537
  interfaces := #[]
  cf := some (fileOf pool9 1 #[] #[] 1537 3 #[] #[])
  fields := #[]
  methods := #[]
  instanceTypes := #[]
  staticTypes := #[]
  resolved := Array.replicate 7 none
  statics := none }

def pool10 : Array CpInfo := pool [(1, .class_ 2), (0, u "java/lang/Cloneable"), (0, .class_ 4), (0, u "java/lang/Object")] 2

/-- java/lang/Cloneable -/
def k10 : Class := { plain "java/lang/Cloneable" (some 0) with
  accessFlags := 1537
  interfaces := #[]
  cf := some (fileOf pool10 1 #[] #[] 1537 3 #[] #[])
  fields := #[]
  methods := #[]
  instanceTypes := #[]
  staticTypes := #[]
  resolved := Array.replicate 7 none
  statics := none }

def pool11 : Array CpInfo := pool [(1, .class_ 2), (0, u "java/io/Serializable"), (0, .class_ 4), (0, u "java/lang/Object")] 2

/-- java/io/Serializable -/
def k11 : Class := { plain "java/io/Serializable" (some 0) with
  accessFlags := 1537
  interfaces := #[]
  cf := some (fileOf pool11 1 #[] #[] 1537 3 #[] #[])
  fields := #[]
  methods := #[]
  instanceTypes := #[]
  staticTypes := #[]
  resolved := Array.replicate 7 none
  statics := none }

def pool12 : Array CpInfo := pool [(1, .methodref 2 3), (0, .class_ 4), (0, .nameAndType 5 6), (0, u "java/util/AbstractList"), (0, u "<init>"), (0, u "()V"), (0, .class_ 8), (0, u "java/lang/Object"), (0, .fieldref 10 11), (0, .class_ 12), (0, .nameAndType 13 14), (0, u "java/util/ArrayList"), (0, u "elementData"), (0, u "[Ljava/lang/Object;"), (2, u "EMPTY_ELEMENTDATA"), (23, u "DEFAULTCAPACITY_EMPTY_ELEMENTDATA"), (6, .fieldref 10 49), (0, .nameAndType 50 51), (0, u "size"), (0, u "I"), (11, .fieldref 10 64), (0, .nameAndType 65 51), (0, u "modCount"), (30, u "(Ljava/lang/Object;)Z"), (22, .class_ 121), (1, u "java/util/Objects"), (9, .methodref 10 132), (0, .nameAndType 133 134), (0, u "add"), (0, u "(Ljava/lang/Object;[Ljava/lang/Object;I)V"), (3, u "(I)V"), (9, .class_ 149), (0, u "java/util/List"), (63, .methodref 119 214), (0, .nameAndType 215 216), (0, u "requireNonNull"), (0, u "(Ljava/lang/Object;)Ljava/lang/Object;"), (45, .class_ 263), (0, u "java/util/ArrayList$ListItr"), (3, .class_ 268), (0, u "java/util/ArrayList$Itr"), (7, .class_ 277), (0, u "java/util/ArrayList$SubList"), (3, .methodref 10 282), (0, .nameAndType 283 284), (0, u "elementAt"), (0, u "([Ljava/lang/Object;I)Ljava/lang/Object;"), (5, .class_ 291), (0, u "java/util/ArrayList$ArrayListSpliterator"), (3, .methodref 10 296), (0, .nameAndType 297 298), (0, u "removeIf"), (0, u "(Ljava/util/function/Predicate;II)Z"), (0, .interfaceMethodref 300 301), (0, .class_ 302), (0, .nameAndType 303 96), (0, u "java/util/function/Predicate"), (0, u "test"), (25, .class_ 330), (0, u "java/util/RandomAccess"), (0, .class_ 332), (0, u "java/lang/Cloneable"), (0, .class_ 334), (0, u "java/io/Serializable"), (0, u "serialVersionUID"), (0, u "J"), (3, u "DEFAULT_CAPACITY"), (133, u "(Ljava/util/function/Predicate;)Z"), (25, .class_ 501), (0, u "java/util/ArrayList$SubList$2"), (0, .class_ 503), (0, u "java/util/ArrayList$SubList$1")] 5

def k12c0 : Code := { maxStack := 4, maxLocals := 2, code := jdk_38_method_1_code, exceptionTable := #[], attributes := #[] }
def k12m0 : Method := { name := "<init>", desc := "(I)V", sig := { parameters := [.int], returnType := none }, accessFlags := 1, code := some k12c0 }
def k12m1 : Method := { name := "<init>", desc := "()V", sig := { parameters := [], returnType := none }, accessFlags := 1, code := none }
def k12c2 : Code := { maxStack := 2, maxLocals := 2, code := jdk_38_method_19_code, exceptionTable := #[], attributes := #[] }
def k12m2 : Method := { name := "elementAt", desc := "([Ljava/lang/Object;I)Ljava/lang/Object;", sig := { parameters := [(.array (.object "java/lang/Object")), .int], returnType := some (.object "java/lang/Object") }, accessFlags := 8, code := some k12c2 }
def k12c3 : Code := { maxStack := 3, maxLocals := 4, code := jdk_38_method_24_code, exceptionTable := #[], attributes := #[] }
def k12m3 : Method := { name := "add", desc := "(Ljava/lang/Object;[Ljava/lang/Object;I)V", sig := { parameters := [(.object "java/lang/Object"), (.array (.object "java/lang/Object")), .int], returnType := none }, accessFlags := 2, code := some k12c3 }
def k12c4 : Code := { maxStack := 4, maxLocals := 2, code := jdk_38_method_25_code, exceptionTable := #[], attributes := #[] }
def k12m4 : Method := { name := "add", desc := "(Ljava/lang/Object;)Z", sig := { parameters := [(.object "java/lang/Object")], returnType := some .boolean }, accessFlags := 1, code := some k12c4 }
def k12c5 : Code := { maxStack := 4, maxLocals := 2, code := jdk_38_method_62_code, exceptionTable := #[], attributes := #[] }
def k12m5 : Method := { name := "removeIf", desc := "(Ljava/util/function/Predicate;)Z", sig := { parameters := [(.object "java/util/function/Predicate")], returnType := some .boolean }, accessFlags := 1, code := some k12c5 }
def k12c6 : Code := { maxStack := 4, maxLocals := 9, code := jdk_38_method_63_code, exceptionTable := #[], attributes := #[] }
def k12m6 : Method := { name := "removeIf", desc := "(Ljava/util/function/Predicate;II)Z", sig := { parameters := [(.object "java/util/function/Predicate"), .int, .int], returnType := some .boolean }, accessFlags := 0, code := some k12c6 }
/-- java/util/ArrayList -/
def k12 : Class := { plain "java/util/ArrayList" (some 8) with
  accessFlags := 33
  interfaces := #[7, 9, 10, 11]
  cf := some (fileOf pool12 10 #[.nestMembers #[290, 276, 500, 502, 262, 267]] #[{ accessFlags := 1, nameIndex := 5, descriptorIndex := 138, attributes := #[] }, { accessFlags := 1, nameIndex := 5, descriptorIndex := 6, attributes := #[] }, { accessFlags := 8, nameIndex := 283, descriptorIndex := 284, attributes := #[] }, { accessFlags := 2, nameIndex := 133, descriptorIndex := 134, attributes := #[] }, { accessFlags := 1, nameIndex := 133, descriptorIndex := 96, attributes := #[] }, { accessFlags := 1, nameIndex := 297, descriptorIndex := 474, attributes := #[] }, { accessFlags := 0, nameIndex := 297, descriptorIndex := 298, attributes := #[] }] 33 2 #[148, 329, 331, 333] #[{ accessFlags := 26, nameIndex := 335, descriptorIndex := 336, attributes := #[] }, { accessFlags := 26, nameIndex := 340, descriptorIndex := 51, attributes := #[] }, { accessFlags := 26, nameIndex := 17, descriptorIndex := 14, attributes := #[] }, { accessFlags := 26, nameIndex := 41, descriptorIndex := 14, attributes := #[] }, { accessFlags := 128, nameIndex := 13, descriptorIndex := 14, attributes := #[] }, { accessFlags := 2, nameIndex := 50, descriptorIndex := 51, attributes := #[] }])
  fields := #[{ name := "serialVersionUID", type := .long, accessFlags := 26, slot := 0, constantValue := 0 }, { name := "DEFAULT_CAPACITY", type := .int, accessFlags := 26, slot := 1, constantValue := 0 }, { name := "EMPTY_ELEMENTDATA", type := (.array (.object "java/lang/Object")), accessFlags := 26, slot := 2, constantValue := 0 }, { name := "DEFAULTCAPACITY_EMPTY_ELEMENTDATA", type := (.array (.object "java/lang/Object")), accessFlags := 26, slot := 3, constantValue := 0 }, { name := "elementData", type := (.array (.object "java/lang/Object")), accessFlags := 128, slot := 1, constantValue := 0 }, { name := "size", type := .int, accessFlags := 2, slot := 2, constantValue := 0 }]
  methods := #[k12m0, k12m1, k12m2, k12m3, k12m4, k12m5, k12m6]
  instanceTypes := #[.int, (.array (.object "java/lang/Object")), .int]
  staticTypes := #[.long, .int, (.array (.object "java/lang/Object")), (.array (.object "java/lang/Object"))]
  resolved := Array.replicate 509 none
  statics := none }

def pool13 : Array CpInfo := pool [(1, .class_ 2), (0, u "java/lang/Comparable"), (0, .class_ 4), (0, u "java/lang/Object")] 7

/-- java/lang/Comparable -/
def k13 : Class := { plain "java/lang/Comparable" (some 0) with
  accessFlags := 1537
  interfaces := #[]
  cf := some (fileOf pool13 1 #[] #[] 1537 3 #[] #[])
  fields := #[]
  methods := #[]
  instanceTypes := #[]
  staticTypes := #[]
  resolved := Array.replicate 12 none
  statics := none }

def pool14 : Array CpInfo := pool [(2, .class_ 4), (1, u "java/lang/CharSequence"), (42, .class_ 48), (0, u "java/lang/CharSequence$1CodePointIterator"), (10, .class_ 60), (0, u "java/lang/CharSequence$1CharIterator"), (5, .class_ 67), (0, u "java/lang/Object")] 63

/-- java/lang/CharSequence -/
def k14 : Class := { plain "java/lang/CharSequence" (some 0) with
  accessFlags := 1537
  interfaces := #[]
  cf := some (fileOf pool14 2 #[.nestMembers #[47, 59]] #[] 1537 66 #[] #[])
  fields := #[]
  methods := #[]
  instanceTypes := #[]
  staticTypes := #[]
  resolved := Array.replicate 131 none
  statics := none }

def pool15 : Array CpInfo := pool [(1, .class_ 2), (0, u "java/lang/constant/Constable"), (0, .class_ 4), (0, u "java/lang/Object")] 6

/-- java/lang/constant/Constable -/
def k15 : Class := { plain "java/lang/constant/Constable" (some 0) with
  accessFlags := 1537
  interfaces := #[]
  cf := some (fileOf pool15 1 #[] #[] 1537 3 #[] #[])
  fields := #[]
  methods := #[]
  instanceTypes := #[]
  staticTypes := #[]
  resolved := Array.replicate 11 none
  statics := none }

def pool16 : Array CpInfo := pool [(1, .class_ 2), (0, u "java/lang/constant/ConstantDesc"), (0, .class_ 4), (0, u "java/lang/Object")] 32

/-- java/lang/constant/ConstantDesc -/
def k16 : Class := { plain "java/lang/constant/ConstantDesc" (some 0) with
  accessFlags := 1537
  interfaces := #[]
  cf := some (fileOf pool16 1 #[] #[] 1537 3 #[] #[])
  fields := #[]
  methods := #[]
  instanceTypes := #[]
  staticTypes := #[]
  resolved := Array.replicate 37 none
  statics := none }

def pool17 : Array CpInfo := pool [(1, .methodref 2 3), (0, .class_ 4), (0, .nameAndType 5 6), (0, u "java/lang/Object"), (0, u "<init>"), (0, u "()V"), (2, .fieldref 10 11), (0, .class_ 12), (0, .nameAndType 13 14), (0, u "java/lang/String"), (0, u "value"), (0, u "[B"), (0, .fieldref 10 16), (0, .nameAndType 17 18), (0, u "coder"), (0, u "B"), (2, u "hash"), (0, u "I"), (2, u "hashIsZero"), (0, u "Z"), (0, .methodref 10 28), (0, .nameAndType 5 29), (0, u "([CIILjava/lang/Void;)V"), (8, .fieldref 10 39), (0, .nameAndType 40 26), (0, u "COMPACT_STRINGS"), (1, .class_ 44), (1, u "java/lang/StringUTF16"), (0, u "compress"), (1, .methodref 42 48), (0, .nameAndType 49 50), (0, u "coderFromArrayLen"), (0, u "([BI)B"), (9, .methodref 42 61), (0, .nameAndType 62 63), (0, u "newBytesFor"), (0, u "(I)[B"), (22, .fieldref 87 88), (0, .class_ 89), (0, .nameAndType 90 91), (0, u "sun/nio/cs/UTF_8"), (0, u "INSTANCE"), (0, u "Lsun/nio/cs/UTF_8;"), (1, .class_ 95), (1, u "java/lang/StringCoding"), (32, .methodref 93 129), (0, .nameAndType 130 131), (0, u "hasNegatives"), (0, u "([BII)Z"), (45, .methodref 42 178), (0, .nameAndType 45 179), (0, u "([CII)[B"), (72, .methodref 10 253), (0, .nameAndType 254 255), (0, u "encodeUTF8"), (0, u "(B[BZ)[B"), (23, .methodref 280 281), (0, .class_ 14), (0, .nameAndType 282 283), (0, u "clone"), (0, u "()Ljava/lang/Object;"), (33, u "encode"), (16, u "()I"), (0, .methodref 10 336), (0, .nameAndType 17 337), (0, u "()B"), (167, .methodref 10 506), (0, .nameAndType 507 334), (0, u "length"), (24, u "getBytes"), (2, .methodref 10 536), (0, .nameAndType 317 537), (0, u "(Ljava/nio/charset/Charset;B[B)[B"), (37, .class_ 576), (0, u "java/lang/CharSequence"), (22, u "CASE_INSENSITIVE_ORDER"), (0, u "Ljava/util/Comparator;"), (409, u "([C)V"), (90, u "serialPersistentFields"), (0, u "[Ljava/io/ObjectStreamField;"), (0, .class_ 1104), (0, u "java/lang/String$CaseInsensitiveComparator"), (1, .class_ 1107), (0, u "java/io/Serializable"), (0, .class_ 1109), (0, u "java/lang/Comparable"), (0, .class_ 1111), (0, u "java/lang/constant/Constable"), (0, .class_ 1113), (0, u "java/lang/constant/ConstantDesc"), (2, u "serialVersionUID"), (0, u "J"), (3, u "REPL"), (0, u "C"), (2, u "LATIN1"), (1, u "UTF16"), (117, u "(Ljava/nio/charset/Charset;)[B"), (10, u "equalsIgnoreCase"), (0, u "(Ljava/lang/String;)Z")] 193

def k17m0 : Method := { name := "<init>", desc := "()V", sig := { parameters := [], returnType := none }, accessFlags := 1, code := none }
def k17c1 : Code := { maxStack := 5, maxLocals := 2, code := jdk_42_method_3_code, exceptionTable := #[], attributes := #[] }
def k17m1 : Method := { name := "<init>", desc := "([C)V", sig := { parameters := [(.array .char)], returnType := none }, accessFlags := 1, code := some k17c1 }
def k17c2 : Code := { maxStack := 4, maxLocals := 3, code := jdk_42_method_18_code, exceptionTable := #[], attributes := #[] }
def k17m2 : Method := { name := "encode", desc := "(Ljava/nio/charset/Charset;B[B)[B", sig := { parameters := [(.object "java/nio/charset/Charset"), .byte, (.array .byte)], returnType := some (.array .byte) }, accessFlags := 10, code := some k17c2 }
def k17c3 : Code := { maxStack := 5, maxLocals := 9, code := jdk_42_method_46_code, exceptionTable := #[], attributes := #[] }
def k17m3 : Method := { name := "encodeUTF8", desc := "(B[BZ)[B", sig := { parameters := [.byte, (.array .byte), .boolean], returnType := some (.array .byte) }, accessFlags := 10, code := some k17c3 }
def k17c4 : Code := { maxStack := 2, maxLocals := 1, code := jdk_42_method_54_code, exceptionTable := #[], attributes := #[] }
def k17m4 : Method := { name := "length", desc := "()I", sig := { parameters := [], returnType := some .int }, accessFlags := 1, code := some k17c4 }
def k17c5 : Code := { maxStack := 3, maxLocals := 2, code := jdk_42_method_64_code, exceptionTable := #[], attributes := #[] }
def k17m5 : Method := { name := "getBytes", desc := "(Ljava/nio/charset/Charset;)[B", sig := { parameters := [(.object "java/nio/charset/Charset")], returnType := some (.array .byte) }, accessFlags := 1, code := some k17c5 }
def k17c6 : Code := { maxStack := 6, maxLocals := 2, code := jdk_42_method_70_code, exceptionTable := #[], attributes := #[] }
def k17m6 : Method := { name := "equalsIgnoreCase", desc := "(Ljava/lang/String;)Z", sig := { parameters := [(.object "java/lang/String")], returnType := some .boolean }, accessFlags := 1, code := some k17c6 }
def k17c7 : Code := { maxStack := 4, maxLocals := 6, code := jdk_42_method_149_code, exceptionTable := #[], attributes := #[] }
def k17m7 : Method := { name := "<init>", desc := "([CIILjava/lang/Void;)V", sig := { parameters := [(.array .char), .int, .int, (.object "java/lang/Void")], returnType := none }, accessFlags := 2, code := some k17c7 }
def k17c8 : Code := { maxStack := 1, maxLocals := 1, code := jdk_42_method_152_code, exceptionTable := #[], attributes := #[] }
def k17m8 : Method := { name := "coder", desc := "()B", sig := { parameters := [], returnType := some .byte }, accessFlags := 0, code := some k17c8 }
/-- java/lang/String -/
def k17 : Class := { plain "java/lang/String" (some 0) with
  accessFlags := 49
  interfaces := #[11, 13, 14, 15, 16]
  cf := some (fileOf pool17 10 #[.nestMembers #[1103]] #[{ accessFlags := 1, nameIndex := 5, descriptorIndex := 6, attributes := #[] }, { accessFlags := 1, nameIndex := 5, descriptorIndex := 1010, attributes := #[] }, { accessFlags := 10, nameIndex := 317, descriptorIndex := 537, attributes := #[] }, { accessFlags := 10, nameIndex := 254, descriptorIndex := 255, attributes := #[] }, { accessFlags := 1, nameIndex := 507, descriptorIndex := 334, attributes := #[] }, { accessFlags := 1, nameIndex := 532, descriptorIndex := 1245, attributes := #[] }, { accessFlags := 1, nameIndex := 1256, descriptorIndex := 1257, attributes := #[] }, { accessFlags := 2, nameIndex := 5, descriptorIndex := 29, attributes := #[] }, { accessFlags := 0, nameIndex := 17, descriptorIndex := 337, attributes := #[] }] 49 2 #[1106, 1108, 575, 1110, 1112] #[{ accessFlags := 18, nameIndex := 13, descriptorIndex := 14, attributes := #[] }, { accessFlags := 18, nameIndex := 17, descriptorIndex := 18, attributes := #[] }, { accessFlags := 2, nameIndex := 21, descriptorIndex := 22, attributes := #[] }, { accessFlags := 2, nameIndex := 25, descriptorIndex := 26, attributes := #[] }, { accessFlags := 26, nameIndex := 1116, descriptorIndex := 1117, attributes := #[] }, { accessFlags := 24, nameIndex := 40, descriptorIndex := 26, attributes := #[] }, { accessFlags := 26, nameIndex := 1101, descriptorIndex := 1102, attributes := #[] }, { accessFlags := 26, nameIndex := 1121, descriptorIndex := 1122, attributes := #[] }, { accessFlags := 25, nameIndex := 599, descriptorIndex := 600, attributes := #[] }, { accessFlags := 24, nameIndex := 1125, descriptorIndex := 18, attributes := #[] }, { accessFlags := 24, nameIndex := 1127, descriptorIndex := 18, attributes := #[] }])
  fields := #[{ name := "value", type := (.array .byte), accessFlags := 18, slot := 0, constantValue := 0 }, { name := "coder", type := .byte, accessFlags := 18, slot := 1, constantValue := 0 }, { name := "hash", type := .int, accessFlags := 2, slot := 2, constantValue := 0 }, { name := "hashIsZero", type := .boolean, accessFlags := 2, slot := 3, constantValue := 0 }, { name := "serialVersionUID", type := .long, accessFlags := 26, slot := 0, constantValue := 0 }, { name := "COMPACT_STRINGS", type := .boolean, accessFlags := 24, slot := 1, constantValue := 0 }, { name := "serialPersistentFields", type := (.array (.object "java/io/ObjectStreamField")), accessFlags := 26, slot := 2, constantValue := 0 }, { name := "REPL", type := .char, accessFlags := 26, slot := 3, constantValue := 0 }, { name := "CASE_INSENSITIVE_ORDER", type := (.object "java/util/Comparator"), accessFlags := 25, slot := 4, constantValue := 0 }, { name := "LATIN1", type := .byte, accessFlags := 24, slot := 5, constantValue := 0 }, { name := "UTF16", type := .byte, accessFlags := 24, slot := 6, constantValue := 0 }]
  methods := #[k17m0, k17m1, k17m2, k17m3, k17m4, k17m5, k17m6, k17m7, k17m8]
  instanceTypes := #[(.array .byte), .byte, .int, .boolean]
  staticTypes := #[.long, .boolean, (.array (.object "java/io/ObjectStreamField")), .char, (.object "java/util/Comparator"), .byte, .byte]
  resolved := Array.replicate 1451 none
  statics := some 1 }

def pool18 : Array CpInfo := pool [(1, .methodref 2 3), (0, .class_ 4), (0, .nameAndType 5 6), (0, u "java/lang/Object"), (0, u "<init>"), (0, u "()V"), (0, .class_ 8), (0, u "java/lang/Record")] 13

def k18c0 : Code := { maxStack := 1, maxLocals := 1, code := jdk_30_method_1_code, exceptionTable := #[], attributes := #[] }
def k18m0 : Method := { name := "<init>", desc := "()V", sig := { parameters := [], returnType := none }, accessFlags := 4, code := some k18c0 }
/-- java/lang/Record -/
def k18 : Class := { plain "java/lang/Record" (some 0) with
  accessFlags := 1057
  interfaces := #[]
  cf := some (fileOf pool18 7 #[] #[{ accessFlags := 4, nameIndex := 5, descriptorIndex := 6, attributes := #[] }] 1057 2 #[] #[])
  fields := #[]
  methods := #[k18m0]
  instanceTypes := #[]
  staticTypes := #[]
  resolved := Array.replicate 22 none
  statics := none }

def pool19 : Array CpInfo := pool [(1, .methodref 2 3), (0, .class_ 4), (0, .nameAndType 5 6), (0, u "java/lang/Record"), (0, u "<init>"), (0, u "()V"), (0, .fieldref 8 9), (0, .class_ 10), (0, .nameAndType 11 12), (0, u "com/example/cordon/cordon/http/HttpHead$Field"), (0, u "name"), (0, u "Ljava/lang/String;"), (0, .fieldref 8 14), (0, .nameAndType 15 12), (0, u "value"), (12, u "(Ljava/lang/String;Ljava/lang/String;)V"), (3, u "()Ljava/lang/String;"), (5, .class_ 39), (0, u "com/example/cordon/cordon/http/HttpHead")] 20

def k19c0 : Code := { maxStack := 2, maxLocals := 3, code := prog_26_method_1_code, exceptionTable := #[], attributes := #[] }
def k19m0 : Method := { name := "<init>", desc := "(Ljava/lang/String;Ljava/lang/String;)V", sig := { parameters := [(.object "java/lang/String"), (.object "java/lang/String")], returnType := none }, accessFlags := 0, code := some k19c0 }
def k19c1 : Code := { maxStack := 1, maxLocals := 1, code := prog_26_method_5_code, exceptionTable := #[], attributes := #[] }
def k19m1 : Method := { name := "name", desc := "()Ljava/lang/String;", sig := { parameters := [], returnType := some (.object "java/lang/String") }, accessFlags := 1, code := some k19c1 }
/-- com/example/cordon/cordon/http/HttpHead$Field -/
def k19 : Class := { plain "com/example/cordon/cordon/http/HttpHead$Field" (some 18) with
  accessFlags := 48
  interfaces := #[]
  cf := some (fileOf pool19 8 #[.nestHost 38] #[{ accessFlags := 0, nameIndex := 5, descriptorIndex := 28, attributes := #[] }, { accessFlags := 1, nameIndex := 11, descriptorIndex := 32, attributes := #[] }] 48 2 #[] #[{ accessFlags := 18, nameIndex := 11, descriptorIndex := 12, attributes := #[] }, { accessFlags := 18, nameIndex := 15, descriptorIndex := 12, attributes := #[] }])
  fields := #[{ name := "name", type := (.object "java/lang/String"), accessFlags := 18, slot := 0, constantValue := 0 }, { name := "value", type := (.object "java/lang/String"), accessFlags := 18, slot := 1, constantValue := 0 }]
  methods := #[k19m0, k19m1]
  instanceTypes := #[(.object "java/lang/String"), (.object "java/lang/String")]
  staticTypes := #[]
  resolved := Array.replicate 60 none
  statics := none }

def pool20 : Array CpInfo := pool [(6, .class_ 8), (1, u "java/lang/Object"), (0, u "<init>"), (0, u "()V"), (0, .methodref 12 13), (0, .class_ 14), (0, .nameAndType 15 16), (0, u "java/lang/StringUTF16"), (0, u "newBytesLength"), (0, u "(I)I"), (3, .integer 1073741823), (25, u "$assertionsDisabled"), (0, u "Z"), (13, u "HI_BYTE_SHIFT"), (0, u "I"), (2, u "LO_BYTE_SHIFT"), (43, u "newBytesFor"), (0, u "(I)[B"), (4, .methodref 12 116), (0, .nameAndType 117 118), (0, u "compress"), (0, u "([CI[BII)I"), (3, u "([CII)[B"), (138, u "coderFromArrayLen"), (0, u "([BI)B"), (106, .class_ 371), (1, u "java/lang/StringUTF16$LinesSpliterator"), (58, u "MAX_LENGTH"), (196, .class_ 628), (0, u "java/lang/StringUTF16$CodePointsSpliterator"), (0, .class_ 630), (0, u "java/lang/StringUTF16$CharsSpliterator")] 4

def k20m0 : Method := { name := "<init>", desc := "()V", sig := { parameters := [], returnType := none }, accessFlags := 0, code := none }
def k20c1 : Code := { maxStack := 1, maxLocals := 1, code := jdk_52_method_2_code, exceptionTable := #[], attributes := #[] }
def k20m1 : Method := { name := "newBytesFor", desc := "(I)[B", sig := { parameters := [.int], returnType := some (.array .byte) }, accessFlags := 9, code := some k20c1 }
def k20c2 : Code := { maxStack := 4, maxLocals := 1, code := jdk_52_method_3_code, exceptionTable := #[], attributes := #[] }
def k20m2 : Method := { name := "newBytesLength", desc := "(I)I", sig := { parameters := [.int], returnType := some .int }, accessFlags := 9, code := some k20c2 }
def k20c3 : Code := { maxStack := 2, maxLocals := 2, code := jdk_52_method_15_code, exceptionTable := #[], attributes := #[] }
def k20m3 : Method := { name := "coderFromArrayLen", desc := "([BI)B", sig := { parameters := [(.array .byte), .int], returnType := some .byte }, accessFlags := 8, code := some k20c3 }
def k20c4 : Code := { maxStack := 5, maxLocals := 6, code := jdk_52_method_16_code, exceptionTable := #[], attributes := #[] }
def k20m4 : Method := { name := "compress", desc := "([CII)[B", sig := { parameters := [(.array .char), .int, .int], returnType := some (.array .byte) }, accessFlags := 9, code := some k20c4 }
def k20c5 : Code := { maxStack := 3, maxLocals := 7, code := jdk_52_method_21_code, exceptionTable := #[], attributes := #[] }
def k20m5 : Method := { name := "compress", desc := "([CI[BII)I", sig := { parameters := [(.array .char), .int, (.array .byte), .int, .int], returnType := some .int }, accessFlags := 9, code := some k20c5 }
/-- java/lang/StringUTF16 -/
def k20 : Class := { plain "java/lang/StringUTF16" (some 0) with
  accessFlags := 48
  interfaces := #[]
  cf := some (fileOf pool20 12 #[.nestMembers #[627, 629, 369]] #[{ accessFlags := 0, nameIndex := 9, descriptorIndex := 10, attributes := #[] }, { accessFlags := 9, nameIndex := 109, descriptorIndex := 110, attributes := #[] }, { accessFlags := 9, nameIndex := 15, descriptorIndex := 16, attributes := #[] }, { accessFlags := 8, nameIndex := 261, descriptorIndex := 262, attributes := #[] }, { accessFlags := 9, nameIndex := 117, descriptorIndex := 122, attributes := #[] }, { accessFlags := 9, nameIndex := 117, descriptorIndex := 118, attributes := #[] }] 48 6 #[] #[{ accessFlags := 26, nameIndex := 61, descriptorIndex := 62, attributes := #[] }, { accessFlags := 26, nameIndex := 65, descriptorIndex := 62, attributes := #[] }, { accessFlags := 24, nameIndex := 430, descriptorIndex := 62, attributes := #[] }, { accessFlags := 4120, nameIndex := 46, descriptorIndex := 47, attributes := #[] }])
  fields := #[{ name := "HI_BYTE_SHIFT", type := .int, accessFlags := 26, slot := 0, constantValue := 0 }, { name := "LO_BYTE_SHIFT", type := .int, accessFlags := 26, slot := 1, constantValue := 0 }, { name := "MAX_LENGTH", type := .int, accessFlags := 24, slot := 2, constantValue := 0 }, { name := "$assertionsDisabled", type := .boolean, accessFlags := 4120, slot := 3, constantValue := 0 }]
  methods := #[k20m0, k20m1, k20m2, k20m3, k20m4, k20m5]
  instanceTypes := #[]
  staticTypes := #[.int, .int, .int, .boolean]
  resolved := Array.replicate 635 none
  statics := none }

def pool21 : Array CpInfo := pool [(9, u "test"), (12, .class_ 24), (1, u "java/util/function/Predicate"), (2, .class_ 29), (1, u "java/lang/Object"), (1, u "(Ljava/lang/Object;)Z")] 69

def k21m0 : Method := { name := "test", desc := "(Ljava/lang/Object;)Z", sig := { parameters := [(.object "java/lang/Object")], returnType := some .boolean }, accessFlags := 1025, code := none }
/-- java/util/function/Predicate -/
def k21 : Class := { plain "java/util/function/Predicate" (some 0) with
  accessFlags := 1537
  interfaces := #[]
  cf := some (fileOf pool21 22 #[] #[{ accessFlags := 1025, nameIndex := 9, descriptorIndex := 31, attributes := #[] }] 1537 27 #[] #[])
  fields := #[]
  methods := #[k21m0]
  instanceTypes := #[]
  staticTypes := #[]
  resolved := Array.replicate 101 none
  statics := none }

def pool22 : Array CpInfo := pool [(2, .class_ 4), (1, u "java/lang/Object"), (0, u "<init>"), (0, u "()V"), (35, .class_ 44), (1, u "java/util/Objects"), (0, u "requireNonNull"), (0, u "(Ljava/lang/Object;)Ljava/lang/Object;")] 137

def k22m0 : Method := { name := "<init>", desc := "()V", sig := { parameters := [], returnType := none }, accessFlags := 2, code := none }
def k22c1 : Code := { maxStack := 2, maxLocals := 1, code := jdk_31_method_10_code, exceptionTable := #[], attributes := #[] }
def k22m1 : Method := { name := "requireNonNull", desc := "(Ljava/lang/Object;)Ljava/lang/Object;", sig := { parameters := [(.object "java/lang/Object")], returnType := some (.object "java/lang/Object") }, accessFlags := 9, code := some k22c1 }
/-- java/util/Objects -/
def k22 : Class := { plain "java/util/Objects" (some 0) with
  accessFlags := 49
  interfaces := #[]
  cf := some (fileOf pool22 42 #[] #[{ accessFlags := 2, nameIndex := 5, descriptorIndex := 6, attributes := #[] }, { accessFlags := 9, nameIndex := 45, descriptorIndex := 46, attributes := #[] }] 49 2 #[] #[])
  fields := #[]
  methods := #[k22m0, k22m1]
  instanceTypes := #[]
  staticTypes := #[]
  resolved := Array.replicate 184 none
  statics := none }

def pool23 : Array CpInfo := pool [(2, .class_ 4), (1, u "java/lang/Object"), (0, u "<init>"), (0, u "()V"), (14, .class_ 23), (1, u "java/nio/charset/StandardCharsets"), (0, u "US_ASCII"), (0, u "Ljava/nio/charset/Charset;"), (7, u "ISO_8859_1"), (7, u "UTF_8"), (5, u "UTF_16BE"), (5, u "UTF_16LE"), (5, u "UTF_16")] 8

def k23m0 : Method := { name := "<init>", desc := "()V", sig := { parameters := [], returnType := none }, accessFlags := 2, code := none }
/-- java/nio/charset/StandardCharsets -/
def k23 : Class := { plain "java/nio/charset/StandardCharsets" (some 0) with
  accessFlags := 49
  interfaces := #[]
  cf := some (fileOf pool23 21 #[] #[{ accessFlags := 2, nameIndex := 5, descriptorIndex := 6, attributes := #[] }] 49 2 #[] #[{ accessFlags := 25, nameIndex := 24, descriptorIndex := 25, attributes := #[] }, { accessFlags := 25, nameIndex := 33, descriptorIndex := 25, attributes := #[] }, { accessFlags := 25, nameIndex := 41, descriptorIndex := 25, attributes := #[] }, { accessFlags := 25, nameIndex := 47, descriptorIndex := 25, attributes := #[] }, { accessFlags := 25, nameIndex := 53, descriptorIndex := 25, attributes := #[] }, { accessFlags := 25, nameIndex := 59, descriptorIndex := 25, attributes := #[] }])
  fields := #[{ name := "US_ASCII", type := (.object "java/nio/charset/Charset"), accessFlags := 25, slot := 0, constantValue := 0 }, { name := "ISO_8859_1", type := (.object "java/nio/charset/Charset"), accessFlags := 25, slot := 1, constantValue := 0 }, { name := "UTF_8", type := (.object "java/nio/charset/Charset"), accessFlags := 25, slot := 2, constantValue := 0 }, { name := "UTF_16BE", type := (.object "java/nio/charset/Charset"), accessFlags := 25, slot := 3, constantValue := 0 }, { name := "UTF_16LE", type := (.object "java/nio/charset/Charset"), accessFlags := 25, slot := 4, constantValue := 0 }, { name := "UTF_16", type := (.object "java/nio/charset/Charset"), accessFlags := 25, slot := 5, constantValue := 0 }]
  methods := #[k23m0]
  instanceTypes := #[]
  staticTypes := #[(.object "java/nio/charset/Charset"), (.object "java/nio/charset/Charset"), (.object "java/nio/charset/Charset"), (.object "java/nio/charset/Charset"), (.object "java/nio/charset/Charset"), (.object "java/nio/charset/Charset")]
  resolved := Array.replicate 68 none
  statics := some 2 }

def pool24 : Array CpInfo := pool [(18, .class_ 20), (1, u "java/nio/charset/Charset"), (0, u "cache1"), (0, u "[Ljava/lang/Object;"), (2, u "cache2"), (0, .class_ 27), (0, u "java/lang/Object"), (0, .class_ 29), (0, u "java/nio/charset/Charset$1"), (4, .class_ 36), (1, u "java/nio/charset/Charset$ThreadTrackHolder"), (21, .class_ 59), (0, u "java/nio/charset/Charset$2"), (11, .class_ 73), (1, u "java/nio/charset/Charset$ExtendedProviderHolder"), (22, u "standardProvider"), (0, u "Ljava/nio/charset/spi/CharsetProvider;"), (29, u "name"), (7, .class_ 136), (0, u "java/nio/charset/Charset$3"), (5, u "defaultCharset"), (0, u "Ljava/nio/charset/Charset;"), (14, u "zeroAliases"), (0, u "[Ljava/lang/String;"), (29, u "Ljava/lang/String;"), (2, u "aliases"), (2, u "aliasSet"), (0, u "Ljava/util/Set;"), (82, .class_ 280), (0, u "java/lang/Comparable"), (84, .class_ 366), (0, u "java/nio/charset/Charset$ExtendedProviderHolder$1")] 3

/-- java/nio/charset/Charset -/
def k24 : Class := { plain "java/nio/charset/Charset" (some 0) with
  accessFlags := 1057
  interfaces := #[13]
  cf := some (fileOf pool24 18 #[.nestMembers #[71, 365, 34, 135, 58, 28]] #[] 1057 26 #[279] #[{ accessFlags := 26, nameIndex := 96, descriptorIndex := 97, attributes := #[] }, { accessFlags := 26, nameIndex := 158, descriptorIndex := 159, attributes := #[] }, { accessFlags := 74, nameIndex := 21, descriptorIndex := 22, attributes := #[] }, { accessFlags := 74, nameIndex := 25, descriptorIndex := 22, attributes := #[] }, { accessFlags := 10, nameIndex := 142, descriptorIndex := 143, attributes := #[] }, { accessFlags := 18, nameIndex := 127, descriptorIndex := 189, attributes := #[] }, { accessFlags := 18, nameIndex := 192, descriptorIndex := 159, attributes := #[] }, { accessFlags := 2, nameIndex := 195, descriptorIndex := 196, attributes := #[] }])
  fields := #[{ name := "standardProvider", type := (.object "java/nio/charset/spi/CharsetProvider"), accessFlags := 26, slot := 0, constantValue := 0 }, { name := "zeroAliases", type := (.array (.object "java/lang/String")), accessFlags := 26, slot := 1, constantValue := 0 }, { name := "cache1", type := (.array (.object "java/lang/Object")), accessFlags := 74, slot := 2, constantValue := 0 }, { name := "cache2", type := (.array (.object "java/lang/Object")), accessFlags := 74, slot := 3, constantValue := 0 }, { name := "defaultCharset", type := (.object "java/nio/charset/Charset"), accessFlags := 10, slot := 4, constantValue := 0 }, { name := "name", type := (.object "java/lang/String"), accessFlags := 18, slot := 0, constantValue := 0 }, { name := "aliases", type := (.array (.object "java/lang/String")), accessFlags := 18, slot := 1, constantValue := 0 }, { name := "aliasSet", type := (.object "java/util/Set"), accessFlags := 2, slot := 2, constantValue := 0 }]
  methods := #[]
  instanceTypes := #[(.object "java/lang/String"), (.array (.object "java/lang/String")), (.object "java/util/Set")]
  staticTypes := #[(.object "java/nio/charset/spi/CharsetProvider"), (.array (.object "java/lang/String")), (.array (.object "java/lang/Object")), (.array (.object "java/lang/Object")), (.object "java/nio/charset/Charset")]
  resolved := Array.replicate 370 none
  statics := none }

def pool25 : Array CpInfo := pool [(1, .class_ 2), (0, u "sun/nio/cs/HistoricallyNamedCharset"), (0, .class_ 4), (0, u "java/lang/Object")] 4

/-- sun/nio/cs/HistoricallyNamedCharset -/
def k25 : Class := { plain "sun/nio/cs/HistoricallyNamedCharset" (some 0) with
  accessFlags := 1537
  interfaces := #[]
  cf := some (fileOf pool25 1 #[] #[] 1537 3 #[] #[])
  fields := #[]
  methods := #[]
  instanceTypes := #[]
  staticTypes := #[]
  resolved := Array.replicate 9 none
  statics := none }

def pool26 : Array CpInfo := pool [(2, .class_ 4), (1, u "java/nio/charset/Charset"), (130, .class_ 136), (0, u "sun/nio/cs/Unicode"), (0, .class_ 138), (0, u "sun/nio/cs/HistoricallyNamedCharset")] 15

/-- sun/nio/cs/Unicode -/
def k26 : Class := { plain "sun/nio/cs/Unicode" (some 24) with
  accessFlags := 1056
  interfaces := #[25]
  cf := some (fileOf pool26 135 #[] #[] 1056 2 #[137] #[])
  fields := #[]
  methods := #[]
  instanceTypes := #[(.object "java/lang/String"), (.array (.object "java/lang/String")), (.object "java/util/Set")]
  staticTypes := #[]
  resolved := Array.replicate 154 none
  statics := none }

def pool27 : Array CpInfo := pool [(10, .class_ 12), (1, u "sun/nio/cs/Unicode"), (0, u "<init>"), (3, .class_ 18), (0, u "sun/nio/cs/UTF_8$Decoder"), (3, .class_ 23), (0, u "sun/nio/cs/UTF_8$Encoder"), (15, .class_ 40), (0, u "sun/nio/cs/UTF_8"), (2, u "()V"), (2, u "INSTANCE"), (0, u "Lsun/nio/cs/UTF_8;"), (8, u "JLA"), (0, u "Ljdk/internal/access/JavaLangAccess;")] 26

def k27m0 : Method := { name := "<init>", desc := "()V", sig := { parameters := [], returnType := none }, accessFlags := 1, code := none }
/-- sun/nio/cs/UTF_8 -/
def k27 : Class := { plain "sun/nio/cs/UTF_8" (some 26) with
  accessFlags := 49
  interfaces := #[]
  cf := some (fileOf pool27 39 #[.nestMembers #[22, 17]] #[{ accessFlags := 1, nameIndex := 13, descriptorIndex := 43, attributes := #[] }] 49 10 #[] #[{ accessFlags := 25, nameIndex := 46, descriptorIndex := 47, attributes := #[] }, { accessFlags := 26, nameIndex := 56, descriptorIndex := 57, attributes := #[] }])
  fields := #[{ name := "INSTANCE", type := (.object "sun/nio/cs/UTF_8"), accessFlags := 25, slot := 0, constantValue := 0 }, { name := "JLA", type := (.object "jdk/internal/access/JavaLangAccess"), accessFlags := 26, slot := 1, constantValue := 0 }]
  methods := #[k27m0]
  instanceTypes := #[(.object "java/lang/String"), (.array (.object "java/lang/String")), (.object "java/util/Set")]
  staticTypes := #[(.object "sun/nio/cs/UTF_8"), (.object "jdk/internal/access/JavaLangAccess")]
  resolved := Array.replicate 84 none
  statics := some 3 }

def pool28 : Array CpInfo := pool [(2, .class_ 4), (1, u "java/lang/Object"), (0, u "<init>"), (0, u "()V"), (0, .methodref 8 9), (0, .class_ 10), (0, .nameAndType 11 12), (0, u "java/lang/StringCoding"), (0, u "countPositives"), (0, u "([BII)I"), (11, u "hasNegatives"), (0, u "([BII)Z")] 23

def k28m0 : Method := { name := "<init>", desc := "()V", sig := { parameters := [], returnType := none }, accessFlags := 2, code := none }
def k28c1 : Code := { maxStack := 3, maxLocals := 3, code := jdk_123_method_2_code, exceptionTable := #[], attributes := #[] }
def k28m1 : Method := { name := "hasNegatives", desc := "([BII)Z", sig := { parameters := [(.array .byte), .int, .int], returnType := some .boolean }, accessFlags := 9, code := some k28c1 }
def k28c2 : Code := { maxStack := 2, maxLocals := 5, code := jdk_123_method_3_code, exceptionTable := #[], attributes := #[] }
def k28m2 : Method := { name := "countPositives", desc := "([BII)I", sig := { parameters := [(.array .byte), .int, .int], returnType := some .int }, accessFlags := 9, code := some k28c2 }
/-- java/lang/StringCoding -/
def k28 : Class := { plain "java/lang/StringCoding" (some 0) with
  accessFlags := 32
  interfaces := #[]
  cf := some (fileOf pool28 8 #[] #[{ accessFlags := 2, nameIndex := 5, descriptorIndex := 6, attributes := #[] }, { accessFlags := 9, nameIndex := 24, descriptorIndex := 25, attributes := #[] }, { accessFlags := 9, nameIndex := 11, descriptorIndex := 12, attributes := #[] }] 32 2 #[] #[])
  fields := #[]
  methods := #[k28m0, k28m1, k28m2]
  instanceTypes := #[]
  staticTypes := #[]
  resolved := Array.replicate 49 none
  statics := none }

def pool29 : Array CpInfo := pool [(4, .class_ 6), (1, u "java/lang/Object"), (0, u "<init>"), (0, u "()V"), (5, .class_ 16), (1, u "java/lang/StringLatin1"), (104, u "$assertionsDisabled"), (0, u "Z"), (98, .class_ 223), (1, u "java/lang/StringLatin1$LinesSpliterator"), (166, .class_ 391), (0, u "java/lang/StringLatin1$CharsSpliterator")] 3

def k29m0 : Method := { name := "<init>", desc := "()V", sig := { parameters := [], returnType := none }, accessFlags := 0, code := none }
/-- java/lang/StringLatin1 -/
def k29 : Class := { plain "java/lang/StringLatin1" (some 0) with
  accessFlags := 48
  interfaces := #[]
  cf := some (fileOf pool29 14 #[.nestMembers #[390, 221]] #[{ accessFlags := 0, nameIndex := 7, descriptorIndex := 8, attributes := #[] }] 48 4 #[] #[{ accessFlags := 4120, nameIndex := 121, descriptorIndex := 122, attributes := #[] }])
  fields := #[{ name := "$assertionsDisabled", type := .boolean, accessFlags := 4120, slot := 0, constantValue := 0 }]
  methods := #[k29m0]
  instanceTypes := #[]
  staticTypes := #[.boolean]
  resolved := Array.replicate 395 none
  statics := none }

def pool30 : Array CpInfo := pool [(2, .class_ 4), (1, u "java/lang/Object"), (0, u "<init>"), (0, u "()V"), (17, .class_ 26), (1, u "jdk/internal/util/Preconditions"), (28, .class_ 56), (0, u "jdk/internal/util/Preconditions$4"), (57, .class_ 115), (0, u "jdk/internal/util/Preconditions$1"), (7, u "SIOOBE_FORMATTER"), (0, u "Ljava/util/function/BiFunction;"), (0, .class_ 126), (0, u "jdk/internal/util/Preconditions$2"), (3, u "AIOOBE_FORMATTER"), (0, .class_ 132), (0, u "jdk/internal/util/Preconditions$3"), (3, u "IOOBE_FORMATTER")] 57

def k30m0 : Method := { name := "<init>", desc := "()V", sig := { parameters := [], returnType := none }, accessFlags := 1, code := none }
/-- jdk/internal/util/Preconditions -/
def k30 : Class := { plain "jdk/internal/util/Preconditions" (some 0) with
  accessFlags := 33
  interfaces := #[]
  cf := some (fileOf pool30 24 #[.nestMembers #[55, 131, 125, 114]] #[{ accessFlags := 1, nameIndex := 5, descriptorIndex := 6, attributes := #[] }] 33 2 #[] #[{ accessFlags := 25, nameIndex := 123, descriptorIndex := 124, attributes := #[] }, { accessFlags := 25, nameIndex := 130, descriptorIndex := 124, attributes := #[] }, { accessFlags := 25, nameIndex := 136, descriptorIndex := 124, attributes := #[] }])
  fields := #[{ name := "SIOOBE_FORMATTER", type := (.object "java/util/function/BiFunction"), accessFlags := 25, slot := 0, constantValue := 0 }, { name := "AIOOBE_FORMATTER", type := (.object "java/util/function/BiFunction"), accessFlags := 25, slot := 1, constantValue := 0 }, { name := "IOOBE_FORMATTER", type := (.object "java/util/function/BiFunction"), accessFlags := 25, slot := 2, constantValue := 0 }]
  methods := #[k30m0]
  instanceTypes := #[]
  staticTypes := #[(.object "java/util/function/BiFunction"), (.object "java/util/function/BiFunction"), (.object "java/util/function/BiFunction")]
  resolved := Array.replicate 194 none
  statics := some 4 }

def pool31 : Array CpInfo := pool [(9, u "<init>"), (6, .class_ 18), (1, u "java/lang/Object"), (0, u "()V"), (1, .class_ 23), (1, u "jdk/internal/util/ArraysSupport"), (0, u "LOG2_ARRAY_LONG_INDEX_SCALE"), (0, u "I"), (2, u "U"), (0, u "Ljdk/internal/misc/Unsafe;"), (8, u "BIG_ENDIAN"), (0, u "Z"), (8, u "LOG2_BYTE_BIT_SIZE"), (4, u "LOG2_ARRAY_INT_INDEX_SCALE"), (54, u "JLA"), (0, u "Ljdk/internal/access/JavaLangAccess;"), (11, u "LOG2_ARRAY_BOOLEAN_INDEX_SCALE"), (9, u "LOG2_ARRAY_BYTE_INDEX_SCALE"), (5, u "LOG2_ARRAY_CHAR_INDEX_SCALE"), (5, u "LOG2_ARRAY_SHORT_INDEX_SCALE"), (18, u "LOG2_ARRAY_FLOAT_INDEX_SCALE"), (24, u "LOG2_ARRAY_DOUBLE_INDEX_SCALE"), (89, u "T_BOOLEAN"), (2, u "T_CHAR"), (1, u "T_FLOAT"), (1, u "T_DOUBLE"), (1, u "T_BYTE"), (1, u "T_SHORT"), (1, u "T_INT"), (1, u "T_LONG"), (1, u "SOFT_MAX_ARRAY_LENGTH")] 83

def k31m0 : Method := { name := "<init>", desc := "()V", sig := { parameters := [], returnType := none }, accessFlags := 2, code := none }
/-- jdk/internal/util/ArraysSupport -/
def k31 : Class := { plain "jdk/internal/util/ArraysSupport" (some 0) with
  accessFlags := 33
  interfaces := #[]
  cf := some (fileOf pool31 21 #[] #[{ accessFlags := 2, nameIndex := 9, descriptorIndex := 19, attributes := #[] }] 33 16 #[] #[{ accessFlags := 24, nameIndex := 28, descriptorIndex := 29, attributes := #[] }, { accessFlags := 26, nameIndex := 38, descriptorIndex := 39, attributes := #[] }, { accessFlags := 25, nameIndex := 121, descriptorIndex := 25, attributes := #[] }, { accessFlags := 25, nameIndex := 131, descriptorIndex := 25, attributes := #[] }, { accessFlags := 25, nameIndex := 137, descriptorIndex := 25, attributes := #[] }, { accessFlags := 25, nameIndex := 143, descriptorIndex := 25, attributes := #[] }, { accessFlags := 25, nameIndex := 53, descriptorIndex := 25, attributes := #[] }, { accessFlags := 25, nameIndex := 24, descriptorIndex := 25, attributes := #[] }, { accessFlags := 25, nameIndex := 162, descriptorIndex := 25, attributes := #[] }, { accessFlags := 25, nameIndex := 187, descriptorIndex := 25, attributes := #[] }, { accessFlags := 26, nameIndex := 48, descriptorIndex := 25, attributes := #[] }, { accessFlags := 25, nameIndex := 277, descriptorIndex := 25, attributes := #[] }, { accessFlags := 25, nameIndex := 280, descriptorIndex := 25, attributes := #[] }, { accessFlags := 25, nameIndex := 282, descriptorIndex := 25, attributes := #[] }, { accessFlags := 25, nameIndex := 284, descriptorIndex := 25, attributes := #[] }, { accessFlags := 25, nameIndex := 286, descriptorIndex := 25, attributes := #[] }, { accessFlags := 25, nameIndex := 288, descriptorIndex := 25, attributes := #[] }, { accessFlags := 25, nameIndex := 290, descriptorIndex := 25, attributes := #[] }, { accessFlags := 25, nameIndex := 292, descriptorIndex := 25, attributes := #[] }, { accessFlags := 26, nameIndex := 108, descriptorIndex := 109, attributes := #[] }, { accessFlags := 25, nameIndex := 294, descriptorIndex := 25, attributes := #[] }])
  fields := #[{ name := "U", type := (.object "jdk/internal/misc/Unsafe"), accessFlags := 24, slot := 0, constantValue := 0 }, { name := "BIG_ENDIAN", type := .boolean, accessFlags := 26, slot := 1, constantValue := 0 }, { name := "LOG2_ARRAY_BOOLEAN_INDEX_SCALE", type := .int, accessFlags := 25, slot := 2, constantValue := 0 }, { name := "LOG2_ARRAY_BYTE_INDEX_SCALE", type := .int, accessFlags := 25, slot := 3, constantValue := 0 }, { name := "LOG2_ARRAY_CHAR_INDEX_SCALE", type := .int, accessFlags := 25, slot := 4, constantValue := 0 }, { name := "LOG2_ARRAY_SHORT_INDEX_SCALE", type := .int, accessFlags := 25, slot := 5, constantValue := 0 }, { name := "LOG2_ARRAY_INT_INDEX_SCALE", type := .int, accessFlags := 25, slot := 6, constantValue := 0 }, { name := "LOG2_ARRAY_LONG_INDEX_SCALE", type := .int, accessFlags := 25, slot := 7, constantValue := 0 }, { name := "LOG2_ARRAY_FLOAT_INDEX_SCALE", type := .int, accessFlags := 25, slot := 8, constantValue := 0 }, { name := "LOG2_ARRAY_DOUBLE_INDEX_SCALE", type := .int, accessFlags := 25, slot := 9, constantValue := 0 }, { name := "LOG2_BYTE_BIT_SIZE", type := .int, accessFlags := 26, slot := 10, constantValue := 0 }, { name := "T_BOOLEAN", type := .int, accessFlags := 25, slot := 11, constantValue := 0 }, { name := "T_CHAR", type := .int, accessFlags := 25, slot := 12, constantValue := 0 }, { name := "T_FLOAT", type := .int, accessFlags := 25, slot := 13, constantValue := 0 }, { name := "T_DOUBLE", type := .int, accessFlags := 25, slot := 14, constantValue := 0 }, { name := "T_BYTE", type := .int, accessFlags := 25, slot := 15, constantValue := 0 }, { name := "T_SHORT", type := .int, accessFlags := 25, slot := 16, constantValue := 0 }, { name := "T_INT", type := .int, accessFlags := 25, slot := 17, constantValue := 0 }, { name := "T_LONG", type := .int, accessFlags := 25, slot := 18, constantValue := 0 }, { name := "JLA", type := (.object "jdk/internal/access/JavaLangAccess"), accessFlags := 26, slot := 19, constantValue := 0 }, { name := "SOFT_MAX_ARRAY_LENGTH", type := .int, accessFlags := 25, slot := 20, constantValue := 0 }]
  methods := #[k31m0]
  instanceTypes := #[]
  staticTypes := #[(.object "jdk/internal/misc/Unsafe"), .boolean, .int, .int, .int, .int, .int, .int, .int, .int, .int, .int, .int, .int, .int, .int, .int, .int, .int, (.object "jdk/internal/access/JavaLangAccess"), .int]
  resolved := Array.replicate 378 none
  statics := none }

/-- the primitive byte -/
def k32 : Class := { plain "byte" none with kind := .primitive 'B', accessFlags := 0x411 }
/-- [B -/
def k33 : Class := { plain "[B" (some 0) with kind := .array 32 .byte, interfaces := #[10, 11], accessFlags := 1041 }

/-- the primitive char -/
def k34 : Class := { plain "char" none with kind := .primitive 'C', accessFlags := 0x411 }
/-- [C -/
def k35 : Class := { plain "[C" (some 0) with kind := .array 34 .char, interfaces := #[10, 11], accessFlags := 1041 }

/-- the primitive int -/
def k36 : Class := { plain "int" none with kind := .primitive 'I', accessFlags := 0x411 }
/-- [I -/
def k37 : Class := { plain "[I" (some 0) with kind := .array 36 .int, interfaces := #[10, 11], accessFlags := 1041 }

/-- [Ljava/lang/Object; -/
def k38 : Class := { plain "[Ljava/lang/Object;" (some 0) with kind := .array 0 (.object "java/lang/Object"), interfaces := #[10, 11], accessFlags := 1041 }

def classes0 : Array Class := #[k0, k1, k2, k3, k4, k5, k6, k7, k8, k9, k10, k11, k12, k13, k14, k15, k16, k17, k18, k19, k20, k21, k22, k23, k24, k25, k26, k27, k28, k29, k30, k31, k32, k33, k34, k35, k36, k37, k38]
/-- the class that the rule has made for the site at 5 of com/example/cordon/cordon/http/Answer.set -/
def k39 : Class := Jvm.LamKit.madeRec { classes := classes0 } "com/example/cordon/cordon/http/Answer" (Jvm.Lambda.Shape.mk "java/util/function/Predicate" "test" (Jvm.ClassFile.MethodDescriptor.mk ([(Jvm.ClassFile.FieldType.object "java/lang/Object")] : List Jvm.ClassFile.FieldType) (Option.some Jvm.ClassFile.FieldType.boolean)) ([(Jvm.ClassFile.FieldType.object "java/lang/String")] : List Jvm.ClassFile.FieldType) (6 : Nat) "com/example/cordon/cordon/http/Answer" "lambda$set$0" (Jvm.ClassFile.MethodDescriptor.mk ([(Jvm.ClassFile.FieldType.object "java/lang/String"), (Jvm.ClassFile.FieldType.object "com/example/cordon/cordon/http/HttpHead$Field")] : List Jvm.ClassFile.FieldType) (Option.some Jvm.ClassFile.FieldType.boolean)) false (Jvm.ClassFile.MethodDescriptor.mk ([(Jvm.ClassFile.FieldType.object "com/example/cordon/cordon/http/HttpHead$Field")] : List Jvm.ClassFile.FieldType) (Option.some Jvm.ClassFile.FieldType.boolean))) 39

def heap : Heap := #[{ cls := 2, slots := #[.null, .null, .null, .ref 5], vm := .statics 2 },
  { cls := 17, slots := #[.long 0, .int 1, .null, .int 0, .null, .int 0, .int 0], vm := .statics 17 },
  { cls := 23, slots := #[.null, .null, .ref 6, .null, .null, .null], vm := .statics 23 },
  { cls := 27, slots := #[.ref 6, .null], vm := .statics 27 },
  { cls := 30, slots := #[.null, .null, .null], vm := .statics 30 },
  { cls := 33, slots := #[], vm := .none },
  { cls := 27, slots := #[.null, .null, .null], vm := .none }]
def classes : Array Class := #[k0, k1, k2, k3, k4, k5, k6, k7, k8, k9, k10, k11, k12, k13, k14, k15, k16, k17, k18, k19, k20, k21, k22, k23, k24, k25, k26, k27, k28, k29, k30, k31, k32, k33, k34, k35, k36, k37, k38, k39]
def interned : List (Array UInt16 × Addr) := []
def slotsUsed : Nat := 25
def theMethod : MethodId := ⟨1, 1⟩
def args0 : Array Value := #[.int 5, .int 5, .int 5]
def aboutOver (below : List Frame) : State where
  vm := { classes := classes, interned := interned.toArray }
  heap := heap
  slotsUsed := slotsUsed
  threads := #[{ frames := .invoking theMethod args0 :: below }]
def below0 : List Frame := [.native { method := ⟨0, 0⟩, args := #[] }]
def about1 : State := aboutOver below0
def p0 : Program := .bare "" "" ""
def e0 : Env := launch0.env 0 0 0
theorem w_frames : about1.frames = Frame.invoking theMethod args0 :: below0 := rfl
set_option maxRecDepth 65536 in
theorem w_args : argsFit about1.vm theMethod args0 = true := by decide +kernel
set_option maxRecDepth 65536 in
theorem w_heap : heapFits about1 = true := by decide +kernel
set_option maxRecDepth 65536 in
theorem w_runnable : about1.curStatus? = some .runnable := by decide +kernel
set_option maxRecDepth 65536 in
theorem w_alone : about1.alone = true := by decide +kernel
set_option maxRecDepth 65536 in
theorem w_named : about1.methodNamed? x = some theMethod := by decide +kernel
set_option maxRecDepth 65536 in
theorem w_hears : about1.hears theMethod below0 = true := by decide +kernel
set_option maxRecDepth 65536 in
theorem w_ripe : about1.ripe theMethod args0 below0 = true := by decide +kernel
theorem w_running : about1.status = .running := rfl
set_option maxRecDepth 65536 in
theorem w_room : about1.hasRoom e0.platform room_1 = true :=
  launch0.hasRoom_least _ room_1 (by decide +kernel) (by decide +kernel) (by decide +kernel) (by decide +kernel) (by decide +kernel) (by decide +kernel)
theorem allAtoms_all (ts : List Jvm.Cond) (a : Array Jvm.Value) (st : Jvm.State) : (allAtoms ts).before a st = ts.all (fun c => c.before a st) := by
  induction ts with
  | nil => rfl
  | cons c t ih =>
    show (Jvm.Cond.and c (allAtoms t)).before a st = _
    rw [Jvm.Cond.before_and, ih, List.all_cons]
def words1 : List Jvm.Cond := Jvm.Cond.code x code maxLocals ret :: tables_1
/-- a 'code' word, met by the world's own term for the bytes: nothing is compared byte by byte -/
theorem code_word {y : MethodName} {bytes : ByteArray} {mx : Nat} {rt : Option FieldType} {a : Array Value} {s : State} {m : MethodId} {meth : Method} {c : Code} (h1 : s.methodNamed? y = some m) (h2 : s.vm.method? m = some meth) (h3 : meth.code = some c) (h4 : c.code = bytes)
    (h5 : (c.maxLocals == mx && c.exceptionTable.isEmpty && decide (c.maxStack ≤ mostOperands) && decide (meth.sig.returnType = rt) && !meth.locks && decide (parseMethodDescriptor y.desc = some meth.sig)) = true) : (Jvm.Cond.code y bytes mx rt).before a s = true := by
  simp only [Bool.and_eq_true, beq_iff_eq, Bool.not_eq_true', decide_eq_true_eq] at h5
  obtain ⟨⟨⟨⟨⟨g1, g2⟩, g3⟩, g4⟩, g5⟩, g6⟩ := h5
  simp [Cond.before, Cond.holds, Cond.value, h1, h2, h3, h4, g1, g2, g3, g4, g5, g6]
def isCode : Jvm.Cond → Bool
  | .code _ _ _ _ => true
  | _ => false
theorem all_split {L : List Jvm.Cond} {P : Jvm.Cond → Bool} (h1 : L.all (fun c => isCode c || P c) = true) (h2 : ∀ c ∈ L.filter isCode, P c = true) : L.all P = true := by
  refine List.all_eq_true.mpr fun c hc => ?_
  have h := List.all_eq_true.mp h1 c hc
  rcases Bool.eq_false_or_eq_true (isCode c) with hi | hi
  · exact h2 c (List.mem_filter.mpr ⟨hc, hi⟩)
  · simpa [hi] using h
set_option maxRecDepth 65536 in
theorem w_c0 : (Jvm.Cond.code x code maxLocals ret).before args0 about1 = true := code_word (m := ⟨1, 1⟩) (meth := k1m1) (c := k1c1) (by decide +kernel) rfl rfl rfl (by decide +kernel)
set_option maxRecDepth 65536 in
theorem w_c1 : (Jvm.Cond.code ({ cls := "com/example/cordon/cordon/http/Answer", name := "<init>", desc := "()V" } : Jvm.MethodName) prog_14_method_1_code (1 : Nat) (Option.none : Option Jvm.ClassFile.FieldType)).before args0 about1 = true := code_word (m := ⟨2, 0⟩) (meth := k2m0) (c := k2c0) (by decide +kernel) rfl rfl rfl (by decide +kernel)
set_option maxRecDepth 65536 in
theorem w_c2 : (Jvm.Cond.code ({ cls := "java/lang/Object", name := "<init>", desc := "()V" } : Jvm.MethodName) object_method_1_code (1 : Nat) (Option.none : Option Jvm.ClassFile.FieldType)).before args0 about1 = true := code_word (m := ⟨0, 0⟩) (meth := k0m0) (c := k0c0) (by decide +kernel) rfl rfl rfl (by decide +kernel)
set_option maxRecDepth 65536 in
theorem w_c3 : (Jvm.Cond.code ({ cls := "java/util/ArrayList", name := "<init>", desc := "(I)V" } : Jvm.MethodName) jdk_38_method_1_code (2 : Nat) (Option.none : Option Jvm.ClassFile.FieldType)).before args0 about1 = true := code_word (m := ⟨12, 0⟩) (meth := k12m0) (c := k12c0) (by decide +kernel) rfl rfl rfl (by decide +kernel)
set_option maxRecDepth 65536 in
theorem w_c4 : (Jvm.Cond.code ({ cls := "java/util/AbstractList", name := "<init>", desc := "()V" } : Jvm.MethodName) jdk_39_method_1_code (1 : Nat) (Option.none : Option Jvm.ClassFile.FieldType)).before args0 about1 = true := code_word (m := ⟨8, 0⟩) (meth := k8m0) (c := k8c0) (by decide +kernel) rfl rfl rfl (by decide +kernel)
set_option maxRecDepth 65536 in
theorem w_c5 : (Jvm.Cond.code ({ cls := "java/util/AbstractCollection", name := "<init>", desc := "()V" } : Jvm.MethodName) jdk_22_method_1_code (1 : Nat) (Option.none : Option Jvm.ClassFile.FieldType)).before args0 about1 = true := code_word (m := ⟨5, 0⟩) (meth := k5m0) (c := k5c0) (by decide +kernel) rfl rfl rfl (by decide +kernel)
set_option maxRecDepth 65536 in
theorem w_c6 : (Jvm.Cond.code ({ cls := "com/example/cordon/cordon/http/Answer", name := "isGiven", desc := "()Z" } : Jvm.MethodName) prog_14_method_9_code (1 : Nat) (Option.some Jvm.ClassFile.FieldType.boolean)).before args0 about1 = true := code_word (m := ⟨2, 5⟩) (meth := k2m5) (c := k2c5) (by decide +kernel) rfl rfl rfl (by decide +kernel)
set_option maxRecDepth 65536 in
theorem w_c7 : (Jvm.Cond.code ({ cls := "com/example/cordon/cordon/http/Answer", name := "add", desc := "(Ljava/lang/String;Ljava/lang/String;)V" } : Jvm.MethodName) prog_14_method_3_code (3 : Nat) (Option.none : Option Jvm.ClassFile.FieldType)).before args0 about1 = true := code_word (m := ⟨2, 2⟩) (meth := k2m2) (c := k2c2) (by decide +kernel) rfl rfl rfl (by decide +kernel)
set_option maxRecDepth 65536 in
theorem w_c8 : (Jvm.Cond.code ({ cls := "com/example/cordon/cordon/http/HttpHead$Field", name := "<init>", desc := "(Ljava/lang/String;Ljava/lang/String;)V" } : Jvm.MethodName) prog_26_method_1_code (3 : Nat) (Option.none : Option Jvm.ClassFile.FieldType)).before args0 about1 = true := code_word (m := ⟨19, 0⟩) (meth := k19m0) (c := k19c0) (by decide +kernel) rfl rfl rfl (by decide +kernel)
set_option maxRecDepth 65536 in
theorem w_c9 : (Jvm.Cond.code ({ cls := "java/lang/Record", name := "<init>", desc := "()V" } : Jvm.MethodName) jdk_30_method_1_code (1 : Nat) (Option.none : Option Jvm.ClassFile.FieldType)).before args0 about1 = true := code_word (m := ⟨18, 0⟩) (meth := k18m0) (c := k18c0) (by decide +kernel) rfl rfl rfl (by decide +kernel)
set_option maxRecDepth 65536 in
theorem w_c10 : (Jvm.Cond.code ({ cls := "java/util/ArrayList", name := "add", desc := "(Ljava/lang/Object;)Z" } : Jvm.MethodName) jdk_38_method_25_code (2 : Nat) (Option.some Jvm.ClassFile.FieldType.boolean)).before args0 about1 = true := code_word (m := ⟨12, 4⟩) (meth := k12m4) (c := k12c4) (by decide +kernel) rfl rfl rfl (by decide +kernel)
set_option maxRecDepth 65536 in
theorem w_c11 : (Jvm.Cond.code ({ cls := "java/util/ArrayList", name := "add", desc := "(Ljava/lang/Object;[Ljava/lang/Object;I)V" } : Jvm.MethodName) jdk_38_method_24_code (4 : Nat) (Option.none : Option Jvm.ClassFile.FieldType)).before args0 about1 = true := code_word (m := ⟨12, 3⟩) (meth := k12m3) (c := k12c3) (by decide +kernel) rfl rfl rfl (by decide +kernel)
set_option maxRecDepth 65536 in
theorem w_c12 : (Jvm.Cond.code ({ cls := "java/lang/String", name := "<init>", desc := "([C)V" } : Jvm.MethodName) jdk_42_method_3_code (2 : Nat) (Option.none : Option Jvm.ClassFile.FieldType)).before args0 about1 = true := code_word (m := ⟨17, 1⟩) (meth := k17m1) (c := k17c1) (by decide +kernel) rfl rfl rfl (by decide +kernel)
set_option maxRecDepth 65536 in
theorem w_c13 : (Jvm.Cond.code ({ cls := "java/lang/String", name := "<init>", desc := "([CIILjava/lang/Void;)V" } : Jvm.MethodName) jdk_42_method_149_code (6 : Nat) (Option.none : Option Jvm.ClassFile.FieldType)).before args0 about1 = true := code_word (m := ⟨17, 7⟩) (meth := k17m7) (c := k17c7) (by decide +kernel) rfl rfl rfl (by decide +kernel)
set_option maxRecDepth 65536 in
theorem w_c14 : (Jvm.Cond.code ({ cls := "java/lang/StringUTF16", name := "compress", desc := "([CII)[B" } : Jvm.MethodName) jdk_52_method_16_code (6 : Nat) (Option.some (Jvm.ClassFile.FieldType.array Jvm.ClassFile.FieldType.byte))).before args0 about1 = true := code_word (m := ⟨20, 4⟩) (meth := k20m4) (c := k20c4) (by decide +kernel) rfl rfl rfl (by decide +kernel)
set_option maxRecDepth 65536 in
theorem w_c15 : (Jvm.Cond.code ({ cls := "java/lang/StringUTF16", name := "compress", desc := "([CI[BII)I" } : Jvm.MethodName) jdk_52_method_21_code (7 : Nat) (Option.some Jvm.ClassFile.FieldType.int)).before args0 about1 = true := code_word (m := ⟨20, 5⟩) (meth := k20m5) (c := k20c5) (by decide +kernel) rfl rfl rfl (by decide +kernel)
set_option maxRecDepth 65536 in
theorem w_c16 : (Jvm.Cond.code ({ cls := "java/lang/StringUTF16", name := "coderFromArrayLen", desc := "([BI)B" } : Jvm.MethodName) jdk_52_method_15_code (2 : Nat) (Option.some Jvm.ClassFile.FieldType.byte)).before args0 about1 = true := code_word (m := ⟨20, 3⟩) (meth := k20m3) (c := k20c3) (by decide +kernel) rfl rfl rfl (by decide +kernel)
set_option maxRecDepth 65536 in
theorem w_c17 : (Jvm.Cond.code ({ cls := "com/example/cordon/cordon/http/Answer", name := "send", desc := "(ILjava/lang/String;Ljava/lang/String;)V" } : Jvm.MethodName) prog_14_method_4_code (4 : Nat) (Option.none : Option Jvm.ClassFile.FieldType)).before args0 about1 = true := code_word (m := ⟨2, 3⟩) (meth := k2m3) (c := k2c3) (by decide +kernel) rfl rfl rfl (by decide +kernel)
set_option maxRecDepth 65536 in
theorem w_c18 : (Jvm.Cond.code ({ cls := "com/example/cordon/cordon/http/Answer", name := "give", desc := "(I)V" } : Jvm.MethodName) prog_14_method_8_code (2 : Nat) (Option.none : Option Jvm.ClassFile.FieldType)).before args0 about1 = true := code_word (m := ⟨2, 4⟩) (meth := k2m4) (c := k2c4) (by decide +kernel) rfl rfl rfl (by decide +kernel)
set_option maxRecDepth 65536 in
theorem w_c19 : (Jvm.Cond.code ({ cls := "com/example/cordon/cordon/http/Answer", name := "set", desc := "(Ljava/lang/String;Ljava/lang/String;)V" } : Jvm.MethodName) prog_14_method_2_code (3 : Nat) (Option.none : Option Jvm.ClassFile.FieldType)).before args0 about1 = true := code_word (m := ⟨2, 1⟩) (meth := k2m1) (c := k2c1) (by decide +kernel) rfl rfl rfl (by decide +kernel)
set_option maxRecDepth 65536 in
theorem w_c20 : (Jvm.Cond.code ({ cls := "java/util/ArrayList", name := "removeIf", desc := "(Ljava/util/function/Predicate;)Z" } : Jvm.MethodName) jdk_38_method_62_code (2 : Nat) (Option.some Jvm.ClassFile.FieldType.boolean)).before args0 about1 = true := code_word (m := ⟨12, 5⟩) (meth := k12m5) (c := k12c5) (by decide +kernel) rfl rfl rfl (by decide +kernel)
set_option maxRecDepth 65536 in
theorem w_c21 : (Jvm.Cond.code ({ cls := "java/util/ArrayList", name := "removeIf", desc := "(Ljava/util/function/Predicate;II)Z" } : Jvm.MethodName) jdk_38_method_63_code (9 : Nat) (Option.some Jvm.ClassFile.FieldType.boolean)).before args0 about1 = true := code_word (m := ⟨12, 6⟩) (meth := k12m6) (c := k12c6) (by decide +kernel) rfl rfl rfl (by decide +kernel)
set_option maxRecDepth 65536 in
theorem w_c22 : (Jvm.Cond.code ({ cls := "java/util/Objects", name := "requireNonNull", desc := "(Ljava/lang/Object;)Ljava/lang/Object;" } : Jvm.MethodName) jdk_31_method_10_code (1 : Nat) (Option.some (Jvm.ClassFile.FieldType.object "java/lang/Object"))).before args0 about1 = true := code_word (m := ⟨22, 1⟩) (meth := k22m1) (c := k22c1) (by decide +kernel) rfl rfl rfl (by decide +kernel)
set_option maxRecDepth 65536 in
theorem w_c23 : (Jvm.Cond.code ({ cls := "java/util/ArrayList", name := "elementAt", desc := "([Ljava/lang/Object;I)Ljava/lang/Object;" } : Jvm.MethodName) jdk_38_method_19_code (2 : Nat) (Option.some (Jvm.ClassFile.FieldType.object "java/lang/Object"))).before args0 about1 = true := code_word (m := ⟨12, 2⟩) (meth := k12m2) (c := k12c2) (by decide +kernel) rfl rfl rfl (by decide +kernel)
set_option maxRecDepth 65536 in
theorem w_c24 : (Jvm.Cond.code ({ cls := "com/example/cordon/cordon/http/Answer", name := "lambda$set$0", desc := "(Ljava/lang/String;Lcom/example/cordon/cordon/http/HttpHead$Field;)Z" } : Jvm.MethodName) prog_14_method_13_code (2 : Nat) (Option.some Jvm.ClassFile.FieldType.boolean)).before args0 about1 = true := code_word (m := ⟨2, 6⟩) (meth := k2m6) (c := k2c6) (by decide +kernel) rfl rfl rfl (by decide +kernel)
set_option maxRecDepth 65536 in
theorem w_c25 : (Jvm.Cond.code ({ cls := "com/example/cordon/cordon/http/HttpHead$Field", name := "name", desc := "()Ljava/lang/String;" } : Jvm.MethodName) prog_26_method_5_code (1 : Nat) (Option.some (Jvm.ClassFile.FieldType.object "java/lang/String"))).before args0 about1 = true := code_word (m := ⟨19, 1⟩) (meth := k19m1) (c := k19c1) (by decide +kernel) rfl rfl rfl (by decide +kernel)
set_option maxRecDepth 65536 in
theorem w_c26 : (Jvm.Cond.code ({ cls := "java/lang/String", name := "equalsIgnoreCase", desc := "(Ljava/lang/String;)Z" } : Jvm.MethodName) jdk_42_method_70_code (2 : Nat) (Option.some Jvm.ClassFile.FieldType.boolean)).before args0 about1 = true := code_word (m := ⟨17, 6⟩) (meth := k17m6) (c := k17c6) (by decide +kernel) rfl rfl rfl (by decide +kernel)
set_option maxRecDepth 65536 in
theorem w_c27 : (Jvm.Cond.code ({ cls := "java/lang/String", name := "length", desc := "()I" } : Jvm.MethodName) jdk_42_method_54_code (1 : Nat) (Option.some Jvm.ClassFile.FieldType.int)).before args0 about1 = true := code_word (m := ⟨17, 4⟩) (meth := k17m4) (c := k17c4) (by decide +kernel) rfl rfl rfl (by decide +kernel)
set_option maxRecDepth 65536 in
theorem w_c28 : (Jvm.Cond.code ({ cls := "java/lang/String", name := "coder", desc := "()B" } : Jvm.MethodName) jdk_42_method_152_code (1 : Nat) (Option.some Jvm.ClassFile.FieldType.byte)).before args0 about1 = true := code_word (m := ⟨17, 8⟩) (meth := k17m8) (c := k17c8) (by decide +kernel) rfl rfl rfl (by decide +kernel)
set_option maxRecDepth 65536 in
theorem w_c29 : (Jvm.Cond.code ({ cls := "java/lang/String", name := "getBytes", desc := "(Ljava/nio/charset/Charset;)[B" } : Jvm.MethodName) jdk_42_method_64_code (2 : Nat) (Option.some (Jvm.ClassFile.FieldType.array Jvm.ClassFile.FieldType.byte))).before args0 about1 = true := code_word (m := ⟨17, 5⟩) (meth := k17m5) (c := k17c5) (by decide +kernel) rfl rfl rfl (by decide +kernel)
set_option maxRecDepth 65536 in
theorem w_c30 : (Jvm.Cond.code ({ cls := "java/lang/String", name := "encode", desc := "(Ljava/nio/charset/Charset;B[B)[B" } : Jvm.MethodName) jdk_42_method_18_code (3 : Nat) (Option.some (Jvm.ClassFile.FieldType.array Jvm.ClassFile.FieldType.byte))).before args0 about1 = true := code_word (m := ⟨17, 2⟩) (meth := k17m2) (c := k17c2) (by decide +kernel) rfl rfl rfl (by decide +kernel)
set_option maxRecDepth 65536 in
theorem w_c31 : (Jvm.Cond.code ({ cls := "java/lang/String", name := "encodeUTF8", desc := "(B[BZ)[B" } : Jvm.MethodName) jdk_42_method_46_code (9 : Nat) (Option.some (Jvm.ClassFile.FieldType.array Jvm.ClassFile.FieldType.byte))).before args0 about1 = true := code_word (m := ⟨17, 3⟩) (meth := k17m3) (c := k17c3) (by decide +kernel) rfl rfl rfl (by decide +kernel)
set_option maxRecDepth 65536 in
theorem w_c32 : (Jvm.Cond.code ({ cls := "java/lang/StringCoding", name := "hasNegatives", desc := "([BII)Z" } : Jvm.MethodName) jdk_123_method_2_code (3 : Nat) (Option.some Jvm.ClassFile.FieldType.boolean)).before args0 about1 = true := code_word (m := ⟨28, 1⟩) (meth := k28m1) (c := k28c1) (by decide +kernel) rfl rfl rfl (by decide +kernel)
set_option maxRecDepth 65536 in
theorem w_c33 : (Jvm.Cond.code ({ cls := "java/lang/StringCoding", name := "countPositives", desc := "([BII)I" } : Jvm.MethodName) jdk_123_method_3_code (5 : Nat) (Option.some Jvm.ClassFile.FieldType.int)).before args0 about1 = true := code_word (m := ⟨28, 2⟩) (meth := k28m2) (c := k28c2) (by decide +kernel) rfl rfl rfl (by decide +kernel)
set_option maxRecDepth 65536 in
theorem w_c34 : (Jvm.Cond.code ({ cls := "java/lang/StringUTF16", name := "newBytesFor", desc := "(I)[B" } : Jvm.MethodName) jdk_52_method_2_code (1 : Nat) (Option.some (Jvm.ClassFile.FieldType.array Jvm.ClassFile.FieldType.byte))).before args0 about1 = true := code_word (m := ⟨20, 1⟩) (meth := k20m1) (c := k20c1) (by decide +kernel) rfl rfl rfl (by decide +kernel)
set_option maxRecDepth 65536 in
theorem w_c35 : (Jvm.Cond.code ({ cls := "java/lang/StringUTF16", name := "newBytesLength", desc := "(I)I" } : Jvm.MethodName) jdk_52_method_3_code (1 : Nat) (Option.some Jvm.ClassFile.FieldType.int)).before args0 about1 = true := code_word (m := ⟨20, 2⟩) (meth := k20m2) (c := k20c2) (by decide +kernel) rfl rfl rfl (by decide +kernel)
def codes1 : List Jvm.Cond := [Jvm.Cond.code x code maxLocals ret, Jvm.Cond.code ({ cls := "com/example/cordon/cordon/http/Answer", name := "<init>", desc := "()V" } : Jvm.MethodName) prog_14_method_1_code (1 : Nat) (Option.none : Option Jvm.ClassFile.FieldType), Jvm.Cond.code ({ cls := "java/lang/Object", name := "<init>", desc := "()V" } : Jvm.MethodName) object_method_1_code (1 : Nat) (Option.none : Option Jvm.ClassFile.FieldType), Jvm.Cond.code ({ cls := "java/util/ArrayList", name := "<init>", desc := "(I)V" } : Jvm.MethodName) jdk_38_method_1_code (2 : Nat) (Option.none : Option Jvm.ClassFile.FieldType), Jvm.Cond.code ({ cls := "java/util/AbstractList", name := "<init>", desc := "()V" } : Jvm.MethodName) jdk_39_method_1_code (1 : Nat) (Option.none : Option Jvm.ClassFile.FieldType), Jvm.Cond.code ({ cls := "java/util/AbstractCollection", name := "<init>", desc := "()V" } : Jvm.MethodName) jdk_22_method_1_code (1 : Nat) (Option.none : Option Jvm.ClassFile.FieldType), Jvm.Cond.code ({ cls := "com/example/cordon/cordon/http/Answer", name := "isGiven", desc := "()Z" } : Jvm.MethodName) prog_14_method_9_code (1 : Nat) (Option.some Jvm.ClassFile.FieldType.boolean), Jvm.Cond.code ({ cls := "com/example/cordon/cordon/http/Answer", name := "add", desc := "(Ljava/lang/String;Ljava/lang/String;)V" } : Jvm.MethodName) prog_14_method_3_code (3 : Nat) (Option.none : Option Jvm.ClassFile.FieldType), Jvm.Cond.code ({ cls := "com/example/cordon/cordon/http/HttpHead$Field", name := "<init>", desc := "(Ljava/lang/String;Ljava/lang/String;)V" } : Jvm.MethodName) prog_26_method_1_code (3 : Nat) (Option.none : Option Jvm.ClassFile.FieldType), Jvm.Cond.code ({ cls := "java/lang/Record", name := "<init>", desc := "()V" } : Jvm.MethodName) jdk_30_method_1_code (1 : Nat) (Option.none : Option Jvm.ClassFile.FieldType), Jvm.Cond.code ({ cls := "java/util/ArrayList", name := "add", desc := "(Ljava/lang/Object;)Z" } : Jvm.MethodName) jdk_38_method_25_code (2 : Nat) (Option.some Jvm.ClassFile.FieldType.boolean), Jvm.Cond.code ({ cls := "java/util/ArrayList", name := "add", desc := "(Ljava/lang/Object;[Ljava/lang/Object;I)V" } : Jvm.MethodName) jdk_38_method_24_code (4 : Nat) (Option.none : Option Jvm.ClassFile.FieldType), Jvm.Cond.code ({ cls := "java/lang/String", name := "<init>", desc := "([C)V" } : Jvm.MethodName) jdk_42_method_3_code (2 : Nat) (Option.none : Option Jvm.ClassFile.FieldType), Jvm.Cond.code ({ cls := "java/lang/String", name := "<init>", desc := "([CIILjava/lang/Void;)V" } : Jvm.MethodName) jdk_42_method_149_code (6 : Nat) (Option.none : Option Jvm.ClassFile.FieldType), Jvm.Cond.code ({ cls := "java/lang/StringUTF16", name := "compress", desc := "([CII)[B" } : Jvm.MethodName) jdk_52_method_16_code (6 : Nat) (Option.some (Jvm.ClassFile.FieldType.array Jvm.ClassFile.FieldType.byte)), Jvm.Cond.code ({ cls := "java/lang/StringUTF16", name := "compress", desc := "([CI[BII)I" } : Jvm.MethodName) jdk_52_method_21_code (7 : Nat) (Option.some Jvm.ClassFile.FieldType.int), Jvm.Cond.code ({ cls := "java/lang/StringUTF16", name := "coderFromArrayLen", desc := "([BI)B" } : Jvm.MethodName) jdk_52_method_15_code (2 : Nat) (Option.some Jvm.ClassFile.FieldType.byte), Jvm.Cond.code ({ cls := "com/example/cordon/cordon/http/Answer", name := "send", desc := "(ILjava/lang/String;Ljava/lang/String;)V" } : Jvm.MethodName) prog_14_method_4_code (4 : Nat) (Option.none : Option Jvm.ClassFile.FieldType), Jvm.Cond.code ({ cls := "com/example/cordon/cordon/http/Answer", name := "give", desc := "(I)V" } : Jvm.MethodName) prog_14_method_8_code (2 : Nat) (Option.none : Option Jvm.ClassFile.FieldType), Jvm.Cond.code ({ cls := "com/example/cordon/cordon/http/Answer", name := "set", desc := "(Ljava/lang/String;Ljava/lang/String;)V" } : Jvm.MethodName) prog_14_method_2_code (3 : Nat) (Option.none : Option Jvm.ClassFile.FieldType), Jvm.Cond.code ({ cls := "java/util/ArrayList", name := "removeIf", desc := "(Ljava/util/function/Predicate;)Z" } : Jvm.MethodName) jdk_38_method_62_code (2 : Nat) (Option.some Jvm.ClassFile.FieldType.boolean), Jvm.Cond.code ({ cls := "java/util/ArrayList", name := "removeIf", desc := "(Ljava/util/function/Predicate;II)Z" } : Jvm.MethodName) jdk_38_method_63_code (9 : Nat) (Option.some Jvm.ClassFile.FieldType.boolean), Jvm.Cond.code ({ cls := "java/util/Objects", name := "requireNonNull", desc := "(Ljava/lang/Object;)Ljava/lang/Object;" } : Jvm.MethodName) jdk_31_method_10_code (1 : Nat) (Option.some (Jvm.ClassFile.FieldType.object "java/lang/Object")), Jvm.Cond.code ({ cls := "java/util/ArrayList", name := "elementAt", desc := "([Ljava/lang/Object;I)Ljava/lang/Object;" } : Jvm.MethodName) jdk_38_method_19_code (2 : Nat) (Option.some (Jvm.ClassFile.FieldType.object "java/lang/Object")), Jvm.Cond.code ({ cls := "com/example/cordon/cordon/http/Answer", name := "lambda$set$0", desc := "(Ljava/lang/String;Lcom/example/cordon/cordon/http/HttpHead$Field;)Z" } : Jvm.MethodName) prog_14_method_13_code (2 : Nat) (Option.some Jvm.ClassFile.FieldType.boolean), Jvm.Cond.code ({ cls := "com/example/cordon/cordon/http/HttpHead$Field", name := "name", desc := "()Ljava/lang/String;" } : Jvm.MethodName) prog_26_method_5_code (1 : Nat) (Option.some (Jvm.ClassFile.FieldType.object "java/lang/String")), Jvm.Cond.code ({ cls := "java/lang/String", name := "equalsIgnoreCase", desc := "(Ljava/lang/String;)Z" } : Jvm.MethodName) jdk_42_method_70_code (2 : Nat) (Option.some Jvm.ClassFile.FieldType.boolean), Jvm.Cond.code ({ cls := "java/lang/String", name := "length", desc := "()I" } : Jvm.MethodName) jdk_42_method_54_code (1 : Nat) (Option.some Jvm.ClassFile.FieldType.int), Jvm.Cond.code ({ cls := "java/lang/String", name := "coder", desc := "()B" } : Jvm.MethodName) jdk_42_method_152_code (1 : Nat) (Option.some Jvm.ClassFile.FieldType.byte), Jvm.Cond.code ({ cls := "java/lang/String", name := "getBytes", desc := "(Ljava/nio/charset/Charset;)[B" } : Jvm.MethodName) jdk_42_method_64_code (2 : Nat) (Option.some (Jvm.ClassFile.FieldType.array Jvm.ClassFile.FieldType.byte)), Jvm.Cond.code ({ cls := "java/lang/String", name := "encode", desc := "(Ljava/nio/charset/Charset;B[B)[B" } : Jvm.MethodName) jdk_42_method_18_code (3 : Nat) (Option.some (Jvm.ClassFile.FieldType.array Jvm.ClassFile.FieldType.byte)), Jvm.Cond.code ({ cls := "java/lang/String", name := "encodeUTF8", desc := "(B[BZ)[B" } : Jvm.MethodName) jdk_42_method_46_code (9 : Nat) (Option.some (Jvm.ClassFile.FieldType.array Jvm.ClassFile.FieldType.byte)), Jvm.Cond.code ({ cls := "java/lang/StringCoding", name := "hasNegatives", desc := "([BII)Z" } : Jvm.MethodName) jdk_123_method_2_code (3 : Nat) (Option.some Jvm.ClassFile.FieldType.boolean), Jvm.Cond.code ({ cls := "java/lang/StringCoding", name := "countPositives", desc := "([BII)I" } : Jvm.MethodName) jdk_123_method_3_code (5 : Nat) (Option.some Jvm.ClassFile.FieldType.int), Jvm.Cond.code ({ cls := "java/lang/StringUTF16", name := "newBytesFor", desc := "(I)[B" } : Jvm.MethodName) jdk_52_method_2_code (1 : Nat) (Option.some (Jvm.ClassFile.FieldType.array Jvm.ClassFile.FieldType.byte)), Jvm.Cond.code ({ cls := "java/lang/StringUTF16", name := "newBytesLength", desc := "(I)I" } : Jvm.MethodName) jdk_52_method_3_code (1 : Nat) (Option.some Jvm.ClassFile.FieldType.int)]
set_option maxRecDepth 65536 in
theorem codes_eq : words1.filter isCode = codes1 := rfl
theorem w_codes : ∀ c ∈ words1.filter isCode, c.before args0 about1 = true := by
  rw [codes_eq]
  intro c hc
  simp only [codes1, List.mem_cons, List.not_mem_nil, or_false] at hc
  rcases hc with rfl | rfl | rfl | rfl | rfl | rfl | rfl | rfl | rfl | rfl | rfl | rfl | rfl | rfl | rfl | rfl | rfl | rfl | rfl | rfl | rfl | rfl | rfl | rfl | rfl | rfl | rfl | rfl | rfl | rfl | rfl | rfl | rfl | rfl | rfl | rfl
  · exact w_c0
  · exact w_c1
  · exact w_c2
  · exact w_c3
  · exact w_c4
  · exact w_c5
  · exact w_c6
  · exact w_c7
  · exact w_c8
  · exact w_c9
  · exact w_c10
  · exact w_c11
  · exact w_c12
  · exact w_c13
  · exact w_c14
  · exact w_c15
  · exact w_c16
  · exact w_c17
  · exact w_c18
  · exact w_c19
  · exact w_c20
  · exact w_c21
  · exact w_c22
  · exact w_c23
  · exact w_c24
  · exact w_c25
  · exact w_c26
  · exact w_c27
  · exact w_c28
  · exact w_c29
  · exact w_c30
  · exact w_c31
  · exact w_c32
  · exact w_c33
  · exact w_c34
  · exact w_c35
set_option maxRecDepth 65536 in
theorem w_t1 : (words1.take 24).all (fun c => isCode c || c.before args0 about1) = true := by decide +kernel
set_option maxRecDepth 65536 in
theorem w_t2 : ((words1.drop 24).take 24).all (fun c => isCode c || c.before args0 about1) = true := by decide +kernel
set_option maxRecDepth 65536 in
theorem w_t3 : (((words1.drop 24).drop 24).take 24).all (fun c => isCode c || c.before args0 about1) = true := by decide +kernel
set_option maxRecDepth 65536 in
theorem w_t4 : ((((words1.drop 24).drop 24).drop 24).take 24).all (fun c => isCode c || c.before args0 about1) = true := by decide +kernel
set_option maxRecDepth 65536 in
theorem w_t5 : (((((words1.drop 24).drop 24).drop 24).drop 24).take 24).all (fun c => isCode c || c.before args0 about1) = true := by decide +kernel
set_option maxRecDepth 65536 in
theorem w_t6 : ((((((words1.drop 24).drop 24).drop 24).drop 24).drop 24).take 24).all (fun c => isCode c || c.before args0 about1) = true := by decide +kernel
set_option maxRecDepth 65536 in
theorem w_t7 : (((((((words1.drop 24).drop 24).drop 24).drop 24).drop 24).drop 24).take 24).all (fun c => isCode c || c.before args0 about1) = true := by decide +kernel
set_option maxRecDepth 65536 in
theorem w_t8 : ((((((((words1.drop 24).drop 24).drop 24).drop 24).drop 24).drop 24).drop 24).take 24).all (fun c => isCode c || c.before args0 about1) = true := by decide +kernel
set_option maxRecDepth 65536 in
theorem w_t9 : (((((((((words1.drop 24).drop 24).drop 24).drop 24).drop 24).drop 24).drop 24).drop 24).take 24).all (fun c => isCode c || c.before args0 about1) = true := by decide +kernel
set_option maxRecDepth 65536 in
theorem w_t10 : (((((((((words1.drop 24).drop 24).drop 24).drop 24).drop 24).drop 24).drop 24).drop 24).drop 24).all (fun c => isCode c || c.before args0 about1) = true := by decide +kernel
theorem w_tables : (allAtoms (Jvm.Cond.code x code maxLocals ret :: tables_1)).before args0 about1 = true := by
  rw [allAtoms_all]
  show words1.all (fun c => c.before args0 about1) = true
  refine all_split ?_ w_codes
  rw [← List.take_append_drop 24 words1, List.all_append, w_t1, ← List.take_append_drop 24 (words1.drop 24), List.all_append, w_t2, ← List.take_append_drop 24 ((words1.drop 24).drop 24), List.all_append, w_t3, ← List.take_append_drop 24 (((words1.drop 24).drop 24).drop 24), List.all_append, w_t4, ← List.take_append_drop 24 ((((words1.drop 24).drop 24).drop 24).drop 24), List.all_append, w_t5, ← List.take_append_drop 24 (((((words1.drop 24).drop 24).drop 24).drop 24).drop 24), List.all_append, w_t6, ← List.take_append_drop 24 ((((((words1.drop 24).drop 24).drop 24).drop 24).drop 24).drop 24), List.all_append, w_t7, ← List.take_append_drop 24 (((((((words1.drop 24).drop 24).drop 24).drop 24).drop 24).drop 24).drop 24), List.all_append, w_t8, ← List.take_append_drop 24 ((((((((words1.drop 24).drop 24).drop 24).drop 24).drop 24).drop 24).drop 24).drop 24), List.all_append, w_t9, w_t10]
  rfl
set_option maxRecDepth 65536 in
theorem w_rest : rest_1_c.before args0 about1 = true := by decide +kernel
set_option maxRecDepth 65536 in
theorem w_case : (Jvm.Cond.and given_1 narrow_1).before args0 about1 = true := by decide +kernel
set_option maxRecDepth 65536 in
theorem w_consts : constsHeld consts_1 about1 := Jvm.Lit.constsHeldB_iff.mp (by decide +kernel)
theorem w_applies : (headSpec (Jvm.Cond.code x code maxLocals ret :: tables_1) room_1).applies x e0.platform about1 = true :=
  (Spec.applies_iff w_frames).mpr ⟨w_running, w_runnable, w_alone, w_named, w_hears, w_ripe, w_room, w_tables⟩
theorem atStart : AtStart classFile x code maxLocals ret World_1 tables_1 room_1 Calls_1 rest_1 Pre_1 launch0 p0 e0 about1 theMethod args0 below0 :=
  ⟨lists_1, trivial, launch0.admits_env _ _ _, launch0.least_env, fairChoices_fair.cas, fairChoices_fair.clock, w_frames, w_args, w_heap, w_applies, ⟨w_consts, trivial⟩, w_rest, w_case⟩
end start1
theorem witness_1 : WitnessClaimed_1 := ⟨start1.p0, start1.e0, start1.about1, start1.theMethod, start1.args0, start1.below0, start1.atStart⟩
end Jvm.Pilot.@@N@@
