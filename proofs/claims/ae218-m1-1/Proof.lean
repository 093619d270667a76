import JvmDerived
import JvmDerived.Pilot.@@N@@Statement
import JvmDerived.Pilot.@@N@@Code
set_option linter.unusedVariables false
set_option linter.unusedSimpArgs false
namespace Jvm.WK
open Jvm Sem ClassFile Op Lib Jvm.Free Jvm.Stand Jvm.LawKit Jvm.RoadKit
/-- the fixed surroundings of a walk: program, launch, environment, first state, method, arguments, frames below, method record, code record -/
abbrev Cx := Program × Launch × Env × State × MethodId × Array Value × List Frame × Method × Code
/-- FROM HERE THE BODY RUNS TO ITS RETURN, AND WHAT IT LEAVES MEETS Q: h the heap here, pc, Ls, st the top frame; cl, sl: what was made so far; only cells from n0 on are written. -/
def WPG (C : Cx) (Z : State) (code : ByteArray) (ml : Nat) (own : String) (rt : Option FieldType) (nm : String) (R : Room) (n0 : Nat) (G : State → Option Value → List Loc → Prop) (cl sl : Nat) (h : Heap) (pc : Nat) (Ls : Array Slot) (st : List Value) : Prop :=
  C.1.tables.exec = Jvm.exec → C.2.2.2.2.2.2.2.2.code = code → C.2.2.2.2.2.2.2.2.maxLocals = ml → C.2.2.2.1.vm.findClass own = some C.2.2.2.2.1.cls → Z.Warmed39 C.2.2.2.1.vm → C.2.2.2.2.2.2.2.1.sig.returnType = rt → C.2.2.2.2.2.2.2.1.locks = false → C.2.2.2.2.2.2.2.1.name = nm →
  ∀ (T : State) (locs : List Loc), Stand C.1 C.2.1 C.2.2.1 R C.2.2.2.1 C.2.2.2.2.1 C.2.2.2.2.2.1 C.2.2.2.2.2.2.1 C.2.2.2.2.2.2.2.1 C.2.2.2.2.2.2.2.2 T locs cl sl → T.heap = h → Fr n0 locs →
    ∃ (s₂ : State) (v : Option Value) (L : List Loc), Steps C.1.tables C.2.2.1 C.2.2.2.2.2.2.1 (T.setTop (mkF C.2.2.2.2.1 pc Ls st)) s₂ ∧ s₂.status = .running ∧ Ended s₂ C.2.2.2.2.2.2.1 (.returned v) ∧ G s₂ v L
/-- the plain end: Q of what it leaves; the tables warmer, the frame kept -/
abbrev EndF (C : Cx) (R : Room) (n0 : Nat) (Q : Option Value → Heap → Prop) : State → Option Value → List Loc → Prop := fun s₂ v L => Q v s₂.heap ∧ Fr n0 L ∧ FrameEnd C.2.2.2.1 (.returned v) s₂ L R.cells R.slots
abbrev WP (C : Cx) (Z : State) (code : ByteArray) (ml : Nat) (own : String) (rt : Option FieldType) (nm : String) (R : Room) (n0 : Nat) (Q : Option Value → Heap → Prop) (cl sl : Nat) (h : Heap) (pc : Nat) (Ls : Array Slot) (st : List Value) : Prop :=
  WPG C Z code ml own rt nm R n0 (EndF C R n0 Q) cl sl h pc Ls st
/-- WHAT A METHOD DOES FROM THE HEAP h0 WITH THE ARGUMENTS a -/
def Does (l : Launch) (Z : State) (y : MethodName) (code : ByteArray) (ml : Nat) (rt : Option FieldType) (R : Room) (n0 : Nat) (as' : Array Value) (h0 : Heap) (Q : Option Value → Heap → Prop) : Prop :=
  ∀ ws : List Jvm.Cond, MetFree l y (head1 (Jvm.Cond.code y code ml rt :: ws) R) (fun a U => a = as' ∧ Z.Warmed39 U.vm ∧ U.heap = h0) (fun _ _ _ _ _ => True)
    (fun _ U o U' => ∃ v L, o = .returned v ∧ (Q v U'.heap ∧ Fr n0 L) ∧ FrameEnd U o U' L R.cells R.slots)
theorem Does.of_wp {l : Launch} {Z : State} {y : MethodName} {code : ByteArray} {ml : Nat} {rt : Option FieldType} {R : Room} {n0 : Nat} {as' : Array Value} {h0 : Heap} {Q : Option Value → Heap → Prop} (hpl : plainFor y = true) {Ls : Array Slot} (hef : ∀ m, entryFrame m as' ml = mkF m 0 Ls [])
    (hW : ∀ C : Cx, WP C Z code ml y.cls rt y.name R n0 Q 0 0 h0 0 Ls []) : Does l Z y code ml rt R n0 as' h0 Q := by
  intro ws
  refine MetFree.of_bodySF hpl hisR ?_
  intro p e s m args below meth c s₁ Bd hml0 hP hK
  obtain ⟨rfl, hZ, hh⟩ := hP
  have X0 : Stand p l e R s m args below meth c s₁ [] 0 0 := Stand.of_body Bd
  have e0 : s₁.heap = h0 := by rw [← hh, Bd.state]; rfl
  obtain ⟨s₂, v, L, h1, h2, h3, h4, h5, h6⟩ := hW (p, l, e, s, m, args, below, meth, c) Bd.exec Bd.bytes hml0 (findClass_of_methodNamed Bd.named) hZ Bd.returns Bd.notSynchronized (name_of_methodNamed Bd.named Bd.method).1 s₁ [] X0 e0 (Fr.nil n0)
  exact ⟨s₂, _, castTop (hef m) h1, h2, h3, v, L, rfl, ⟨h4, h5⟩, h6⟩
section Rules
variable {C : Cx} {Z : State} {code : ByteArray} {ml : Nat} {own : String} {rt : Option FieldType} {nm : String} {R : Room} {n0 : Nat} {Q : Option Value → Heap → Prop} {G : State → Option Value → List Loc → Prop} {cl sl : Nat} {h : Heap} {pc pc' : Nat} {Ls Ls' : Array Slot} {st st' : List Value} {a0 : Array Value}
theorem WPG.step {cl' sl' : Nat} {h' : Heap} (f : ∀ {p : Program} {l : Launch} {e : Env} {s : State} {m : MethodId} {args : Array Value} {below : List Frame} {meth : Method} {c : Code} {T : State} {locs : List Loc}, Stand p l e R s m args below meth c T locs cl sl → p.tables.exec = Jvm.exec → c.code = code → c.maxLocals = ml → s.vm.findClass own = some m.cls → Z.Warmed39 s.vm → meth.name = nm → T.heap = h → Fr n0 locs →
      ∃ T' locs', Stand p l e R s m args below meth c T' locs' cl' sl' ∧ T'.heap = h' ∧ Fr n0 locs' ∧ ∀ t, Steps p.tables e below (T'.setTop (mkF m pc' Ls' st')) t → Steps p.tables e below (T.setTop (mkF m pc Ls st)) t)
    (hr : WPG C Z code ml own rt nm R n0 G cl' sl' h' pc' Ls' st') : WPG C Z code ml own rt nm R n0 G cl sl h pc Ls st := by
  intro k1 k2 k3 k4 k5 k6 k7 k8 T locs X e N
  obtain ⟨T', locs', X', e', N', k⟩ := f X k1 k2 k3 k4 k5 k8 e N
  obtain ⟨s₂, v, L, h1, h2⟩ := hr k1 k2 k3 k4 k5 k6 k7 k8 T' locs' X' e' N'
  exact ⟨s₂, v, L, k _ h1, h2⟩
theorem WPG.pure (f : ∀ {p : Program} {l : Launch} {e : Env} {s : State} {m : MethodId} {args : Array Value} {below : List Frame} {meth : Method} {c : Code} {T : State} {locs : List Loc}, Stand p l e R s m args below meth c T locs cl sl → p.tables.exec = Jvm.exec → c.code = code → s.vm.findClass own = some m.cls → Z.Warmed39 s.vm → T.heap = h →
      ∀ t, Steps p.tables e below (T.setTop (mkF m pc' Ls' st')) t → Steps p.tables e below (T.setTop (mkF m pc Ls st)) t)
    (hr : WPG C Z code ml own rt nm R n0 G cl sl h pc' Ls' st') : WPG C Z code ml own rt nm R n0 G cl sl h pc Ls st :=
  WPG.step (fun X hx hc _ ho hZ _ e N => ⟨_, _, X, e, N, f X hx hc ho hZ e⟩) hr
/-- the heap's name may be turned -/
theorem WP.cast {h' : Heap} (e : h = h') (hr : WPG C Z code ml own rt nm R n0 G cl sl h' pc Ls st) : WPG C Z code ml own rt nm R n0 G cl sl h pc Ls st := e ▸ hr
theorem WP.castS (e : st = st') (hr : WPG C Z code ml own rt nm R n0 G cl sl h pc Ls st') : WPG C Z code ml own rt nm R n0 G cl sl h pc Ls st := e ▸ hr
theorem WP.castL (e : Ls = Ls') (hr : WPG C Z code ml own rt nm R n0 G cl sl h pc Ls' st) : WPG C Z code ml own rt nm R n0 G cl sl h pc Ls st := e ▸ hr
theorem WP.more {cl' sl' : Nat} (h1 : cl ≤ cl') (h2 : sl ≤ sl') (hr : WPG C Z code ml own rt nm R n0 G cl' sl' h pc Ls st) : WPG C Z code ml own rt nm R n0 G cl sl h pc Ls st := by
  intro k1 k2 k3 k4 k5 k6 k7 k8 T locs X e N
  exact hr k1 k2 k3 k4 k5 k6 k7 k8 T locs ⟨X.admits, X.cas, X.clock, X.frames, X.room, X.hears, X.method, X.code, X.here, X.tail, X.warmed, X.limits, X.bytes, X.same.mono h1 h2⟩ e N
theorem WP.iloadN {k : Fin 4} {v : Int32} (hd : decode code pc = .ok (.iload_n k, 1)) (hp : pc + 1 = pc') (hl : Ls[k.val]? = some (.val (.int v))) (hr : WPG C Z code ml own rt nm R n0 G cl sl h pc' Ls (.int v :: st)) : WPG C Z code ml own rt nm R n0 G cl sl h pc Ls st := by
  subst hp
  exact hr.pure fun X hx hby hown hZ eT t q => XS.iloadN X.here hx rfl (hb hby hd) hl q
theorem WP.iload {k : Nat} {v : Int32} (hd : decode code pc = .ok (.iload k, 2)) (hp : pc + 2 = pc') (hl : Ls[k]? = some (.val (.int v))) (hr : WPG C Z code ml own rt nm R n0 G cl sl h pc' Ls (.int v :: st)) : WPG C Z code ml own rt nm R n0 G cl sl h pc Ls st := by
  subst hp
  exact hr.pure fun X hx hby hown hZ eT t q => XS.iload X.here hx rfl (hb hby hd) hl q
theorem WP.lloadN {k : Fin 4} {v : Int64} (hd : decode code pc = .ok (.lload_n k, 1)) (hp : pc + 1 = pc') (hl : Ls[k.val]? = some (.val (.long v))) (hr : WPG C Z code ml own rt nm R n0 G cl sl h pc' Ls (.long v :: st)) : WPG C Z code ml own rt nm R n0 G cl sl h pc Ls st := by
  subst hp
  exact hr.pure fun X hx hby hown hZ eT t q => XS.lloadN X.here hx rfl (hb hby hd) hl q
theorem WP.lload {k : Nat} {v : Int64} (hd : decode code pc = .ok (.lload k, 2)) (hp : pc + 2 = pc') (hl : Ls[k]? = some (.val (.long v))) (hr : WPG C Z code ml own rt nm R n0 G cl sl h pc' Ls (.long v :: st)) : WPG C Z code ml own rt nm R n0 G cl sl h pc Ls st := by
  subst hp
  exact hr.pure fun X hx hby hown hZ eT t q => XS.lload X.here hx rfl (hb hby hd) hl q
theorem WP.dloadN {k : Fin 4} {v : UInt64} (hd : decode code pc = .ok (.dload_n k, 1)) (hp : pc + 1 = pc') (hl : Ls[k.val]? = some (.val (.double v))) (hr : WPG C Z code ml own rt nm R n0 G cl sl h pc' Ls (.double v :: st)) : WPG C Z code ml own rt nm R n0 G cl sl h pc Ls st := by
  subst hp
  exact hr.pure fun X hx hby hown hZ eT t q => XS.dloadN X.here hx rfl (hb hby hd) hl q
theorem WP.dload {k : Nat} {v : UInt64} (hd : decode code pc = .ok (.dload k, 2)) (hp : pc + 2 = pc') (hl : Ls[k]? = some (.val (.double v))) (hr : WPG C Z code ml own rt nm R n0 G cl sl h pc' Ls (.double v :: st)) : WPG C Z code ml own rt nm R n0 G cl sl h pc Ls st := by
  subst hp
  exact hr.pure fun X hx hby hown hZ eT t q => XS.dload X.here hx rfl (hb hby hd) hl q
theorem WP.aloadN {k : Fin 4} {v : Value} (hd : decode code pc = .ok (.aload_n k, 1)) (hp : pc + 1 = pc') (hl : Ls[k.val]? = some (.val v)) (hv : v.isRef = true) (hr : WPG C Z code ml own rt nm R n0 G cl sl h pc' Ls (v :: st)) : WPG C Z code ml own rt nm R n0 G cl sl h pc Ls st := by
  subst hp
  exact hr.pure fun X hx hby hown hZ eT t q => XS.aloadN X.here hx rfl (hb hby hd) hl hv q
theorem WP.aload {k : Nat} {v : Value} (hd : decode code pc = .ok (.aload k, 2)) (hp : pc + 2 = pc') (hl : Ls[k]? = some (.val v)) (hv : v.isRef = true) (hr : WPG C Z code ml own rt nm R n0 G cl sl h pc' Ls (v :: st)) : WPG C Z code ml own rt nm R n0 G cl sl h pc Ls st := by
  subst hp
  exact hr.pure fun X hx hby hown hZ eT t q => XS.aload X.here hx rfl (hb hby hd) hl hv q
theorem WP.istoreN {k : Fin 4} {v : Int32} (hd : decode code pc = .ok (.istore_n k, 1)) (hp : pc + 1 = pc') (hl : storeLocals Ls k.val (.int v) = some Ls') (hr : WPG C Z code ml own rt nm R n0 G cl sl h pc' Ls' st) : WPG C Z code ml own rt nm R n0 G cl sl h pc Ls (.int v :: st) := by
  subst hp
  exact hr.pure fun X hx hby hown hZ eT t q => XS.istoreN X.here hx rfl (hb hby hd) rfl hl q
theorem WP.istore {k : Nat} {v : Int32} (hd : decode code pc = .ok (.istore k, 2)) (hp : pc + 2 = pc') (hl : storeLocals Ls k (.int v) = some Ls') (hr : WPG C Z code ml own rt nm R n0 G cl sl h pc' Ls' st) : WPG C Z code ml own rt nm R n0 G cl sl h pc Ls (.int v :: st) := by
  subst hp
  exact hr.pure fun X hx hby hown hZ eT t q => XS.istore X.here hx rfl (hb hby hd) rfl hl q
theorem WP.lstoreN {k : Fin 4} {v : Int64} (hd : decode code pc = .ok (.lstore_n k, 1)) (hp : pc + 1 = pc') (hl : storeLocals Ls k.val (.long v) = some Ls') (hr : WPG C Z code ml own rt nm R n0 G cl sl h pc' Ls' st) : WPG C Z code ml own rt nm R n0 G cl sl h pc Ls (.long v :: st) := by
  subst hp
  exact hr.pure fun X hx hby hown hZ eT t q => XS.lstoreN X.here hx rfl (hb hby hd) rfl hl q
theorem WP.lstore {k : Nat} {v : Int64} (hd : decode code pc = .ok (.lstore k, 2)) (hp : pc + 2 = pc') (hl : storeLocals Ls k (.long v) = some Ls') (hr : WPG C Z code ml own rt nm R n0 G cl sl h pc' Ls' st) : WPG C Z code ml own rt nm R n0 G cl sl h pc Ls (.long v :: st) := by
  subst hp
  exact hr.pure fun X hx hby hown hZ eT t q => XS.lstore X.here hx rfl (hb hby hd) rfl hl q
theorem WP.dstoreN {k : Fin 4} {v : UInt64} (hd : decode code pc = .ok (.dstore_n k, 1)) (hp : pc + 1 = pc') (hl : storeLocals Ls k.val (.double v) = some Ls') (hr : WPG C Z code ml own rt nm R n0 G cl sl h pc' Ls' st) : WPG C Z code ml own rt nm R n0 G cl sl h pc Ls (.double v :: st) := by
  subst hp
  exact hr.pure fun X hx hby hown hZ eT t q => XS.dstoreN X.here hx rfl (hb hby hd) rfl hl q
theorem WP.dstore {k : Nat} {v : UInt64} (hd : decode code pc = .ok (.dstore k, 2)) (hp : pc + 2 = pc') (hl : storeLocals Ls k (.double v) = some Ls') (hr : WPG C Z code ml own rt nm R n0 G cl sl h pc' Ls' st) : WPG C Z code ml own rt nm R n0 G cl sl h pc Ls (.double v :: st) := by
  subst hp
  exact hr.pure fun X hx hby hown hZ eT t q => XS.dstore X.here hx rfl (hb hby hd) rfl hl q
theorem WP.astoreN {k : Fin 4} {v : Value} (hd : decode code pc = .ok (.astore_n k, 1)) (hp : pc + 1 = pc') (hv : v.isRef = true) (hl : storeLocals Ls k.val v = some Ls') (hr : WPG C Z code ml own rt nm R n0 G cl sl h pc' Ls' st) : WPG C Z code ml own rt nm R n0 G cl sl h pc Ls (v :: st) := by
  subst hp
  exact hr.pure fun X hx hby hown hZ eT t q => XS.astoreN X.here hx rfl (hb hby hd) rfl hv hl q
theorem WP.astore {k : Nat} {v : Value} (hd : decode code pc = .ok (.astore k, 2)) (hp : pc + 2 = pc') (hv : v.isRef = true) (hl : storeLocals Ls k v = some Ls') (hr : WPG C Z code ml own rt nm R n0 G cl sl h pc' Ls' st) : WPG C Z code ml own rt nm R n0 G cl sl h pc Ls (v :: st) := by
  subst hp
  exact hr.pure fun X hx hby hown hZ eT t q => XS.astore X.here hx rfl (hb hby hd) rfl hv hl q
theorem WP.iconst {i : Int} {z : Int32} (hd : decode code pc = .ok (.iconst i, 1)) (hp : pc + 1 = pc') (hz : Int32.ofInt i = z) (hr : WPG C Z code ml own rt nm R n0 G cl sl h pc' Ls (.int z :: st)) : WPG C Z code ml own rt nm R n0 G cl sl h pc Ls st := by
  subst hp
  subst hz
  exact hr.pure fun X hx hby hown hZ eT t q => XS.iconst X.here hx rfl (hb hby hd) q
theorem WP.bipush {i : Int} {z : Int32} (hd : decode code pc = .ok (.bipush i, 2)) (hp : pc + 2 = pc') (hz : (Int8.ofInt i).toInt32 = z) (hr : WPG C Z code ml own rt nm R n0 G cl sl h pc' Ls (.int z :: st)) : WPG C Z code ml own rt nm R n0 G cl sl h pc Ls st := by
  subst hp
  subst hz
  exact hr.pure fun X hx hby hown hZ eT t q => XS.bipush X.here hx rfl (hb hby hd) q
theorem WP.sipush {i : Int} {z : Int32} (hd : decode code pc = .ok (.sipush i, 3)) (hp : pc + 3 = pc') (hz : (Int16.ofInt i).toInt32 = z) (hr : WPG C Z code ml own rt nm R n0 G cl sl h pc' Ls (.int z :: st)) : WPG C Z code ml own rt nm R n0 G cl sl h pc Ls st := by
  subst hp
  subst hz
  exact hr.pure fun X hx hby hown hZ eT t q => XS.sipush X.here hx rfl (hb hby hd) q
theorem WP.lconst {k : Fin 2} {z : Int64} (hd : decode code pc = .ok (.lconst k, 1)) (hp : pc + 1 = pc') (hz : Int64.ofNat k = z) (hr : WPG C Z code ml own rt nm R n0 G cl sl h pc' Ls (.long z :: st)) : WPG C Z code ml own rt nm R n0 G cl sl h pc Ls st := by
  subst hp
  subst hz
  exact hr.pure fun X hx hby hown hZ eT t q => XS.lconst X.here hx rfl (hb hby hd) q
theorem WP.aconstNull  (hd : decode code pc = .ok (.aconst_null, 1)) (hp : pc + 1 = pc') (hr : WPG C Z code ml own rt nm R n0 G cl sl h pc' Ls (.null :: st)) : WPG C Z code ml own rt nm R n0 G cl sl h pc Ls st := by
  subst hp
  exact hr.pure fun X hx hby hown hZ eT t q => XS.aconstNull X.here hx rfl (hb hby hd) q
theorem WP.ldcI {i : Nat} {v : Int32} (hd : decode code pc = .ok (.ldc i, 2)) (hp : pc + 2 = pc') (w : (Jvm.Cond.constant own i v).before a0 Z = true) (hr : WPG C Z code ml own rt nm R n0 G cl sl h pc' Ls (.int v :: st)) : WPG C Z code ml own rt nm R n0 G cl sl h pc Ls st := by
  subst hp
  exact hr.pure fun X hx hby hown hZ eT t q => X.ldcInt hx hown (mvT hZ w) (g := mkF _ pc Ls st) rfl (hb hby hd) t q
theorem WP.ldcWI {i : Nat} {v : Int32} (hd : decode code pc = .ok (.ldc_w i, 3)) (hp : pc + 3 = pc') (w : (Jvm.Cond.constant own i v).before a0 Z = true) (hr : WPG C Z code ml own rt nm R n0 G cl sl h pc' Ls (.int v :: st)) : WPG C Z code ml own rt nm R n0 G cl sl h pc Ls st := by
  subst hp
  exact hr.pure fun X hx hby hown hZ eT t q => X.ldcWInt hx hown (mvT hZ w) (g := mkF _ pc Ls st) rfl (hb hby hd) t q
theorem WP.ldc2J {i : Nat} {v : Int64} (hd : decode code pc = .ok (.ldc2_w i, 3)) (hp : pc + 3 = pc') (w : (Jvm.Cond.constantLong own i v).before a0 Z = true) (hr : WPG C Z code ml own rt nm R n0 G cl sl h pc' Ls (.long v :: st)) : WPG C Z code ml own rt nm R n0 G cl sl h pc Ls st := by
  subst hp
  exact hr.pure fun X hx hby hown hZ eT t q => X.ldc2Long hx hown (mvT hZ w) (g := mkF _ pc Ls st) rfl (hb hby hd) t q
theorem WP.iadd {x y : Int32} (hd : decode code pc = .ok (.iadd, 1)) (hp : pc + 1 = pc') (hr : WPG C Z code ml own rt nm R n0 G cl sl h pc' Ls (.int (x + y) :: st)) : WPG C Z code ml own rt nm R n0 G cl sl h pc Ls (.int y :: .int x :: st) := by
  subst hp
  exact hr.pure fun X hx hby hown hZ eT t q => XS.iadd X.here hx rfl (hb hby hd) rfl q
theorem WP.isub {x y : Int32} (hd : decode code pc = .ok (.isub, 1)) (hp : pc + 1 = pc') (hr : WPG C Z code ml own rt nm R n0 G cl sl h pc' Ls (.int (x - y) :: st)) : WPG C Z code ml own rt nm R n0 G cl sl h pc Ls (.int y :: .int x :: st) := by
  subst hp
  exact hr.pure fun X hx hby hown hZ eT t q => XS.isub X.here hx rfl (hb hby hd) rfl q
theorem WP.imul {x y : Int32} (hd : decode code pc = .ok (.imul, 1)) (hp : pc + 1 = pc') (hr : WPG C Z code ml own rt nm R n0 G cl sl h pc' Ls (.int (x * y) :: st)) : WPG C Z code ml own rt nm R n0 G cl sl h pc Ls (.int y :: .int x :: st) := by
  subst hp
  exact hr.pure fun X hx hby hown hZ eT t q => XS.imul X.here hx rfl (hb hby hd) rfl q
theorem WP.iand {x y : Int32} (hd : decode code pc = .ok (.iand, 1)) (hp : pc + 1 = pc') (hr : WPG C Z code ml own rt nm R n0 G cl sl h pc' Ls (.int (x &&& y) :: st)) : WPG C Z code ml own rt nm R n0 G cl sl h pc Ls (.int y :: .int x :: st) := by
  subst hp
  exact hr.pure fun X hx hby hown hZ eT t q => XS.iand X.here hx rfl (hb hby hd) rfl q
theorem WP.ior {x y : Int32} (hd : decode code pc = .ok (.ior, 1)) (hp : pc + 1 = pc') (hr : WPG C Z code ml own rt nm R n0 G cl sl h pc' Ls (.int (x ||| y) :: st)) : WPG C Z code ml own rt nm R n0 G cl sl h pc Ls (.int y :: .int x :: st) := by
  subst hp
  exact hr.pure fun X hx hby hown hZ eT t q => XS.ior X.here hx rfl (hb hby hd) rfl q
theorem WP.ixor {x y : Int32} (hd : decode code pc = .ok (.ixor, 1)) (hp : pc + 1 = pc') (hr : WPG C Z code ml own rt nm R n0 G cl sl h pc' Ls (.int (x ^^^ y) :: st)) : WPG C Z code ml own rt nm R n0 G cl sl h pc Ls (.int y :: .int x :: st) := by
  subst hp
  exact hr.pure fun X hx hby hown hZ eT t q => XS.ixor X.here hx rfl (hb hby hd) rfl q
theorem WP.ishl {x y : Int32} (hd : decode code pc = .ok (.ishl, 1)) (hp : pc + 1 = pc') (hr : WPG C Z code ml own rt nm R n0 G cl sl h pc' Ls (.int (x <<< (y &&& 31)) :: st)) : WPG C Z code ml own rt nm R n0 G cl sl h pc Ls (.int y :: .int x :: st) := by
  subst hp
  exact hr.pure fun X hx hby hown hZ eT t q => XS.ishl X.here hx rfl (hb hby hd) rfl q
theorem WP.ishr {x y : Int32} (hd : decode code pc = .ok (.ishr, 1)) (hp : pc + 1 = pc') (hr : WPG C Z code ml own rt nm R n0 G cl sl h pc' Ls (.int (x >>> (y &&& 31)) :: st)) : WPG C Z code ml own rt nm R n0 G cl sl h pc Ls (.int y :: .int x :: st) := by
  subst hp
  exact hr.pure fun X hx hby hown hZ eT t q => XS.ishr X.here hx rfl (hb hby hd) rfl q
theorem WP.iushr {x y : Int32} (hd : decode code pc = .ok (.iushr, 1)) (hp : pc + 1 = pc') (hr : WPG C Z code ml own rt nm R n0 G cl sl h pc' Ls (.int ((x.toUInt32 >>> (y &&& 31).toUInt32).toInt32) :: st)) : WPG C Z code ml own rt nm R n0 G cl sl h pc Ls (.int y :: .int x :: st) := by
  subst hp
  exact hr.pure fun X hx hby hown hZ eT t q => XS.iushr X.here hx rfl (hb hby hd) rfl q
theorem WP.ladd {x y : Int64} (hd : decode code pc = .ok (.ladd, 1)) (hp : pc + 1 = pc') (hr : WPG C Z code ml own rt nm R n0 G cl sl h pc' Ls (.long (x + y) :: st)) : WPG C Z code ml own rt nm R n0 G cl sl h pc Ls (.long y :: .long x :: st) := by
  subst hp
  exact hr.pure fun X hx hby hown hZ eT t q => XS.ladd X.here hx rfl (hb hby hd) rfl q
theorem WP.lsub {x y : Int64} (hd : decode code pc = .ok (.lsub, 1)) (hp : pc + 1 = pc') (hr : WPG C Z code ml own rt nm R n0 G cl sl h pc' Ls (.long (x - y) :: st)) : WPG C Z code ml own rt nm R n0 G cl sl h pc Ls (.long y :: .long x :: st) := by
  subst hp
  exact hr.pure fun X hx hby hown hZ eT t q => XS.lsub X.here hx rfl (hb hby hd) rfl q
theorem WP.lmul {x y : Int64} (hd : decode code pc = .ok (.lmul, 1)) (hp : pc + 1 = pc') (hr : WPG C Z code ml own rt nm R n0 G cl sl h pc' Ls (.long (x * y) :: st)) : WPG C Z code ml own rt nm R n0 G cl sl h pc Ls (.long y :: .long x :: st) := by
  subst hp
  exact hr.pure fun X hx hby hown hZ eT t q => XS.lmul X.here hx rfl (hb hby hd) rfl q
theorem WP.land {x y : Int64} (hd : decode code pc = .ok (.land, 1)) (hp : pc + 1 = pc') (hr : WPG C Z code ml own rt nm R n0 G cl sl h pc' Ls (.long (x &&& y) :: st)) : WPG C Z code ml own rt nm R n0 G cl sl h pc Ls (.long y :: .long x :: st) := by
  subst hp
  exact hr.pure fun X hx hby hown hZ eT t q => XS.land X.here hx rfl (hb hby hd) rfl q
theorem WP.lor {x y : Int64} (hd : decode code pc = .ok (.lor, 1)) (hp : pc + 1 = pc') (hr : WPG C Z code ml own rt nm R n0 G cl sl h pc' Ls (.long (x ||| y) :: st)) : WPG C Z code ml own rt nm R n0 G cl sl h pc Ls (.long y :: .long x :: st) := by
  subst hp
  exact hr.pure fun X hx hby hown hZ eT t q => XS.lor X.here hx rfl (hb hby hd) rfl q
theorem WP.lxor {x y : Int64} (hd : decode code pc = .ok (.lxor, 1)) (hp : pc + 1 = pc') (hr : WPG C Z code ml own rt nm R n0 G cl sl h pc' Ls (.long (x ^^^ y) :: st)) : WPG C Z code ml own rt nm R n0 G cl sl h pc Ls (.long y :: .long x :: st) := by
  subst hp
  exact hr.pure fun X hx hby hown hZ eT t q => XS.lxor X.here hx rfl (hb hby hd) rfl q
theorem WP.lshl {x : Int64} {y : Int32} (hd : decode code pc = .ok (.lshl, 1)) (hp : pc + 1 = pc') (hr : WPG C Z code ml own rt nm R n0 G cl sl h pc' Ls (.long (x <<< (y &&& 0x3f).toInt64) :: st)) : WPG C Z code ml own rt nm R n0 G cl sl h pc Ls (.int y :: .long x :: st) := by
  subst hp
  exact hr.pure fun X hx hby hown hZ eT t q => XS.lshl X.here hx rfl (hb hby hd) rfl q
theorem WP.lshr {x : Int64} {y : Int32} (hd : decode code pc = .ok (.lshr, 1)) (hp : pc + 1 = pc') (hr : WPG C Z code ml own rt nm R n0 G cl sl h pc' Ls (.long (x >>> (y &&& 0x3f).toInt64) :: st)) : WPG C Z code ml own rt nm R n0 G cl sl h pc Ls (.int y :: .long x :: st) := by
  subst hp
  exact hr.pure fun X hx hby hown hZ eT t q => XS.lshr X.here hx rfl (hb hby hd) rfl q
theorem WP.lushr {x : Int64} {y : Int32} (hd : decode code pc = .ok (.lushr, 1)) (hp : pc + 1 = pc') (hr : WPG C Z code ml own rt nm R n0 G cl sl h pc' Ls (.long ((x.toUInt64 >>> (y &&& 0x3f).toInt64.toUInt64).toInt64) :: st)) : WPG C Z code ml own rt nm R n0 G cl sl h pc Ls (.int y :: .long x :: st) := by
  subst hp
  exact hr.pure fun X hx hby hown hZ eT t q => XS.lushr X.here hx rfl (hb hby hd) rfl q
theorem WP.idiv {x y : Int32} (hd : decode code pc = .ok (.idiv, 1)) (hp : pc + 1 = pc') (hy : y ≠ 0) (hr : WPG C Z code ml own rt nm R n0 G cl sl h pc' Ls (.int (x / y) :: st)) : WPG C Z code ml own rt nm R n0 G cl sl h pc Ls (.int y :: .int x :: st) := by
  subst hp
  exact hr.pure fun X hx hby hown hZ eT t q => XS.idiv X.here hx rfl (hb hby hd) rfl hy q
theorem WP.irem {x y : Int32} (hd : decode code pc = .ok (.irem, 1)) (hp : pc + 1 = pc') (hy : y ≠ 0) (hr : WPG C Z code ml own rt nm R n0 G cl sl h pc' Ls (.int (x % y) :: st)) : WPG C Z code ml own rt nm R n0 G cl sl h pc Ls (.int y :: .int x :: st) := by
  subst hp
  exact hr.pure fun X hx hby hown hZ eT t q => iremM X hx rfl (hb hby hd) rfl hy q
theorem WP.ldiv {x y : Int64} (hd : decode code pc = .ok (.ldiv, 1)) (hp : pc + 1 = pc') (hy : y ≠ 0) (hr : WPG C Z code ml own rt nm R n0 G cl sl h pc' Ls (.long (x / y) :: st)) : WPG C Z code ml own rt nm R n0 G cl sl h pc Ls (.long y :: .long x :: st) := by
  subst hp
  exact hr.pure fun X hx hby hown hZ eT t q => XS.ldiv X.here hx rfl (hb hby hd) rfl hy q
theorem WP.lrem {x y : Int64} (hd : decode code pc = .ok (.lrem, 1)) (hp : pc + 1 = pc') (hy : y ≠ 0) (hr : WPG C Z code ml own rt nm R n0 G cl sl h pc' Ls (.long (x % y) :: st)) : WPG C Z code ml own rt nm R n0 G cl sl h pc Ls (.long y :: .long x :: st) := by
  subst hp
  exact hr.pure fun X hx hby hown hZ eT t q => XS.lrem X.here hx rfl (hb hby hd) rfl hy (by rw [lrem_mod]; exact q)
theorem WP.ineg {x : Int32} (hd : decode code pc = .ok (.ineg, 1)) (hp : pc + 1 = pc') (hr : WPG C Z code ml own rt nm R n0 G cl sl h pc' Ls (.int (-x) :: st)) : WPG C Z code ml own rt nm R n0 G cl sl h pc Ls (.int x :: st) := by
  subst hp
  exact hr.pure fun X hx hby hown hZ eT t q => XS.ineg X.here hx rfl (hb hby hd) rfl q
theorem WP.lneg {x : Int64} (hd : decode code pc = .ok (.lneg, 1)) (hp : pc + 1 = pc') (hr : WPG C Z code ml own rt nm R n0 G cl sl h pc' Ls (.long (-x) :: st)) : WPG C Z code ml own rt nm R n0 G cl sl h pc Ls (.long x :: st) := by
  subst hp
  exact hr.pure fun X hx hby hown hZ eT t q => XS.lneg X.here hx rfl (hb hby hd) rfl q
theorem WP.i2l {x : Int32} (hd : decode code pc = .ok (.i2l, 1)) (hp : pc + 1 = pc') (hr : WPG C Z code ml own rt nm R n0 G cl sl h pc' Ls (.long (x.toInt64) :: st)) : WPG C Z code ml own rt nm R n0 G cl sl h pc Ls (.int x :: st) := by
  subst hp
  exact hr.pure fun X hx hby hown hZ eT t q => XS.i2l X.here hx rfl (hb hby hd) rfl q
theorem WP.l2i {x : Int64} (hd : decode code pc = .ok (.l2i, 1)) (hp : pc + 1 = pc') (hr : WPG C Z code ml own rt nm R n0 G cl sl h pc' Ls (.int (x.toInt32) :: st)) : WPG C Z code ml own rt nm R n0 G cl sl h pc Ls (.long x :: st) := by
  subst hp
  exact hr.pure fun X hx hby hown hZ eT t q => XS.l2i X.here hx rfl (hb hby hd) rfl q
theorem WP.i2b {x : Int32} (hd : decode code pc = .ok (.i2b, 1)) (hp : pc + 1 = pc') (hr : WPG C Z code ml own rt nm R n0 G cl sl h pc' Ls (.int (x.toInt8.toInt32) :: st)) : WPG C Z code ml own rt nm R n0 G cl sl h pc Ls (.int x :: st) := by
  subst hp
  exact hr.pure fun X hx hby hown hZ eT t q => XS.i2b X.here hx rfl (hb hby hd) rfl q
theorem WP.i2c {x : Int32} (hd : decode code pc = .ok (.i2c, 1)) (hp : pc + 1 = pc') (hr : WPG C Z code ml own rt nm R n0 G cl sl h pc' Ls (.int (x.toUInt32.toUInt16.toUInt32.toInt32) :: st)) : WPG C Z code ml own rt nm R n0 G cl sl h pc Ls (.int x :: st) := by
  subst hp
  exact hr.pure fun X hx hby hown hZ eT t q => XS.i2c X.here hx rfl (hb hby hd) rfl q
theorem WP.i2s {x : Int32} (hd : decode code pc = .ok (.i2s, 1)) (hp : pc + 1 = pc') (hr : WPG C Z code ml own rt nm R n0 G cl sl h pc' Ls (.int (x.toInt16.toInt32) :: st)) : WPG C Z code ml own rt nm R n0 G cl sl h pc Ls (.int x :: st) := by
  subst hp
  exact hr.pure fun X hx hby hown hZ eT t q => XS.i2s X.here hx rfl (hb hby hd) rfl q
theorem WP.dup {x : Value} (hd : decode code pc = .ok (.dup, 1)) (hp : pc + 1 = pc') (hc : x.category = 1) (hr : WPG C Z code ml own rt nm R n0 G cl sl h pc' Ls (x :: x :: st)) : WPG C Z code ml own rt nm R n0 G cl sl h pc Ls (x :: st) := by
  subst hp
  exact hr.pure fun X hx hby hown hZ eT t q => XS.dup X.here hx rfl (hb hby hd) rfl hc q
theorem WP.pop {x : Value} (hd : decode code pc = .ok (.pop, 1)) (hp : pc + 1 = pc') (hc : x.category = 1) (hr : WPG C Z code ml own rt nm R n0 G cl sl h pc' Ls st) : WPG C Z code ml own rt nm R n0 G cl sl h pc Ls (x :: st) := by
  subst hp
  exact hr.pure fun X hx hby hown hZ eT t q => XS.pop X.here hx rfl (hb hby hd) rfl hc q
theorem WP.dupX1 {x y : Value} (hd : decode code pc = .ok (.dup_x1, 1)) (hp : pc + 1 = pc') (hc : x.category = 1) (hc' : y.category = 1) (hr : WPG C Z code ml own rt nm R n0 G cl sl h pc' Ls (x :: y :: x :: st)) : WPG C Z code ml own rt nm R n0 G cl sl h pc Ls (x :: y :: st) := by
  subst hp
  exact hr.pure fun X hx hby hown hZ eT t q => XS.dupX1 X.here hx rfl (hb hby hd) rfl hc hc' q
theorem WP.dup2 {x y : Value} (hd : decode code pc = .ok (.dup2, 1)) (hp : pc + 1 = pc') (hc : x.category = 1) (hc' : y.category = 1) (hr : WPG C Z code ml own rt nm R n0 G cl sl h pc' Ls (x :: y :: x :: y :: st)) : WPG C Z code ml own rt nm R n0 G cl sl h pc Ls (x :: y :: st) := by
  subst hp
  exact hr.pure fun X hx hby hown hZ eT t q => Jvm.Free.XT.dup2 X.here hx rfl (hb hby hd) rfl hc hc' q
theorem WP.dup2L {x : Int64} (hd : decode code pc = .ok (.dup2, 1)) (hp : pc + 1 = pc') (hr : WPG C Z code ml own rt nm R n0 G cl sl h pc' Ls (.long x :: .long x :: st)) : WPG C Z code ml own rt nm R n0 G cl sl h pc Ls (.long x :: st) := by
  subst hp
  exact hr.pure fun X hx hby hown hZ eT t q => Jvm.Free.XT.dup2L X.here hx rfl (hb hby hd) rfl q
theorem WP.iinc {k : Nat} {i : Int} {x z : Int32} (hd : decode code pc = .ok (.iinc k i, 3)) (hp : pc + 3 = pc') (hl : Ls[k]? = some (.val (.int x))) (hz : x + Int32.ofInt i = z) (hl' : storeLocals Ls k (.int z) = some Ls') (hr : WPG C Z code ml own rt nm R n0 G cl sl h pc' Ls' st) : WPG C Z code ml own rt nm R n0 G cl sl h pc Ls st := by
  subst hp
  subst hz
  exact hr.pure fun X hx hby hown hZ eT t q => XS.iinc X.here hx rfl (hb hby hd) hl hl' q
theorem WP.ldc2D {i : Nat} {v : UInt64} (hd : decode code pc = .ok (.ldc2_w i, 3)) (hp : pc + 3 = pc') (w : (Jvm.Cond.constantDouble own i v).before a0 Z = true) (hr : WPG C Z code ml own rt nm R n0 G cl sl h pc' Ls (.double v :: st)) : WPG C Z code ml own rt nm R n0 G cl sl h pc Ls st := by
  subst hp
  exact hr.pure fun X hx hby hown hZ eT t q => X.ldc2DoubleC hx hown (mvT hZ w) (g := mkF _ pc Ls st) rfl (hb hby hd) t q
theorem WP.dconst0 {v : UInt64} (hd : decode code pc = .ok (.dconst 0, 1)) (hp : pc + 1 = pc') (hv : FP.dconst0 = v) (hr : WPG C Z code ml own rt nm R n0 G cl sl h pc' Ls (.double v :: st)) : WPG C Z code ml own rt nm R n0 G cl sl h pc Ls st := by
  subst hp
  exact hr.pure fun X hx hby hown hZ eT t q => XS.dconst0 X.here hx rfl (hb hby hd) hv q
theorem WP.dconst1 {v : UInt64} (hd : decode code pc = .ok (.dconst 1, 1)) (hp : pc + 1 = pc') (hv : FP.dconst1 = v) (hr : WPG C Z code ml own rt nm R n0 G cl sl h pc' Ls (.double v :: st)) : WPG C Z code ml own rt nm R n0 G cl sl h pc Ls st := by
  subst hp
  exact hr.pure fun X hx hby hown hZ eT t q => XS.dconst1 X.here hx rfl (hb hby hd) hv q
theorem WP.i2d {x : Int32} {v : UInt64} (hd : decode code pc = .ok (.i2d, 1)) (hp : pc + 1 = pc') (hv : FP.i2d x = v) (hr : WPG C Z code ml own rt nm R n0 G cl sl h pc' Ls (.double v :: st)) : WPG C Z code ml own rt nm R n0 G cl sl h pc Ls (.int x :: st) := by
  subst hp
  exact hr.pure fun X hx hby hown hZ eT t q => XS.i2dS X.here hx rfl (hb hby hd) rfl hv q
theorem WP.l2d {x : Int64} {v : UInt64} (hd : decode code pc = .ok (.l2d, 1)) (hp : pc + 1 = pc') (hv : FP.l2d x = v) (hr : WPG C Z code ml own rt nm R n0 G cl sl h pc' Ls (.double v :: st)) : WPG C Z code ml own rt nm R n0 G cl sl h pc Ls (.long x :: st) := by
  subst hp
  exact hr.pure fun X hx hby hown hZ eT t q => XS.l2dS X.here hx rfl (hb hby hd) rfl hv q
theorem WP.dcmp {o : CmpOp} {x y : UInt64} {v : Int32} (hd : decode code pc = .ok (.dcmp o, 1)) (hp : pc + 1 = pc') (hv : cmpValue (FP.dcmp x y) o = v) (hr : WPG C Z code ml own rt nm R n0 G cl sl h pc' Ls (.int v :: st)) : WPG C Z code ml own rt nm R n0 G cl sl h pc Ls (.double y :: .double x :: st) := by
  subst hp
  exact hr.pure fun X hx hby hown hZ eT t q => XS.dcmpS X.here hx rfl (hb hby hd) rfl hv q
theorem WP.dadd {x y v : UInt64} (hd : decode code pc = .ok (.dadd, 1)) (hp : pc + 1 = pc') (hn : Jvm.Free.Fl.NoNaN64 (FP.dadd x y)) (hv : FP.dadd x y = v) (hr : WPG C Z code ml own rt nm R n0 G cl sl h pc' Ls (.double v :: st)) : WPG C Z code ml own rt nm R n0 G cl sl h pc Ls (.double y :: .double x :: st) := by
  subst hp
  exact hr.pure fun X hx hby hown hZ eT t q => XS.daddS X.here hx rfl (hb hby hd) rfl hn hv q
theorem WP.dsub {x y v : UInt64} (hd : decode code pc = .ok (.dsub, 1)) (hp : pc + 1 = pc') (hn : Jvm.Free.Fl.NoNaN64 (FP.dsub x y)) (hv : FP.dsub x y = v) (hr : WPG C Z code ml own rt nm R n0 G cl sl h pc' Ls (.double v :: st)) : WPG C Z code ml own rt nm R n0 G cl sl h pc Ls (.double y :: .double x :: st) := by
  subst hp
  exact hr.pure fun X hx hby hown hZ eT t q => XS.dsubS X.here hx rfl (hb hby hd) rfl hn hv q
theorem WP.dmul {x y v : UInt64} (hd : decode code pc = .ok (.dmul, 1)) (hp : pc + 1 = pc') (hn : Jvm.Free.Fl.NoNaN64 (FP.dmul x y)) (hv : FP.dmul x y = v) (hr : WPG C Z code ml own rt nm R n0 G cl sl h pc' Ls (.double v :: st)) : WPG C Z code ml own rt nm R n0 G cl sl h pc Ls (.double y :: .double x :: st) := by
  subst hp
  exact hr.pure fun X hx hby hown hZ eT t q => XS.dmulS X.here hx rfl (hb hby hd) rfl hn hv q
theorem WP.ddiv {x y v : UInt64} (hd : decode code pc = .ok (.ddiv, 1)) (hp : pc + 1 = pc') (hn : Jvm.Free.Fl.NoNaN64 (FP.ddiv x y)) (hv : FP.ddiv x y = v) (hr : WPG C Z code ml own rt nm R n0 G cl sl h pc' Ls (.double v :: st)) : WPG C Z code ml own rt nm R n0 G cl sl h pc Ls (.double y :: .double x :: st) := by
  subst hp
  exact hr.pure fun X hx hby hown hZ eT t q => XS.ddivS X.here hx rfl (hb hby hd) rfl hn hv q
theorem WP.lcmp {x y : Int64} (hd : decode code pc = .ok (.lcmp, 1)) (hp : pc + 1 = pc') (hr : WPG C Z code ml own rt nm R n0 G cl sl h pc' Ls (.int (lcmpW x y) :: st)) : WPG C Z code ml own rt nm R n0 G cl sl h pc Ls (.long y :: .long x :: st) := by
  subst hp
  exact hr.pure fun X hx hby hown hZ eT t q => XS.lcmp X.here hx rfl (hb hby hd) rfl q
theorem WP.goto {o : Int} (hd : decode code pc = .ok (.goto o, 3)) (ho : 0 ≤ (pc : Int) + o) (hp : ((pc : Int) + o).toNat = pc') (hr : WPG C Z code ml own rt nm R n0 G cl sl h pc' Ls st) : WPG C Z code ml own rt nm R n0 G cl sl h pc Ls st :=
  hr.pure fun X hx hby hown hZ eT t q => XS.goto X.here hx rfl (pc0 := pc) rfl (hb hby hd) ho hp q
theorem WP.icmp {pc1 pc2 : Nat} {x y : Int32} {cd : ClassFile.Cond} {o : Int} (hd : decode code pc = .ok (.if_icmp cd o, 3)) (ho : 0 ≤ (pc : Int) + o) (hp : ((pc : Int) + o).toNat = pc1) (hp2 : pc + 3 = pc2) (hy : if_icmp.holds cd x y = true → WPG C Z code ml own rt nm R n0 G cl sl h pc1 Ls st) (hn : if_icmp.holds cd x y = false → WPG C Z code ml own rt nm R n0 G cl sl h pc2 Ls st) : WPG C Z code ml own rt nm R n0 G cl sl h pc Ls (.int y :: .int x :: st) := by
  subst hp2
  cases hq : if_icmp.holds cd x y with
  | true => exact (hy hq).pure fun X hx hby hown hZ eT t q => XS.icmpYes X.here hx rfl (pc0 := pc) rfl (hb hby hd) rfl hq ho hp q
  | false => exact (hn hq).pure fun X hx hby hown hZ eT t q => XS.icmpNo X.here hx rfl (hb hby hd) rfl hq q
theorem WP.icmp_lt {pc1 pc2 : Nat} {x y : Int32} {o : Int} (hd : decode code pc = .ok (.if_icmp .lt o, 3)) (ho : 0 ≤ (pc : Int) + o) (hp : ((pc : Int) + o).toNat = pc1) (hp2 : pc + 3 = pc2) (hy : x < y → WPG C Z code ml own rt nm R n0 G cl sl h pc1 Ls st) (hn : ¬ x < y → WPG C Z code ml own rt nm R n0 G cl sl h pc2 Ls st) : WPG C Z code ml own rt nm R n0 G cl sl h pc Ls (.int y :: .int x :: st) :=
  WP.icmp hd ho hp hp2 (fun hq => hy (Decidable.byContradiction fun k => by rw [(flt k).1] at hq; cases hq)) (fun hq => hn (fun k => by rw [(tlt k).1] at hq; cases hq))
theorem WP.icmp_ge {pc1 pc2 : Nat} {x y : Int32} {o : Int} (hd : decode code pc = .ok (.if_icmp .ge o, 3)) (ho : 0 ≤ (pc : Int) + o) (hp : ((pc : Int) + o).toNat = pc1) (hp2 : pc + 3 = pc2) (hy : ¬ x < y → WPG C Z code ml own rt nm R n0 G cl sl h pc1 Ls st) (hn : x < y → WPG C Z code ml own rt nm R n0 G cl sl h pc2 Ls st) : WPG C Z code ml own rt nm R n0 G cl sl h pc Ls (.int y :: .int x :: st) :=
  WP.icmp hd ho hp hp2 (fun hq => hy (fun k => by rw [(tlt k).2.1] at hq; cases hq)) (fun hq => hn (Decidable.byContradiction fun k => by rw [(flt k).2.1] at hq; cases hq))
theorem WP.icmp_gt {pc1 pc2 : Nat} {x y : Int32} {o : Int} (hd : decode code pc = .ok (.if_icmp .gt o, 3)) (ho : 0 ≤ (pc : Int) + o) (hp : ((pc : Int) + o).toNat = pc1) (hp2 : pc + 3 = pc2) (hy : y < x → WPG C Z code ml own rt nm R n0 G cl sl h pc1 Ls st) (hn : ¬ y < x → WPG C Z code ml own rt nm R n0 G cl sl h pc2 Ls st) : WPG C Z code ml own rt nm R n0 G cl sl h pc Ls (.int y :: .int x :: st) :=
  WP.icmp hd ho hp hp2 (fun hq => hy (Decidable.byContradiction fun k => by rw [(flt k).2.2.1] at hq; cases hq)) (fun hq => hn (fun k => by rw [(tlt k).2.2.1] at hq; cases hq))
theorem WP.icmp_le {pc1 pc2 : Nat} {x y : Int32} {o : Int} (hd : decode code pc = .ok (.if_icmp .le o, 3)) (ho : 0 ≤ (pc : Int) + o) (hp : ((pc : Int) + o).toNat = pc1) (hp2 : pc + 3 = pc2) (hy : ¬ y < x → WPG C Z code ml own rt nm R n0 G cl sl h pc1 Ls st) (hn : y < x → WPG C Z code ml own rt nm R n0 G cl sl h pc2 Ls st) : WPG C Z code ml own rt nm R n0 G cl sl h pc Ls (.int y :: .int x :: st) :=
  WP.icmp hd ho hp hp2 (fun hq => hy (fun k => by rw [(tlt k).2.2.2] at hq; cases hq)) (fun hq => hn (Decidable.byContradiction fun k => by rw [(flt k).2.2.2] at hq; cases hq))
theorem WP.icmp_eq {pc1 pc2 : Nat} {x y : Int32} {o : Int} (hd : decode code pc = .ok (.if_icmp .eq o, 3)) (ho : 0 ≤ (pc : Int) + o) (hp : ((pc : Int) + o).toNat = pc1) (hp2 : pc + 3 = pc2) (hy : x = y → WPG C Z code ml own rt nm R n0 G cl sl h pc1 Ls st) (hn : ¬ x = y → WPG C Z code ml own rt nm R n0 G cl sl h pc2 Ls st) : WPG C Z code ml own rt nm R n0 G cl sl h pc Ls (.int y :: .int x :: st) :=
  WP.icmp hd ho hp hp2 (fun hq => hy (Decidable.byContradiction fun k => by rw [(feq k).1] at hq; cases hq)) (fun hq => hn (fun k => by rw [(teq k).1] at hq; cases hq))
theorem WP.icmp_ne {pc1 pc2 : Nat} {x y : Int32} {o : Int} (hd : decode code pc = .ok (.if_icmp .ne o, 3)) (ho : 0 ≤ (pc : Int) + o) (hp : ((pc : Int) + o).toNat = pc1) (hp2 : pc + 3 = pc2) (hy : ¬ x = y → WPG C Z code ml own rt nm R n0 G cl sl h pc1 Ls st) (hn : x = y → WPG C Z code ml own rt nm R n0 G cl sl h pc2 Ls st) : WPG C Z code ml own rt nm R n0 G cl sl h pc Ls (.int y :: .int x :: st) :=
  WP.icmp hd ho hp hp2 (fun hq => hy (fun k => by rw [(teq k).2] at hq; cases hq)) (fun hq => hn (Decidable.byContradiction fun k => by rw [(feq k).2] at hq; cases hq))
theorem WP.ifc {pc1 pc2 : Nat} {x : Int32} {cd : ClassFile.Cond} {o : Int} (hd : decode code pc = .ok (.ifCond cd o, 3)) (ho : 0 ≤ (pc : Int) + o) (hp : ((pc : Int) + o).toNat = pc1) (hp2 : pc + 3 = pc2) (hy : ifCond.holds cd x = true → WPG C Z code ml own rt nm R n0 G cl sl h pc1 Ls st) (hn : ifCond.holds cd x = false → WPG C Z code ml own rt nm R n0 G cl sl h pc2 Ls st) : WPG C Z code ml own rt nm R n0 G cl sl h pc Ls (.int x :: st) := by
  subst hp2
  cases hq : ifCond.holds cd x with
  | true => exact (hy hq).pure fun X hx hby hown hZ eT t q => XS.ifYes X.here hx rfl (pc0 := pc) rfl (hb hby hd) rfl hq ho hp q
  | false => exact (hn hq).pure fun X hx hby hown hZ eT t q => XS.ifNo X.here hx rfl (hb hby hd) rfl hq q
theorem WP.ifc_lt {pc1 pc2 : Nat} {x : Int32} {o : Int} (hd : decode code pc = .ok (.ifCond .lt o, 3)) (ho : 0 ≤ (pc : Int) + o) (hp : ((pc : Int) + o).toNat = pc1) (hp2 : pc + 3 = pc2) (hy : x < (0 : Int32) → WPG C Z code ml own rt nm R n0 G cl sl h pc1 Ls st) (hn : ¬ x < (0 : Int32) → WPG C Z code ml own rt nm R n0 G cl sl h pc2 Ls st) : WPG C Z code ml own rt nm R n0 G cl sl h pc Ls (.int x :: st) :=
  WP.ifc hd ho hp hp2 (fun hq => hy (Decidable.byContradiction fun k => by rw [(if0 _ _).trans (flt k).1] at hq; cases hq)) (fun hq => hn (fun k => by rw [(if0 _ _).trans (tlt k).1] at hq; cases hq))
theorem WP.ifc_ge {pc1 pc2 : Nat} {x : Int32} {o : Int} (hd : decode code pc = .ok (.ifCond .ge o, 3)) (ho : 0 ≤ (pc : Int) + o) (hp : ((pc : Int) + o).toNat = pc1) (hp2 : pc + 3 = pc2) (hy : ¬ x < (0 : Int32) → WPG C Z code ml own rt nm R n0 G cl sl h pc1 Ls st) (hn : x < (0 : Int32) → WPG C Z code ml own rt nm R n0 G cl sl h pc2 Ls st) : WPG C Z code ml own rt nm R n0 G cl sl h pc Ls (.int x :: st) :=
  WP.ifc hd ho hp hp2 (fun hq => hy (fun k => by rw [(if0 _ _).trans (tlt k).2.1] at hq; cases hq)) (fun hq => hn (Decidable.byContradiction fun k => by rw [(if0 _ _).trans (flt k).2.1] at hq; cases hq))
theorem WP.ifc_gt {pc1 pc2 : Nat} {x : Int32} {o : Int} (hd : decode code pc = .ok (.ifCond .gt o, 3)) (ho : 0 ≤ (pc : Int) + o) (hp : ((pc : Int) + o).toNat = pc1) (hp2 : pc + 3 = pc2) (hy : (0 : Int32) < x → WPG C Z code ml own rt nm R n0 G cl sl h pc1 Ls st) (hn : ¬ (0 : Int32) < x → WPG C Z code ml own rt nm R n0 G cl sl h pc2 Ls st) : WPG C Z code ml own rt nm R n0 G cl sl h pc Ls (.int x :: st) :=
  WP.ifc hd ho hp hp2 (fun hq => hy (Decidable.byContradiction fun k => by rw [(if0 _ _).trans (flt k).2.2.1] at hq; cases hq)) (fun hq => hn (fun k => by rw [(if0 _ _).trans (tlt k).2.2.1] at hq; cases hq))
theorem WP.ifc_le {pc1 pc2 : Nat} {x : Int32} {o : Int} (hd : decode code pc = .ok (.ifCond .le o, 3)) (ho : 0 ≤ (pc : Int) + o) (hp : ((pc : Int) + o).toNat = pc1) (hp2 : pc + 3 = pc2) (hy : ¬ (0 : Int32) < x → WPG C Z code ml own rt nm R n0 G cl sl h pc1 Ls st) (hn : (0 : Int32) < x → WPG C Z code ml own rt nm R n0 G cl sl h pc2 Ls st) : WPG C Z code ml own rt nm R n0 G cl sl h pc Ls (.int x :: st) :=
  WP.ifc hd ho hp hp2 (fun hq => hy (fun k => by rw [(if0 _ _).trans (tlt k).2.2.2] at hq; cases hq)) (fun hq => hn (Decidable.byContradiction fun k => by rw [(if0 _ _).trans (flt k).2.2.2] at hq; cases hq))
theorem WP.ifc_eq {pc1 pc2 : Nat} {x : Int32} {o : Int} (hd : decode code pc = .ok (.ifCond .eq o, 3)) (ho : 0 ≤ (pc : Int) + o) (hp : ((pc : Int) + o).toNat = pc1) (hp2 : pc + 3 = pc2) (hy : x = (0 : Int32) → WPG C Z code ml own rt nm R n0 G cl sl h pc1 Ls st) (hn : ¬ x = (0 : Int32) → WPG C Z code ml own rt nm R n0 G cl sl h pc2 Ls st) : WPG C Z code ml own rt nm R n0 G cl sl h pc Ls (.int x :: st) :=
  WP.ifc hd ho hp hp2 (fun hq => hy (Decidable.byContradiction fun k => by rw [(if0 _ _).trans (feq k).1] at hq; cases hq)) (fun hq => hn (fun k => by rw [(if0 _ _).trans (teq k).1] at hq; cases hq))
theorem WP.ifc_ne {pc1 pc2 : Nat} {x : Int32} {o : Int} (hd : decode code pc = .ok (.ifCond .ne o, 3)) (ho : 0 ≤ (pc : Int) + o) (hp : ((pc : Int) + o).toNat = pc1) (hp2 : pc + 3 = pc2) (hy : ¬ x = (0 : Int32) → WPG C Z code ml own rt nm R n0 G cl sl h pc1 Ls st) (hn : x = (0 : Int32) → WPG C Z code ml own rt nm R n0 G cl sl h pc2 Ls st) : WPG C Z code ml own rt nm R n0 G cl sl h pc Ls (.int x :: st) :=
  WP.ifc hd ho hp hp2 (fun hq => hy (fun k => by rw [(if0 _ _).trans (teq k).2] at hq; cases hq)) (fun hq => hn (Decidable.byContradiction fun k => by rw [(if0 _ _).trans (feq k).2] at hq; cases hq))
theorem WP.lcmp_lt {pc1 pc2 : Nat} {x y : Int64} {o : Int} (hd1 : decode code pc = .ok (.lcmp, 1)) (hp0 : pc + 1 = pc') (hd : decode code pc' = .ok (.ifCond .lt o, 3)) (ho : 0 ≤ (pc' : Int) + o) (hp : ((pc' : Int) + o).toNat = pc1) (hp2 : pc' + 3 = pc2) (hy : x < y → WPG C Z code ml own rt nm R n0 G cl sl h pc1 Ls st) (hn : ¬ x < y → WPG C Z code ml own rt nm R n0 G cl sl h pc2 Ls st) : WPG C Z code ml own rt nm R n0 G cl sl h pc Ls (.long y :: .long x :: st) :=
  WP.lcmp hd1 hp0 (WP.ifc_lt hd ho hp hp2 (fun k => hy ((lw_lt x y).mp k)) (fun k => hn (fun z => k ((lw_lt x y).mpr z))))
theorem WP.lcmp_ge {pc1 pc2 : Nat} {x y : Int64} {o : Int} (hd1 : decode code pc = .ok (.lcmp, 1)) (hp0 : pc + 1 = pc') (hd : decode code pc' = .ok (.ifCond .ge o, 3)) (ho : 0 ≤ (pc' : Int) + o) (hp : ((pc' : Int) + o).toNat = pc1) (hp2 : pc' + 3 = pc2) (hy : ¬ x < y → WPG C Z code ml own rt nm R n0 G cl sl h pc1 Ls st) (hn : x < y → WPG C Z code ml own rt nm R n0 G cl sl h pc2 Ls st) : WPG C Z code ml own rt nm R n0 G cl sl h pc Ls (.long y :: .long x :: st) :=
  WP.lcmp hd1 hp0 (WP.ifc_ge hd ho hp hp2 (fun k => hy (fun z => k ((lw_lt x y).mpr z))) (fun k => hn ((lw_lt x y).mp k)))
theorem WP.lcmp_gt {pc1 pc2 : Nat} {x y : Int64} {o : Int} (hd1 : decode code pc = .ok (.lcmp, 1)) (hp0 : pc + 1 = pc') (hd : decode code pc' = .ok (.ifCond .gt o, 3)) (ho : 0 ≤ (pc' : Int) + o) (hp : ((pc' : Int) + o).toNat = pc1) (hp2 : pc' + 3 = pc2) (hy : y < x → WPG C Z code ml own rt nm R n0 G cl sl h pc1 Ls st) (hn : ¬ y < x → WPG C Z code ml own rt nm R n0 G cl sl h pc2 Ls st) : WPG C Z code ml own rt nm R n0 G cl sl h pc Ls (.long y :: .long x :: st) :=
  WP.lcmp hd1 hp0 (WP.ifc_gt hd ho hp hp2 (fun k => hy ((lw_gt x y).mp k)) (fun k => hn (fun z => k ((lw_gt x y).mpr z))))
theorem WP.lcmp_le {pc1 pc2 : Nat} {x y : Int64} {o : Int} (hd1 : decode code pc = .ok (.lcmp, 1)) (hp0 : pc + 1 = pc') (hd : decode code pc' = .ok (.ifCond .le o, 3)) (ho : 0 ≤ (pc' : Int) + o) (hp : ((pc' : Int) + o).toNat = pc1) (hp2 : pc' + 3 = pc2) (hy : ¬ y < x → WPG C Z code ml own rt nm R n0 G cl sl h pc1 Ls st) (hn : y < x → WPG C Z code ml own rt nm R n0 G cl sl h pc2 Ls st) : WPG C Z code ml own rt nm R n0 G cl sl h pc Ls (.long y :: .long x :: st) :=
  WP.lcmp hd1 hp0 (WP.ifc_le hd ho hp hp2 (fun k => hy (fun z => k ((lw_gt x y).mpr z))) (fun k => hn ((lw_gt x y).mp k)))
theorem WP.lcmp_eq {pc1 pc2 : Nat} {x y : Int64} {o : Int} (hd1 : decode code pc = .ok (.lcmp, 1)) (hp0 : pc + 1 = pc') (hd : decode code pc' = .ok (.ifCond .eq o, 3)) (ho : 0 ≤ (pc' : Int) + o) (hp : ((pc' : Int) + o).toNat = pc1) (hp2 : pc' + 3 = pc2) (hy : x = y → WPG C Z code ml own rt nm R n0 G cl sl h pc1 Ls st) (hn : ¬ x = y → WPG C Z code ml own rt nm R n0 G cl sl h pc2 Ls st) : WPG C Z code ml own rt nm R n0 G cl sl h pc Ls (.long y :: .long x :: st) :=
  WP.lcmp hd1 hp0 (WP.ifc_eq hd ho hp hp2 (fun k => hy ((lw_eq x y).mp k)) (fun k => hn (fun z => k ((lw_eq x y).mpr z))))
theorem WP.lcmp_ne {pc1 pc2 : Nat} {x y : Int64} {o : Int} (hd1 : decode code pc = .ok (.lcmp, 1)) (hp0 : pc + 1 = pc') (hd : decode code pc' = .ok (.ifCond .ne o, 3)) (ho : 0 ≤ (pc' : Int) + o) (hp : ((pc' : Int) + o).toNat = pc1) (hp2 : pc' + 3 = pc2) (hy : ¬ x = y → WPG C Z code ml own rt nm R n0 G cl sl h pc1 Ls st) (hn : x = y → WPG C Z code ml own rt nm R n0 G cl sl h pc2 Ls st) : WPG C Z code ml own rt nm R n0 G cl sl h pc Ls (.long y :: .long x :: st) :=
  WP.lcmp hd1 hp0 (WP.ifc_ne hd ho hp hp2 (fun k => hy (fun z => k ((lw_eq x y).mpr z))) (fun k => hn ((lw_eq x y).mp k)))
theorem WP.ifnullY {b : Addr} {o : Int} (hd : decode code pc = .ok (.ifnull o, 3)) (ho : 0 ≤ (pc : Int) + o) (hp : ((pc : Int) + o).toNat = pc') (hr : WPG C Z code ml own rt nm R n0 G cl sl h pc' Ls st) : WPG C Z code ml own rt nm R n0 G cl sl h pc Ls (.null :: st) :=
  hr.pure fun X hx hby hown hZ eT t q => XS.ifnullYes X.here hx rfl (pc0 := pc) rfl (hb hby hd) rfl ho hp q
theorem WP.ifnullN {b : Addr} {o : Int} (hd : decode code pc = .ok (.ifnull o, 3)) (hp : pc + 3 = pc') (hr : WPG C Z code ml own rt nm R n0 G cl sl h pc' Ls st) : WPG C Z code ml own rt nm R n0 G cl sl h pc Ls (.ref b :: st) := by
  subst hp
  exact hr.pure fun X hx hby hown hZ eT t q => XS.ifnullNo X.here hx rfl (hb hby hd) rfl q
theorem WP.ifnonnullY {b : Addr} {o : Int} (hd : decode code pc = .ok (.ifnonnull o, 3)) (ho : 0 ≤ (pc : Int) + o) (hp : ((pc : Int) + o).toNat = pc') (hr : WPG C Z code ml own rt nm R n0 G cl sl h pc' Ls st) : WPG C Z code ml own rt nm R n0 G cl sl h pc Ls (.ref b :: st) :=
  hr.pure fun X hx hby hown hZ eT t q => XS.ifnonnullYes X.here hx rfl (pc0 := pc) rfl (hb hby hd) rfl ho hp q
theorem WP.ifnonnullN {b : Addr} {o : Int} (hd : decode code pc = .ok (.ifnonnull o, 3)) (hp : pc + 3 = pc') (hr : WPG C Z code ml own rt nm R n0 G cl sl h pc' Ls st) : WPG C Z code ml own rt nm R n0 G cl sl h pc Ls (.null :: st) := by
  subst hp
  exact hr.pure fun X hx hby hown hZ eT t q => XS.ifnonnullNo X.here hx rfl (hb hby hd) rfl q
theorem WP.acmp_eq {pc1 pc2 : Nat} {x y : Value} {o : Int} (hd : decode code pc = .ok (.if_acmp .eq o, 3)) (h1 : x.isRef = true) (h2 : y.isRef = true) (ho : 0 ≤ (pc : Int) + o) (hp : ((pc : Int) + o).toNat = pc1) (hp2 : pc + 3 = pc2) (hy : x = y → WPG C Z code ml own rt nm R n0 G cl sl h pc1 Ls st) (hn : ¬ x = y → WPG C Z code ml own rt nm R n0 G cl sl h pc2 Ls st) : WPG C Z code ml own rt nm R n0 G cl sl h pc Ls (y :: x :: st) := by
  by_cases k : x = y
  · exact (hy k).pure fun X hx hby hown hZ eT t q => Jvm.RoadKit.acmp X hx rfl h1 h2 (pc0 := pc) (same := true) rfl (hb hby hd) rfl (decide_eq_true k) ho (by simp [acV, hp, hp2]) q
  · exact (hn k).pure fun X hx hby hown hZ eT t q => Jvm.RoadKit.acmp X hx rfl h1 h2 (pc0 := pc) (same := false) rfl (hb hby hd) rfl (decide_eq_false k) ho (by simp [acV, hp, hp2]) q
theorem WP.acmp_ne {pc1 pc2 : Nat} {x y : Value} {o : Int} (hd : decode code pc = .ok (.if_acmp .ne o, 3)) (h1 : x.isRef = true) (h2 : y.isRef = true) (ho : 0 ≤ (pc : Int) + o) (hp : ((pc : Int) + o).toNat = pc1) (hp2 : pc + 3 = pc2) (hy : ¬ x = y → WPG C Z code ml own rt nm R n0 G cl sl h pc1 Ls st) (hn : x = y → WPG C Z code ml own rt nm R n0 G cl sl h pc2 Ls st) : WPG C Z code ml own rt nm R n0 G cl sl h pc Ls (y :: x :: st) := by
  by_cases k : x = y
  · exact (hn k).pure fun X hx hby hown hZ eT t q => Jvm.RoadKit.acmp X hx rfl h1 h2 (pc0 := pc) (same := true) rfl (hb hby hd) rfl (decide_eq_true k) ho (by simp [acV, hp, hp2]) q
  · exact (hy k).pure fun X hx hby hown hZ eT t q => Jvm.RoadKit.acmp X hx rfl h1 h2 (pc0 := pc) (same := false) rfl (hb hby hd) rfl (decide_eq_false k) ho (by simp [acV, hp, hp2]) q
theorem WP.getF {i : Nat} {R0 O n d host : String} {a : Addr} {v : Value} (hd : decode code pc = .ok (.getfield i, 3)) (hp : pc + 3 = pc') (w : (Jvm.Cond.fieldLink own i R0 n d).before a0 Z = true ∨ (Jvm.Cond.fieldLinkNest own i R0 n d host).before a0 Z = true) (via : Via Z R0 O n d) (F : Fld Z h a O n d v) (hr : WPG C Z code ml own rt nm R n0 G cl sl h pc' Ls (v :: st)) : WPG C Z code ml own rt nm R n0 G cl sl h pc Ls (.ref a :: st) := by
  subst hp
  refine hr.step fun X hx hby hml hown hZ hnm eT N => ?_
  obtain ⟨T', X', e', k⟩ := RoadKit.getF X hx hZ hown w via eT F (g := mkF _ pc Ls (.ref a :: st)) rfl rfl (hb hby hd)
  exact ⟨T', _, X', e', N, fun t q => k t q⟩
theorem WP.getS {i : Nat} {R0 O n d host : String} {v : Value} (hd : decode code pc = .ok (.getstatic i, 3)) (hp : pc + 3 = pc') (w : (Jvm.Cond.fieldLink own i R0 n d).before a0 Z = true ∨ (Jvm.Cond.fieldLinkNest own i R0 n d host).before a0 Z = true) (via : Via Z R0 O n d) (F : Sta Z h O n d v) (hr : WPG C Z code ml own rt nm R n0 G cl sl h pc' Ls (v :: st)) : WPG C Z code ml own rt nm R n0 G cl sl h pc Ls st := by
  subst hp
  refine hr.step fun X hx hby hml hown hZ hnm eT N => ?_
  obtain ⟨T', X', e', k⟩ := getS2 X hx hZ hown w via eT F (g := mkF _ pc Ls st) rfl (hb hby hd)
  exact ⟨T', _, X', e', N, fun t q => k t q⟩
theorem WP.putF {i kk : Nat} {R0 O n d host K : String} {ty : FieldType} {a : Addr} {v old : Value} (hd : decode code pc = .ok (.putfield i, 3)) (hp : pc + 3 = pc') (w : (Jvm.Cond.fieldLink own i R0 n d).before a0 Z = true ∨ (Jvm.Cond.fieldLinkNest own i R0 n d host).before a0 Z = true) (via : Via Z R0 O n d) (F : Fld Z h a O n d old) (E : Exa Z h a K) (L : (Jvm.Cond.lays K O n d).before a0 Z = true ∨ ((Jvm.Cond.laysFinal K O n d).before a0 Z = true ∧ own = O ∧ nm = "<init>")) (wi : (Jvm.Cond.instantiable K kk).before a0 Z = true)
    (hty : parseFieldDescriptor d = some ty) (hn : narrow ty v = v) (hf : fits ty v = true) (ge : n0 ≤ a) (hr : ∀ h', Wr h h' a (Jvm.RoadKit.slotOf Z O n d) v → WPG C Z code ml own rt nm R n0 G cl sl h' pc' Ls st) : WPG C Z code ml own rt nm R n0 G cl sl h pc Ls (v :: .ref a :: st) := by
  subst hp
  intro k1 k2 k3 k4 k5 k6 k7 k8 T locs X e N
  obtain ⟨T', h', X', e', W', k⟩ := RoadKit.putF X k1 k5 k4 w via e F E (L.imp id fun z => ⟨z.1, z.2.1, k8.trans z.2.2⟩) wi hty hn hf (g := mkF _ pc Ls (v :: .ref a :: st)) rfl rfl (hb k2 hd)
  obtain ⟨s₂, v', L', h1, h2⟩ := hr h' W' k1 k2 k3 k4 k5 k6 k7 k8 T' _ X' e' (Fr.snoc X' N ge)
  exact ⟨s₂, v', L', k _ h1, h2⟩
theorem WP.putFN {i kk : Nat} {R0 O n d K : String} {ty : FieldType} {a : Addr} {v v' old : Value} (hd : decode code pc = .ok (.putfield i, 3)) (hp : pc + 3 = pc') (w : (Jvm.Cond.fieldLink own i R0 n d).before a0 Z = true) (via : Via Z R0 O n d) (F : Fld Z h a O n d old) (E : Exa Z h a K) (L : (Jvm.Cond.lays K O n d).before a0 Z = true ∨ ((Jvm.Cond.laysFinal K O n d).before a0 Z = true ∧ own = O ∧ nm = "<init>")) (wi : (Jvm.Cond.instantiable K kk).before a0 Z = true)
    (hty : parseFieldDescriptor d = some ty) (hn : narrow ty v = v') (hf : fits ty v' = true) (ge : n0 ≤ a) (hr : ∀ h', Wr h h' a (Jvm.RoadKit.slotOf Z O n d) v' → WPG C Z code ml own rt nm R n0 G cl sl h' pc' Ls st) : WPG C Z code ml own rt nm R n0 G cl sl h pc Ls (v :: .ref a :: st) := by
  subst hp
  intro k1 k2 k3 k4 k5 k6 k7 k8 T locs X e N
  obtain ⟨T', h', X', e', W', k⟩ := RoadKit.putFN X k1 k5 k4 w via e F E (L.imp id fun z => ⟨z.1, z.2.1, k8.trans z.2.2⟩) wi hty hn hf (g := mkF _ pc Ls (v :: .ref a :: st)) rfl rfl (hb k2 hd)
  obtain ⟨s₂, v'', L', h1, h2⟩ := hr h' W' k1 k2 k3 k4 k5 k6 k7 k8 T' _ X' e' (Fr.snoc X' N ge)
  exact ⟨s₂, v'', L', k _ h1, h2⟩
theorem WP.newO {i n : Nat} {K : String} {cl' sl' : Nat} (hd : decode code pc = .ok (.new i, 3)) (hp : pc + 3 = pc') (w : (Jvm.Cond.classLink own i K).before a0 Z = true) (wi : (Jvm.Cond.instantiable K n).before a0 Z = true) (wz : (Jvm.Cond.initialized K).before a0 Z = true) (hc : cl + 1 = cl') (hs : sl + n = sl') (hc' : cl' ≤ R.cells) (hs' : sl' ≤ R.slots)
    (hr : ∀ h' a, a = h.size → Ext h h' → Exa Z h' a K → (∀ {O nf d : String} {ty : FieldType}, Laid Z a0 K O nf d → parseFieldDescriptor d = some ty → Fld Z h' a O nf d (defaultValue ty)) → WPG C Z code ml own rt nm R n0 G cl' sl' h' pc' Ls (.ref a :: st)) : WPG C Z code ml own rt nm R n0 G cl sl h pc Ls st := by
  subst hp hc hs
  intro k1 k2 k3 k4 k5 k6 k7 k8 T locs X e N
  obtain ⟨T', h', X', e', E', A', D', -, k⟩ := RoadKit.newO X k1 k5 k4 w wi wz e (g := mkF _ pc Ls st) rfl (hb k2 hd) hc' hs'
  obtain ⟨s₂, v', L', h1, h2⟩ := hr h' _ rfl E' A' D' k1 k2 k3 k4 k5 k6 k7 k8 T' _ X' e' N
  exact ⟨s₂, v', L', k _ h1, h2⟩
theorem WP.checkcast {i : Nat} {K : String} {a : Addr} (hd : decode code pc = .ok (.checkcast i, 3)) (hp : pc + 3 = pc') (w : (Jvm.Cond.classLink own i K).before a0 Z = true) (F : Ins Z h a K true) (hr : WPG C Z code ml own rt nm R n0 G cl sl h pc' Ls (.ref a :: st)) : WPG C Z code ml own rt nm R n0 G cl sl h pc Ls (.ref a :: st) := by
  subst hp
  refine hr.step fun X hx hby hml hown hZ hnm eT N => ?_
  obtain ⟨T', X', e', k⟩ := castY X hx hZ hown w eT F (g := mkF _ pc Ls (.ref a :: st)) rfl rfl (hb hby hd)
  exact ⟨T', _, X', e', N, fun t q => k t q⟩
theorem WP.instanceof {i : Nat} {K : String} {a : Addr} (hd : decode code pc = .ok (.instanceof i, 3)) (hp : pc + 3 = pc') (w : (Jvm.Cond.classLink own i K).before a0 Z = true) (F : Ins Z h a K true) (hr : WPG C Z code ml own rt nm R n0 G cl sl h pc' Ls (.int 1 :: st)) : WPG C Z code ml own rt nm R n0 G cl sl h pc Ls (.ref a :: st) := by
  subst hp
  refine hr.step fun X hx hby hml hown hZ hnm eT N => ?_
  obtain ⟨T', X', e', k⟩ := instY X hx hZ hown w eT F (g := mkF _ pc Ls (.ref a :: st)) rfl rfl (hb hby hd)
  exact ⟨T', _, X', e', N, fun t q => k t q⟩
/-- an array of n elements, the i-th is f i -/
def Arf (Z : State) (h : Heap) (a : Addr) (ty : FieldType) (n : Nat) (f : Nat → Value) : Prop := ∃ c : Cell, Arr Z h a c ty ∧ c.slots.size = n ∧ n < 2147483648 ∧ (∀ i, i < n → c.slots[i]? = some (f i)) ∧ ∀ i, i < n → fits ty (f i) = true
theorem Arf.lt {a : Addr} {ty : FieldType} {n : Nat} {f : Nat → Value} (A : Arf Z h a ty n f) : a < h.size := by obtain ⟨c, A, -⟩ := A; exact A.lt
theorem Arf.small {a : Addr} {ty : FieldType} {n : Nat} {f : Nat → Value} (A : Arf Z h a ty n f) : n < 2147483648 := by obtain ⟨c, -, -, h, -⟩ := A; exact h
theorem Arf.keep {h' : Heap} {ws : List Addr} {a : Addr} {ty : FieldType} {n : Nat} {f : Nat → Value} (A : Arf Z h a ty n f) (K : Keep h h' ws) (q : a ∉ ws) : Arf Z h' a ty n f := by obtain ⟨c, A, r⟩ := A; exact ⟨c, ⟨K.2.1 a c A.1 q, A.2⟩, r⟩
theorem Arf.ext {h' : Heap} {a : Addr} {ty : FieldType} {n : Nat} {f : Nat → Value} (A : Arf Z h a ty n f) (E : Ext h h') : Arf Z h' a ty n f := by obtain ⟨c, A, r⟩ := A; exact ⟨c, A.ext E, r⟩
theorem Arf.fit {a : Addr} {ty : FieldType} {n : Nat} {f : Nat → Value} (A : Arf Z h a ty n f) {i : Nat} (hi : i < n) : fits ty (f i) = true := by obtain ⟨c, -, -, -, -, r⟩ := A; exact r i hi
theorem Arf.congr {a : Addr} {ty : FieldType} {n : Nat} {f g : Nat → Value} (A : Arf Z h a ty n f) (q : ∀ i, i < n → f i = g i) : Arf Z h a ty n g := by
  obtain ⟨c, A, r1, r2, r3, r4⟩ := A; exact ⟨c, A, r1, r2, fun i hi => by rw [← q i hi]; exact r3 i hi, fun i hi => by rw [← q i hi]; exact r4 i hi⟩
theorem idxN {j : Int32} {i n : Nat} (hi : j.toInt = (i : Int)) (hl : i < n) : ¬ (j < 0 ∨ n ≤ j.toNatClampNeg) ∧ j.toNatClampNeg = i := by
  have e0 : (0 : Int32).toInt = 0 := rfl
  simp only [Int32.lt_iff_toInt_lt, Int32.toNatClampNeg, hi, e0]; omega
theorem WP.baload {a : Addr} {j : Int32} {n : Nat} {f : Nat → Value} {v : Value} (i : Nat) (hd : decode code pc = .ok (.baload, 1)) (hp : pc + 1 = pc') (A : Arf Z h a .byte n f) (hi : j.toInt = (i : Int)) (hl : i < n) (hv : f i = v) (hr : WPG C Z code ml own rt nm R n0 G cl sl h pc' Ls (v :: st)) : WPG C Z code ml own rt nm R n0 G cl sl h pc Ls (.int j :: .ref a :: st) := by
  subst hp hv
  obtain ⟨c, A, r1, r2, r3, r4⟩ := A
  obtain ⟨q1, q2⟩ := idxN hi hl
  exact hr.pure fun X hx hby hown hZ eT t q => X.baloadBytes hx (j := j) (by rw [eT]; exact A.1) (State.isArrayOf_alike hZ.alike A.2.1) A.2.2 (by rw [r1]; exact q1) (by rw [q2]; exact r3 i hl) (g := mkF _ pc Ls (.int j :: .ref a :: st)) rfl rfl (hb hby hd) t q
theorem WP.baloadZ {a : Addr} {j : Int32} {n : Nat} {f : Nat → Value} {v : Value} (i : Nat) (hd : decode code pc = .ok (.baload, 1)) (hp : pc + 1 = pc') (A : Arf Z h a .boolean n f) (hi : j.toInt = (i : Int)) (hl : i < n) (hv : f i = v) (hr : WPG C Z code ml own rt nm R n0 G cl sl h pc' Ls (v :: st)) : WPG C Z code ml own rt nm R n0 G cl sl h pc Ls (.int j :: .ref a :: st) := by
  subst hp hv
  obtain ⟨c, A, r1, r2, r3, r4⟩ := A
  obtain ⟨q1, q2⟩ := idxN hi hl
  exact hr.pure fun X hx hby hown hZ eT t q => X.baloadBooleans hx (j := j) (by rw [eT]; exact A.1) (State.isArrayOf_alike hZ.alike A.2.1) A.2.2 (by rw [r1]; exact q1) (by rw [q2]; exact r3 i hl) (g := mkF _ pc Ls (.int j :: .ref a :: st)) rfl rfl (hb hby hd) t q
theorem WP.caload {a : Addr} {j : Int32} {n : Nat} {f : Nat → Value} {v : Value} (i : Nat) (hd : decode code pc = .ok (.caload, 1)) (hp : pc + 1 = pc') (A : Arf Z h a .char n f) (hi : j.toInt = (i : Int)) (hl : i < n) (hv : f i = v) (hr : WPG C Z code ml own rt nm R n0 G cl sl h pc' Ls (v :: st)) : WPG C Z code ml own rt nm R n0 G cl sl h pc Ls (.int j :: .ref a :: st) := by
  subst hp hv
  obtain ⟨c, A, r1, r2, r3, r4⟩ := A
  obtain ⟨q1, q2⟩ := idxN hi hl
  exact hr.pure fun X hx hby hown hZ eT t q => X.caload hx (j := j) (by rw [eT]; exact A.1) (State.isArrayOf_alike hZ.alike A.2.1) A.2.2 (by rw [r1]; exact q1) (by rw [q2]; exact r3 i hl) (g := mkF _ pc Ls (.int j :: .ref a :: st)) rfl rfl (hb hby hd) t q
theorem WP.iaload {a : Addr} {j : Int32} {n : Nat} {f : Nat → Value} {v : Value} (i : Nat) (hd : decode code pc = .ok (.iaload, 1)) (hp : pc + 1 = pc') (A : Arf Z h a .int n f) (hi : j.toInt = (i : Int)) (hl : i < n) (hv : f i = v) (hr : WPG C Z code ml own rt nm R n0 G cl sl h pc' Ls (v :: st)) : WPG C Z code ml own rt nm R n0 G cl sl h pc Ls (.int j :: .ref a :: st) := by
  subst hp hv
  obtain ⟨c, A, r1, r2, r3, r4⟩ := A
  obtain ⟨q1, q2⟩ := idxN hi hl
  exact hr.pure fun X hx hby hown hZ eT t q => X.iaload hx (j := j) (by rw [eT]; exact A.1) (State.isArrayOf_alike hZ.alike A.2.1) A.2.2 (by rw [r1]; exact q1) (by rw [q2]; exact r3 i hl) (g := mkF _ pc Ls (.int j :: .ref a :: st)) rfl rfl (hb hby hd) t q
theorem WP.laload {a : Addr} {j : Int32} {n : Nat} {f : Nat → Value} {v : Value} (i : Nat) (hd : decode code pc = .ok (.laload, 1)) (hp : pc + 1 = pc') (A : Arf Z h a .long n f) (hi : j.toInt = (i : Int)) (hl : i < n) (hv : f i = v) (hr : WPG C Z code ml own rt nm R n0 G cl sl h pc' Ls (v :: st)) : WPG C Z code ml own rt nm R n0 G cl sl h pc Ls (.int j :: .ref a :: st) := by
  subst hp hv
  obtain ⟨c, A, r1, r2, r3, r4⟩ := A
  obtain ⟨q1, q2⟩ := idxN hi hl
  exact hr.pure fun X hx hby hown hZ eT t q => X.laload hx (j := j) (by rw [eT]; exact A.1) (State.isArrayOf_alike hZ.alike A.2.1) A.2.2 (by rw [r1]; exact q1) (by rw [q2]; exact r3 i hl) (g := mkF _ pc Ls (.int j :: .ref a :: st)) rfl rfl (hb hby hd) t q
theorem WP.saload {a : Addr} {j : Int32} {n : Nat} {f : Nat → Value} {v : Value} (i : Nat) (hd : decode code pc = .ok (.saload, 1)) (hp : pc + 1 = pc') (A : Arf Z h a .short n f) (hi : j.toInt = (i : Int)) (hl : i < n) (hv : f i = v) (hr : WPG C Z code ml own rt nm R n0 G cl sl h pc' Ls (v :: st)) : WPG C Z code ml own rt nm R n0 G cl sl h pc Ls (.int j :: .ref a :: st) := by
  subst hp hv
  obtain ⟨c, A, r1, r2, r3, r4⟩ := A
  obtain ⟨q1, q2⟩ := idxN hi hl
  exact hr.pure fun X hx hby hown hZ eT t q => X.saload hx (j := j) (by rw [eT]; exact A.1) (State.isArrayOf_alike hZ.alike A.2.1) A.2.2 (by rw [r1]; exact q1) (by rw [q2]; exact r3 i hl) (g := mkF _ pc Ls (.int j :: .ref a :: st)) rfl rfl (hb hby hd) t q
theorem WP.aaload {a : Addr} {j : Int32} {n : Nat} {f : Nat → Value} {v : Value} {ty : FieldType} (i : Nat) (hd : decode code pc = .ok (.aaload, 1)) (hp : pc + 1 = pc') (A : Arf Z h a ty n f) (hty : ty.isReference = true) (hi : j.toInt = (i : Int)) (hl : i < n) (hv : f i = v) (hr : WPG C Z code ml own rt nm R n0 G cl sl h pc' Ls (v :: st)) : WPG C Z code ml own rt nm R n0 G cl sl h pc Ls (.int j :: .ref a :: st) := by
  subst hp hv
  obtain ⟨c, A, r1, r2, r3, r4⟩ := A
  obtain ⟨q1, q2⟩ := idxN hi hl
  exact hr.pure fun X hx hby hown hZ eT t q => X.aaload hx (j := j) (by rw [eT]; exact A.1) (State.isArrayOf_alike hZ.alike A.2.1) hty A.2.2 (by rw [r1]; exact q1) (by rw [q2]; exact r3 i hl) (g := mkF _ pc Ls (.int j :: .ref a :: st)) rfl rfl (hb hby hd) t q
theorem WP.arraylength {a : Addr} {n : Nat} {f : Nat → Value} {ty : FieldType} {z : Int32} (hd : decode code pc = .ok (.arraylength, 1)) (hp : pc + 1 = pc') (A : Arf Z h a ty n f) (hz : n.toInt32 = z) (hr : WPG C Z code ml own rt nm R n0 G cl sl h pc' Ls (.int z :: st)) : WPG C Z code ml own rt nm R n0 G cl sl h pc Ls (.ref a :: st) := by
  subst hp hz
  obtain ⟨c, A, r1, r2, r3, r4⟩ := A
  exact hr.pure fun X hx hby hown hZ eT t q => X.arraylength hx (by rw [eT]; exact A.1) (State.isArrayOf_alike hZ.alike A.2.1) (g := mkF _ pc Ls (.ref a :: st)) rfl rfl (hb hby hd) t (by rw [r1]; exact q)
theorem Arf.set {h' : Heap} {a : Addr} {ty : FieldType} {n : Nat} {f : Nat → Value} {c : Cell} {v : Value} {j : Int32} {i : Nat} (A : Arr Z h a c ty) (r1 : c.slots.size = n) (r2 : n < 2147483648) (r3 : ∀ i, i < n → c.slots[i]? = some (f i)) (r4 : ∀ i, i < n → fits ty (f i) = true) (hv : fits ty v = true) (W : Wr h h' a j.toNatClampNeg v) (hj : j.toNatClampNeg = i) (hl : i < n) : Arf Z h' a ty n (fun k => if k = i then v else f k) := by
  subst hj
  refine ⟨_, A.same W, by rw [sz_set]; exact r1, r2, fun k hk => ?_, fun k hk => ?_⟩
  · by_cases e : k = j.toNatClampNeg
    · show _ = some (if k = j.toNatClampNeg then v else f k)
      rw [if_pos e, e]; simp [Cell.setSlot, r1, hl]
    · show _ = some (if k = j.toNatClampNeg then v else f k)
      rw [if_neg e, ← r3 k hk]; exact Array.getElem?_setIfInBounds_ne (Ne.symm e)
  · by_cases e : k = j.toNatClampNeg
    · simp only [if_pos e]; exact hv
    · simp only [if_neg e]; exact r4 k hk
theorem WP.bastore {a : Addr} {j : Int32} {x : Int32} {n : Nat} {f : Nat → Value} (i : Nat) (hd : decode code pc = .ok (.bastore, 1)) (hp : pc + 1 = pc') (A : Arf Z h a .byte n f) (hi : j.toInt = (i : Int)) (hl : i < n) (ge : n0 ≤ a) (hr : ∀ h', Keep h h' [a] → Arf Z h' a .byte n (fun k => if k = i then .int (nar .byte x) else f k) → WPG C Z code ml own rt nm R n0 G cl sl h' pc' Ls st) : WPG C Z code ml own rt nm R n0 G cl sl h pc Ls (.int x :: .int j :: .ref a :: st) := by
  subst hp
  obtain ⟨c, A, r1, r2, r3, r4⟩ := A
  obtain ⟨q1, q2⟩ := idxN hi hl
  intro k1 k2 k3 k4 k5 k6 k7 k8 T locs X e N
  obtain ⟨T', h', X', e', W', k⟩ := stB X k1 k5 e A (j := j) (x := x) (by rw [r1]; exact q1) (g := mkF _ pc Ls (.int x :: .int j :: .ref a :: st)) rfl rfl (hb k2 hd)
  obtain ⟨s₂, v', L', h1, h2⟩ := hr h' (Keep.of_wr W') (Arf.set A r1 r2 r3 r4 (fits_nar_byte x) W' q2 hl) k1 k2 k3 k4 k5 k6 k7 k8 T' _ X' e' (Fr.snoc X' N ge)
  exact ⟨s₂, v', L', k _ h1, h2⟩
theorem WP.castore {a : Addr} {j : Int32} {x : Int32} {n : Nat} {f : Nat → Value} (i : Nat) (hd : decode code pc = .ok (.castore, 1)) (hp : pc + 1 = pc') (A : Arf Z h a .char n f) (hi : j.toInt = (i : Int)) (hl : i < n) (ge : n0 ≤ a) (hr : ∀ h', Keep h h' [a] → Arf Z h' a .char n (fun k => if k = i then .int (nar .char x) else f k) → WPG C Z code ml own rt nm R n0 G cl sl h' pc' Ls st) : WPG C Z code ml own rt nm R n0 G cl sl h pc Ls (.int x :: .int j :: .ref a :: st) := by
  subst hp
  obtain ⟨c, A, r1, r2, r3, r4⟩ := A
  obtain ⟨q1, q2⟩ := idxN hi hl
  intro k1 k2 k3 k4 k5 k6 k7 k8 T locs X e N
  obtain ⟨T', h', X', e', W', k⟩ := stC X k1 k5 e A (j := j) (x := x) (by rw [r1]; exact q1) (g := mkF _ pc Ls (.int x :: .int j :: .ref a :: st)) rfl rfl (hb k2 hd)
  obtain ⟨s₂, v', L', h1, h2⟩ := hr h' (Keep.of_wr W') (Arf.set A r1 r2 r3 r4 (fits_nar_char x) W' q2 hl) k1 k2 k3 k4 k5 k6 k7 k8 T' _ X' e' (Fr.snoc X' N ge)
  exact ⟨s₂, v', L', k _ h1, h2⟩
theorem WP.iastore {a : Addr} {j : Int32} {x : Int32} {n : Nat} {f : Nat → Value} (i : Nat) (hd : decode code pc = .ok (.iastore, 1)) (hp : pc + 1 = pc') (A : Arf Z h a .int n f) (hi : j.toInt = (i : Int)) (hl : i < n) (ge : n0 ≤ a) (hr : ∀ h', Keep h h' [a] → Arf Z h' a .int n (fun k => if k = i then .int x else f k) → WPG C Z code ml own rt nm R n0 G cl sl h' pc' Ls st) : WPG C Z code ml own rt nm R n0 G cl sl h pc Ls (.int x :: .int j :: .ref a :: st) := by
  subst hp
  obtain ⟨c, A, r1, r2, r3, r4⟩ := A
  obtain ⟨q1, q2⟩ := idxN hi hl
  intro k1 k2 k3 k4 k5 k6 k7 k8 T locs X e N
  obtain ⟨T', h', X', e', W', k⟩ := stI X k1 k5 e A (j := j) (x := x) (by rw [r1]; exact q1) (g := mkF _ pc Ls (.int x :: .int j :: .ref a :: st)) rfl rfl (hb k2 hd)
  obtain ⟨s₂, v', L', h1, h2⟩ := hr h' (Keep.of_wr W') (Arf.set A r1 r2 r3 r4 rfl W' q2 hl) k1 k2 k3 k4 k5 k6 k7 k8 T' _ X' e' (Fr.snoc X' N ge)
  exact ⟨s₂, v', L', k _ h1, h2⟩
theorem WP.lastore {a : Addr} {j : Int32} {x : Int64} {n : Nat} {f : Nat → Value} (i : Nat) (hd : decode code pc = .ok (.lastore, 1)) (hp : pc + 1 = pc') (A : Arf Z h a .long n f) (hi : j.toInt = (i : Int)) (hl : i < n) (ge : n0 ≤ a) (hr : ∀ h', Keep h h' [a] → Arf Z h' a .long n (fun k => if k = i then .long x else f k) → WPG C Z code ml own rt nm R n0 G cl sl h' pc' Ls st) : WPG C Z code ml own rt nm R n0 G cl sl h pc Ls (.long x :: .int j :: .ref a :: st) := by
  subst hp
  obtain ⟨c, A, r1, r2, r3, r4⟩ := A
  obtain ⟨q1, q2⟩ := idxN hi hl
  intro k1 k2 k3 k4 k5 k6 k7 k8 T locs X e N
  obtain ⟨T', h', X', e', W', k⟩ := stJ X k1 k5 e A (j := j) (x := x) (by rw [r1]; exact q1) (g := mkF _ pc Ls (.long x :: .int j :: .ref a :: st)) rfl rfl (hb k2 hd)
  obtain ⟨s₂, v', L', h1, h2⟩ := hr h' (Keep.of_wr W') (Arf.set A r1 r2 r3 r4 rfl W' q2 hl) k1 k2 k3 k4 k5 k6 k7 k8 T' _ X' e' (Fr.snoc X' N ge)
  exact ⟨s₂, v', L', k _ h1, h2⟩
theorem WP.newP {aty : ArrayType} {z : Int32} {n cap : Nat} {cl' sl' : Nat} (hd : decode code pc = .ok (.newarray aty, 2)) (hp : pc + 2 = pc') (w : (Jvm.Cond.arrayClass (newarray.typeOf aty)).before a0 Z = true) (hz : z.toInt = (n : Int)) (hcap : n ≤ cap) (hbig : cap * 8 ≤ 536870912) (hc : cl + 1 = cl') (hs : sl + cap = sl') (hc' : cl' ≤ R.cells) (hs' : sl' ≤ R.slots)
    (hr : ∀ h' a, a = h.size → Ext h h' → Arf Z h' a (newarray.typeOf aty) n (fun _ => defaultValue (newarray.typeOf aty)) → WPG C Z code ml own rt nm R n0 G cl' sl' h' pc' Ls (.ref a :: st)) : WPG C Z code ml own rt nm R n0 G cl sl h pc Ls (.int z :: st) := by
  subst hp hc hs
  have e0 : (0 : Int32).toInt = 0 := rfl
  have hzn : z.toNatClampNeg = n := by simp only [Int32.toNatClampNeg, hz]; omega
  have hzl : n < 2147483648 := by have := z.toInt_lt; omega
  intro k1 k2 k3 k4 k5 k6 k7 k8 T locs X e N
  obtain ⟨T', h', cA, X', e', E', A', k⟩ := RoadKit.newP X k1 k5 w e (g := mkF _ pc Ls (.int z :: st)) rfl (hb k2 hd) rfl (by rw [Int32.lt_iff_toInt_lt, hz, e0]; omega) (cap := cap) (by rw [hzn]; exact hcap) hbig hc' hs'
  obtain ⟨s₂, v', L', h1, h2⟩ := hr h' _ rfl E' ⟨_, A', by rw [sz_new, hzn], hzl, fun i hi => by simp [newA, hzn, hi], fun i _ => by cases aty <;> rfl⟩ k1 k2 k3 k4 k5 k6 k7 k8 T' _ X' e' N
  exact ⟨s₂, v', L', k _ h1, h2⟩
def updI (g : Nat → Int32) (i : Nat) (x : Int32) : Nat → Int32 := fun k => if k = i then x else g k
def Ari (Z : State) (h : Heap) (a : Addr) (ty : FieldType) (n : Nat) (g : Nat → Int32) : Prop := Arf Z h a ty n (fun i => .int (g i))
theorem Ari.lt {a : Addr} {ty : FieldType} {n : Nat} {g : Nat → Int32} (A : Ari Z h a ty n g) : a < h.size := Arf.lt A
theorem Ari.small {a : Addr} {ty : FieldType} {n : Nat} {g : Nat → Int32} (A : Ari Z h a ty n g) : n < 2147483648 := Arf.small A
theorem Ari.keep {h' : Heap} {ws : List Addr} {a : Addr} {ty : FieldType} {n : Nat} {g : Nat → Int32} (A : Ari Z h a ty n g) (K : Keep h h' ws) (q : a ∉ ws) : Ari Z h' a ty n g := Arf.keep A K q
theorem Ari.ext {h' : Heap} {a : Addr} {ty : FieldType} {n : Nat} {g : Nat → Int32} (A : Ari Z h a ty n g) (E : Ext h h') : Ari Z h' a ty n g := Arf.ext A E
theorem Ari.congr {a : Addr} {ty : FieldType} {n : Nat} {f g : Nat → Int32} (A : Ari Z h a ty n f) (q : ∀ i, i < n → f i = g i) : Ari Z h a ty n g := Arf.congr A fun i hi => congrArg Value.int (q i hi)
theorem upd_at (g : Nat → Int32) (i : Nat) (x : Int32) : updI g i x i = x := if_pos rfl
theorem upd_ne {g : Nat → Int32} {i k : Nat} {x : Int32} (q : k ≠ i) : updI g i x k = g k := if_neg q
theorem upd_if (g : Nat → Int32) (i : Nat) (x : Int32) : (fun k => if k = i then Value.int x else Value.int (g k)) = fun k => Value.int (updI g i x k) := by funext k; unfold updI; split <;> rfl
theorem litN (z : Int32) (n : Nat) (h : z.toInt = (n : Int)) : z.toInt = (n : Int) := h
theorem WP.baloadI {a : Addr} {j : Int32} {n : Nat} {g : Nat → Int32} {v : Int32} (i : Nat) (hd : decode code pc = .ok (.baload, 1)) (hp : pc + 1 = pc') (A : Ari Z h a .byte n g) (hi : j.toInt = (i : Int)) (hl : i < n) (hv : g i = v) (hr : WPG C Z code ml own rt nm R n0 G cl sl h pc' Ls (.int v :: st)) : WPG C Z code ml own rt nm R n0 G cl sl h pc Ls (.int j :: .ref a :: st) := WP.baload i hd hp A hi hl (congrArg Value.int hv) hr
theorem WP.baloadZI {a : Addr} {j : Int32} {n : Nat} {g : Nat → Int32} {v : Int32} (i : Nat) (hd : decode code pc = .ok (.baload, 1)) (hp : pc + 1 = pc') (A : Ari Z h a .boolean n g) (hi : j.toInt = (i : Int)) (hl : i < n) (hv : g i = v) (hr : WPG C Z code ml own rt nm R n0 G cl sl h pc' Ls (.int v :: st)) : WPG C Z code ml own rt nm R n0 G cl sl h pc Ls (.int j :: .ref a :: st) := WP.baloadZ i hd hp A hi hl (congrArg Value.int hv) hr
theorem WP.caloadI {a : Addr} {j : Int32} {n : Nat} {g : Nat → Int32} {v : Int32} (i : Nat) (hd : decode code pc = .ok (.caload, 1)) (hp : pc + 1 = pc') (A : Ari Z h a .char n g) (hi : j.toInt = (i : Int)) (hl : i < n) (hv : g i = v) (hr : WPG C Z code ml own rt nm R n0 G cl sl h pc' Ls (.int v :: st)) : WPG C Z code ml own rt nm R n0 G cl sl h pc Ls (.int j :: .ref a :: st) := WP.caload i hd hp A hi hl (congrArg Value.int hv) hr
theorem WP.ialoadI {a : Addr} {j : Int32} {n : Nat} {g : Nat → Int32} {v : Int32} (i : Nat) (hd : decode code pc = .ok (.iaload, 1)) (hp : pc + 1 = pc') (A : Ari Z h a .int n g) (hi : j.toInt = (i : Int)) (hl : i < n) (hv : g i = v) (hr : WPG C Z code ml own rt nm R n0 G cl sl h pc' Ls (.int v :: st)) : WPG C Z code ml own rt nm R n0 G cl sl h pc Ls (.int j :: .ref a :: st) := WP.iaload i hd hp A hi hl (congrArg Value.int hv) hr
theorem WP.saloadI {a : Addr} {j : Int32} {n : Nat} {g : Nat → Int32} {v : Int32} (i : Nat) (hd : decode code pc = .ok (.saload, 1)) (hp : pc + 1 = pc') (A : Ari Z h a .short n g) (hi : j.toInt = (i : Int)) (hl : i < n) (hv : g i = v) (hr : WPG C Z code ml own rt nm R n0 G cl sl h pc' Ls (.int v :: st)) : WPG C Z code ml own rt nm R n0 G cl sl h pc Ls (.int j :: .ref a :: st) := WP.saload i hd hp A hi hl (congrArg Value.int hv) hr
theorem WP.bastoreI {a : Addr} {j x x' : Int32} {n : Nat} {g : Nat → Int32} (i : Nat) (hd : decode code pc = .ok (.bastore, 1)) (hp : pc + 1 = pc') (A : Ari Z h a .byte n g) (hi : j.toInt = (i : Int)) (hl : i < n) (ge : n0 ≤ a) (hx : nar .byte x = x') (hr : ∀ h', Keep h h' [a] → Ari Z h' a .byte n (updI g i x') → WPG C Z code ml own rt nm R n0 G cl sl h' pc' Ls st) : WPG C Z code ml own rt nm R n0 G cl sl h pc Ls (.int x :: .int j :: .ref a :: st) := by
  subst hx
  exact WP.bastore i hd hp A hi hl ge fun h' K A' => hr h' K (by unfold Ari; rw [← upd_if]; exact A')
theorem WP.castoreI {a : Addr} {j x x' : Int32} {n : Nat} {g : Nat → Int32} (i : Nat) (hd : decode code pc = .ok (.castore, 1)) (hp : pc + 1 = pc') (A : Ari Z h a .char n g) (hi : j.toInt = (i : Int)) (hl : i < n) (ge : n0 ≤ a) (hx : nar .char x = x') (hr : ∀ h', Keep h h' [a] → Ari Z h' a .char n (updI g i x') → WPG C Z code ml own rt nm R n0 G cl sl h' pc' Ls st) : WPG C Z code ml own rt nm R n0 G cl sl h pc Ls (.int x :: .int j :: .ref a :: st) := by
  subst hx
  exact WP.castore i hd hp A hi hl ge fun h' K A' => hr h' K (by unfold Ari; rw [← upd_if]; exact A')
theorem WP.iastoreI {a : Addr} {j x x' : Int32} {n : Nat} {g : Nat → Int32} (i : Nat) (hd : decode code pc = .ok (.iastore, 1)) (hp : pc + 1 = pc') (A : Ari Z h a .int n g) (hi : j.toInt = (i : Int)) (hl : i < n) (ge : n0 ≤ a) (hx : x = x') (hr : ∀ h', Keep h h' [a] → Ari Z h' a .int n (updI g i x') → WPG C Z code ml own rt nm R n0 G cl sl h' pc' Ls st) : WPG C Z code ml own rt nm R n0 G cl sl h pc Ls (.int x :: .int j :: .ref a :: st) := by
  subst hx
  exact WP.iastore i hd hp A hi hl ge fun h' K A' => hr h' K (by unfold Ari; rw [← upd_if]; exact A')
theorem WP.newPI {aty : ArrayType} {ty : FieldType} {z : Int32} {n cap : Nat} {cl' sl' : Nat} (hd : decode code pc = .ok (.newarray aty, 2)) (hp : pc + 2 = pc') (hty : newarray.typeOf aty = ty) (hdv : defaultValue ty = .int 0) (w : (Jvm.Cond.arrayClass ty).before a0 Z = true) (hz : z.toInt = (n : Int)) (hcap : n ≤ cap) (hbig : cap * 8 ≤ 536870912) (hc : cl + 1 = cl') (hs : sl + cap = sl') (hc' : cl' ≤ R.cells) (hs' : sl' ≤ R.slots)
    (hr : ∀ h' a, a = h.size → Ext h h' → Ari Z h' a ty n (fun _ => 0) → WPG C Z code ml own rt nm R n0 G cl' sl' h' pc' Ls (.ref a :: st)) : WPG C Z code ml own rt nm R n0 G cl sl h pc Ls (.int z :: st) := by
  subst hty
  exact WP.newP hd hp w hz hcap hbig hc hs hc' hs' fun h' a e E A => hr h' a e E (by rw [hdv] at A; exact A)
theorem WP.arraylengthI {a : Addr} {n : Nat} {g : Nat → Int32} {ty : FieldType} {z : Int32} (hd : decode code pc = .ok (.arraylength, 1)) (hp : pc + 1 = pc') (A : Ari Z h a ty n g) (hz : n.toInt32 = z) (hr : WPG C Z code ml own rt nm R n0 G cl sl h pc' Ls (.int z :: st)) : WPG C Z code ml own rt nm R n0 G cl sl h pc Ls (.ref a :: st) := WP.arraylength hd hp A hz hr
/-- the array's class is that of arrays of C -/
def Ocl (Z : State) (h : Heap) (a : Addr) (K : String) : Prop := ∃ c : Cell, h[a]? = some c ∧ Ovr Z c.cls K
theorem Ocl.ext {h' : Heap} {a : Addr} {K : String} (O : Ocl Z h a K) (E : Ext h h') : Ocl Z h' a K := by obtain ⟨c, h1, h2⟩ := O; exact ⟨c, E.2 _ _ h1, h2⟩
theorem Ocl.keep {h' : Heap} {ws : List Addr} {a : Addr} {K : String} (O : Ocl Z h a K) (E : Keep h h' ws) : Ocl Z h' a K := by
  obtain ⟨c, h1, h2⟩ := O
  obtain ⟨c', q1, q2, -⟩ := E.2.2 _ _ h1
  exact ⟨c', q1, by rw [q2]; exact h2⟩
theorem Ocl.sto {a y : Addr} {K : String} {ty : FieldType} {n : Nat} {f : Nat → Value} (O : Ocl Z h a K) (A : Arf Z h a ty n f) (I : Ins Z h y K true) : Sto Z h a (.ref y) := by
  obtain ⟨c, h1, h2⟩ := O
  obtain ⟨c', A, -⟩ := A
  cases h1.symm.trans A.1
  exact Sto.of A h2 I
def updV (g : Nat → Value) (i : Nat) (x : Value) : Nat → Value := fun k => if k = i then x else g k
theorem WP.newR {i n cap : Nat} {K : String} {z : Int32} {cl' sl' : Nat} (hd : decode code pc = .ok (.anewarray i, 3)) (hp : pc + 3 = pc') (w1 : (Jvm.Cond.classLink own i K).before a0 Z = true) (w2 : (Jvm.Cond.arrayOver (.object K)).before a0 Z = true) (hz : z.toInt = (n : Int)) (hcap : n ≤ cap) (hbig : cap * 8 ≤ 536870912) (hc : cl + 1 = cl') (hs : sl + cap = sl') (hc' : cl' ≤ R.cells) (hs' : sl' ≤ R.slots)
    (hr : ∀ h' a, a = h.size → Ext h h' → Arf Z h' a (.object K) n (fun _ => .null) → Ocl Z h' a K → WPG C Z code ml own rt nm R n0 G cl' sl' h' pc' Ls (.ref a :: st)) : WPG C Z code ml own rt nm R n0 G cl sl h pc Ls (.int z :: st) := by
  subst hp hc hs
  have e0 : (0 : Int32).toInt = 0 := rfl
  have hzn : z.toNatClampNeg = n := by simp only [Int32.toNatClampNeg, hz]; omega
  have hzl : n < 2147483648 := by have := z.toInt_lt; omega
  intro k1 k2 k3 k4 k5 k6 k7 k8 T locs X e N
  obtain ⟨T', h', cA, X', e', E', A', O', k⟩ := RoadKit.newR X k1 k5 k4 w1 w2 e (g := mkF _ pc Ls (.int z :: st)) rfl (hb k2 hd) rfl (by rw [Int32.lt_iff_toInt_lt, hz, e0]; omega) (cap := cap) (by rw [hzn]; exact hcap) hbig hc' hs'
  obtain ⟨s₂, v', L', h1, h2⟩ := hr h' _ rfl E' ⟨_, A', by rw [sz_new, hzn], hzl, fun i hi => by simp [newA, hzn, hi, defaultValue], fun i _ => rfl⟩ ⟨_, A'.1, O'⟩ k1 k2 k3 k4 k5 k6 k7 k8 T' _ X' e' N
  exact ⟨s₂, v', L', k _ h1, h2⟩
theorem WP.aastore {a : Addr} {j : Int32} {x : Value} {n : Nat} {f : Nat → Value} {ty : FieldType} (i : Nat) (hd : decode code pc = .ok (.aastore, 1)) (hp : pc + 1 = pc') (A : Arf Z h a ty n f) (hty : ty.isReference = true) (F : Sto Z h a x) (hf : fits ty x = true) (hi : j.toInt = (i : Int)) (hl : i < n) (ge : n0 ≤ a) (hr : ∀ h', Keep h h' [a] → Arf Z h' a ty n (updV f i x) → WPG C Z code ml own rt nm R n0 G cl sl h' pc' Ls st) : WPG C Z code ml own rt nm R n0 G cl sl h pc Ls (x :: .int j :: .ref a :: st) := by
  subst hp
  obtain ⟨c, A, r1, r2, r3, r4⟩ := A
  obtain ⟨q1, q2⟩ := idxN hi hl
  intro k1 k2 k3 k4 k5 k6 k7 k8 T locs X e N
  obtain ⟨T', h', X', e', W', k⟩ := stR X k1 k5 e A (j := j) (by rw [r1]; exact q1) hty F (g := mkF _ pc Ls (x :: .int j :: .ref a :: st)) rfl rfl (hb k2 hd)
  obtain ⟨s₂, v', L', h1, h2⟩ := hr h' (Keep.of_wr W') (Arf.set A r1 r2 r3 r4 hf W' q2 hl) k1 k2 k3 k4 k5 k6 k7 k8 T' _ X' e' (Fr.snoc X' N ge)
  exact ⟨s₂, v', L', k _ h1, h2⟩
theorem getD_range {f : Nat → Int32} {m n : Nat} (h : m < n) : ((List.range n).map fun i => Value.int (f i)).getD m (.int 0) = .int (f m) := by
  simp [List.getD_eq_getElem?_getD, h]
theorem Ari.arv {a : Addr} {ty : FieldType} {n : Nat} {g : Nat → Int32} (A : Ari Z h a ty n g) : ∃ (k : ClassId) (z : Int32), z.toNatClampNeg = n ∧ Arv Z h a k ty z ((List.range n).map fun i => Value.int (g i)) (.int 0) := by
  obtain ⟨c, A, r1, r2, r3, r4⟩ := A
  have e1 : n.toInt32.toInt = (n : Int) := len_toInt r2
  have e0 : (0 : Int32).toInt = 0 := rfl
  have e2 : n.toInt32.toNatClampNeg = n := by simp only [Int32.toNatClampNeg, e1]; omega
  refine ⟨c.cls, n.toInt32, e2, c, A, rfl, by rw [e2]; exact r1, by rw [Int32.lt_iff_toInt_lt, e1, e0]; omega, fun i hi => ?_, fun i hi => ?_⟩
  · rw [r1] at hi; rw [getD_range hi]; exact r3 i hi
  · rw [r1] at hi; rw [getD_range hi]; exact r4 i hi
/-- n elements of f from sp on, laid into g from dp on -/
def blit (f g : Nat → Int32) (sp dp n : Nat) : Nat → Int32 := fun k => if dp ≤ k ∧ k < dp + n then f (sp + (k - dp)) else g k
theorem WP.arraycopy {i : Nat} {a b : Addr} {ty : FieldType} {na nb sp dp nn wd : Nat} {zs zd zn : Int32} {f g : Nat → Int32} (hd : decode code pc = .ok (.invokestatic i, 3)) (hp : pc + 3 = pc') (w1 : (Jvm.Cond.methodLink own i Jvm.Stand.acN).before a0 Z = true) (w2 : (Jvm.Cond.native Jvm.Stand.acN).before a0 Z = true) (w3 : (Jvm.Cond.static Jvm.Stand.acN).before a0 Z = true) (w4 : (Jvm.Cond.initialized "java/lang/System").before a0 Z = true) (A : Ari Z h a ty na f) (B : Ari Z h b ty nb g) (hty : refKind ty = false) (hs1 : zs.toInt = (sp : Int)) (hd1 : zd.toInt = (dp : Int)) (hn1 : zn.toInt = (nn : Int)) (h4 : sp + nn ≤ na) (h5 : dp + nn ≤ nb) (ge : n0 ≤ b) (hml : Ls.size = ml) (hf : 1 ≤ R.frames) (hw : (st.map fun v => v.category).sum ≤ wd) (hlo : wd + (nativeFrameWords "java/lang/System" "arraycopy" 5 + 11) ≤ R.locals)
    (hr : ∀ h', Keep h h' [b] → Ari Z h' b ty nb (blit f g sp dp nn) → WPG C Z code ml own rt nm R n0 G cl sl h' pc' Ls st) : WPG C Z code ml own rt nm R n0 G cl sl h pc Ls (.int zn :: .int zd :: .ref b :: .int zs :: .ref a :: st) := by
  subst hp
  obtain ⟨ka, za, ea, A'⟩ := A.arv
  obtain ⟨kb, zb, eb, B'⟩ := B.arv
  have hsm := B.small
  have e0 : (0 : Int32).toInt = 0 := rfl
  have q1 : zs.toNatClampNeg = sp := by simp only [Int32.toNatClampNeg, hs1]; omega
  have q2 : zd.toNatClampNeg = dp := by simp only [Int32.toNatClampNeg, hd1]; omega
  have q3 : zn.toNatClampNeg = nn := by simp only [Int32.toNatClampNeg, hn1]; omega
  intro k1 k2 k3 k4 k5 k6 k7 k8 T locs X e N
  obtain ⟨T', h', L', X', e', N', K', V', k⟩ := cpA X k1 k5 k4 w1 w2 w3 w4 e (sp := zs) (dp := zd) (nn := zn) A' B' (Or.inl ⟨rfl, hty⟩) (by rw [Int32.lt_iff_toInt_lt, hs1, e0]; omega) (by rw [Int32.lt_iff_toInt_lt, hd1, e0]; omega) (by rw [Int32.lt_iff_toInt_lt, hn1, e0]; omega) (by rw [q1, q3, ea]; exact h4) (by rw [q2, q3, eb]; exact h5) rfl (by rw [q2, q3, List.length_map, List.length_range]; exact h5) N ge (g := mkF _ pc Ls (.int zn :: .int zd :: .ref b :: .int zs :: .ref a :: st)) rfl (by rw [k3]; exact hml) rfl (hb k2 hd) hf (W := wd) (by show 2 * 0 + _ ≤ _; omega) hlo
  rw [q1, q2, q3] at V'
  have VV : Ari Z h' b ty nb (blit f g sp dp nn) := by
    obtain ⟨c, A, r1, r2, r3, H, G⟩ := V'
    rw [eb] at r2
    have key : ∀ i, i < nb → (((List.range nb).map fun i => Value.int (g i)).take dp ++ (List.range nn).map (fun i => ((List.range na).map fun i => Value.int (f i)).getD (sp + i) (.int 0)) ++ ((List.range nb).map fun i => Value.int (g i)).drop (dp + nn)).getD i (.int 0) = .int (blit f g sp dp nn i) := by
      intro i hi
      simp only [List.getD_eq_getElem?_getD, blit]
      by_cases c1 : i < dp
      · rw [List.append_assoc, List.getElem?_append_left (by simp; omega), if_neg (by omega)]; simp [List.getElem?_take, c1, hi]
      · by_cases c2 : i < dp + nn
        · rw [List.getElem?_append_left (by simp; omega), List.getElem?_append_right (by simp; omega), if_pos (by omega)]
          have z1 : min dp nb = dp := by omega
          have z2 : i - dp < nn := by omega
          have z3 : sp + (i - dp) < na := by omega
          simp [z1, z2, z3]
        · rw [List.getElem?_append_right (by simp; omega), if_neg (by omega)]
          have z1 : min dp nb = dp := by omega
          have z2 : dp + nn + (i - (dp + nn)) = i := by omega
          simp [z1, z2, hi]
    exact ⟨c, A, r2, hsm, fun i hi => by rw [H i (by rw [r2]; exact hi), key i hi], fun i hi => by have := G i (by rw [r2]; exact hi); rw [key i hi] at this; exact this⟩
  obtain ⟨s₂, v', L2, h1, h2⟩ := hr h' K' VV k1 k2 k3 k4 k5 k6 k7 k8 T' _ X' e' N'
  exact ⟨s₂, v', L2, k _ h1, h2⟩
theorem WP.initO {i : Nat} {a : Addr} {wd : Nat} (hd : decode code pc = .ok (.invokespecial i, 3)) (hp : pc + 3 = pc') (w1 : (Jvm.Cond.methodLink own i Lib.objectInit).before a0 Z = true) (w2 : (Jvm.Cond.instanceMethod Lib.objectInit).before a0 Z = true) (w3 : (Jvm.Cond.code Lib.objectInit ⟨#[0xb1]⟩ 1 none).before a0 Z = true) (hml : Ls.size = ml) (hf : 1 ≤ R.frames) (hw : (st.map fun v => v.category).sum ≤ wd) (hl : wd + 12 ≤ R.locals) (hr : WPG C Z code ml own rt nm R n0 G cl sl h pc' Ls st) : WPG C Z code ml own rt nm R n0 G cl sl h pc Ls (.ref a :: st) := by
  subst hp
  refine hr.step fun X hx hby hml' hown hZ hnm eT N => ?_
  obtain ⟨T', X', e', k⟩ := RoadKit.initO X hx hZ hown w1 w2 w3 eT (g := mkF _ pc Ls (.ref a :: st)) rfl (by rw [hml']; exact hml) rfl (hb hby hd) hf (W := wd) (by show 2 * 0 + _ ≤ _; omega) hl
  exact ⟨T', _, X', e', N, fun t q => k t q⟩
theorem WP.callS {i : Nat} {y : MethodName} {code' : ByteArray} {ml' wd cl' sl' : Nat} {rt' : Option FieldType} {R' : Room} {Q' : Option Value → Heap → Prop} {argsL rest : List Value} {ps : List FieldType} {rr : Option FieldType} (hd : decode code pc = .ok (.invokestatic i, 3)) (hp : pc + 3 = pc') (w1 : (Jvm.Cond.methodLink own i y).before a0 Z = true) (w2 : (Jvm.Cond.static y).before a0 Z = true) (w3 : (Jvm.Cond.initialized y.cls).before a0 Z = true) (w4 : (Jvm.Cond.code y code' ml' rt').before a0 Z = true) (hy : y.cls ≠ "java/lang/invoke/MethodHandle" ∧ y.cls ≠ "java/lang/invoke/VarHandle") (hM : ∀ l, Does l Z y code' ml' rt' R' n0 argsL.toArray h Q') (hpd : parseMethodDescriptor y.desc = some ⟨ps, rr⟩) (hlen : argsL.length = ps.length) (hst : st = argsL.reverse ++ rest) (hml : Ls.size = ml) (hw : (rest.map fun v => v.category).sum ≤ wd) (hrm : R'.frames + 1 ≤ R.frames) (hlo : wd + (ml' + 11) + R'.locals ≤ R.locals) (hc : cl + R'.cells = cl') (hs : sl + R'.slots = sl') (hc' : cl' ≤ R.cells) (hs' : sl' ≤ R.slots)
    (hr : ∀ v h', Q' v h' → WPG C Z code ml own rt nm R n0 G cl' sl' h' pc' Ls (v.toList ++ rest)) : WPG C Z code ml own rt nm R n0 G cl sl h pc Ls st := by
  subst hp hc hs
  intro k1 k2 k3 k4 k5 k6 k7 k8 T locs X e N
  obtain ⟨v, _, ⟨T', L', c', n'⟩, -, X', ⟨Lc, hQ, l1, y1, z1⟩, k⟩ := Jvm.LawKit.callS X k1 (y := y) k4 (mvT k5 w1) (mvT k5 w2) (mvT k5 w3) (mvT k5 w4) hy (backOf (W := wd) (Q := fun v h L => Q' v h ∧ Fr n0 L) (hM _ []) k5 w4 w3 hrm hlo) (g := mkF _ pc Ls st) rfl (by rw [k3]; exact hml) (argsL := argsL) (rest := rest) (lenOf hpd hlen) hst (by show 2 * 0 + _ ≤ _; omega) (hb k2 hd) (fun _ _ => ⟨rfl, e, hc', hs'⟩)
  dsimp only [Pt.U, Pt.locs, Pt.cells, Pt.slots] at X' l1 y1 z1 k hQ
  subst l1 y1 z1
  obtain ⟨s₂, v', L2, h1, h2⟩ := hr v _ hQ.1 k1 k2 k3 k4 k5 k6 k7 k8 T' _ X' rfl (Fr.app N hQ.2)
  exact ⟨s₂, v', L2, k _ h1, h2⟩
theorem WP.callI {a : Addr} {i : Nat} {y : MethodName} {code' : ByteArray} {ml' wd cl' sl' : Nat} {R' : Room} {Q' : Option Value → Heap → Prop} {argsL rest : List Value} {ps : List FieldType} {rr : Option FieldType} (hd : decode code pc = .ok (.invokespecial i, 3)) (hp : pc + 3 = pc') (hy1 : y.name = "<init>") (w1 : (Jvm.Cond.methodLink own i y).before a0 Z = true) (w2 : (Jvm.Cond.instanceMethod y).before a0 Z = true) (w3 : (Jvm.Cond.initialized y.cls).before a0 Z = true) (w4 : (Jvm.Cond.code y code' ml' none).before a0 Z = true) (hy : y.cls ≠ "java/lang/invoke/MethodHandle" ∧ y.cls ≠ "java/lang/invoke/VarHandle") (hM : ∀ l, Does l Z y code' ml' none R' n0 (.ref a :: argsL).toArray h Q') (hpd : parseMethodDescriptor y.desc = some ⟨ps, rr⟩) (hlen : argsL.length = ps.length) (hst : st = argsL.reverse ++ .ref a :: rest) (hml : Ls.size = ml) (hw : (rest.map fun v => v.category).sum ≤ wd) (hrm : R'.frames + 1 ≤ R.frames) (hlo : wd + (ml' + 11) + R'.locals ≤ R.locals) (hc : cl + R'.cells = cl') (hs : sl + R'.slots = sl') (hc' : cl' ≤ R.cells) (hs' : sl' ≤ R.slots)
    (hr : ∀ v h', Q' v h' → WPG C Z code ml own rt nm R n0 G cl' sl' h' pc' Ls (v.toList ++ rest)) : WPG C Z code ml own rt nm R n0 G cl sl h pc Ls st := by
  subst hp hc hs
  intro k1 k2 k3 k4 k5 k6 k7 k8 T locs X e N
  obtain ⟨v, _, ⟨T', L', c', n'⟩, -, X', ⟨Lc, hQ, l1, y1, z1⟩, k⟩ := X.specialBack k1 (y := y) hy1 k4 (mvT k5 w1) (mvT k5 w2) (mvT k5 w4) hy (backOf (W := wd) (Q := fun v h L => Q' v h ∧ Fr n0 L) (hM _ []) k5 w4 w3 hrm hlo) (g := mkF _ pc Ls st) rfl (by rw [k3]; exact hml) (Steps.refl _) (a := a) (argsL := argsL) (rest := rest) (lenOf hpd hlen) hst (by show 2 * 0 + _ ≤ _; omega) (hb k2 hd) (fun _ _ => ⟨rfl, e, hc', hs'⟩)
  dsimp only [Pt.U, Pt.locs, Pt.cells, Pt.slots] at X' l1 y1 z1 k hQ
  subst l1 y1 z1
  obtain ⟨s₂, v', L2, h1, h2⟩ := hr v _ hQ.1 k1 k2 k3 k4 k5 k6 k7 k8 T' _ X' rfl (Fr.app N hQ.2)
  exact ⟨s₂, v', L2, k.trans h1, h2⟩
theorem WP.callV {a : Addr} {z : MethodName} {K : String} {i : Nat} {y : MethodName} {code' : ByteArray} {ml' wd cl' sl' : Nat} {rt' : Option FieldType} {R' : Room} {Q' : Option Value → Heap → Prop} {argsL rest : List Value} {ps : List FieldType} {rr : Option FieldType} (hd : decode code pc = .ok (.invokevirtual i, 3)) (hp : pc + 3 = pc') (w1 : (Jvm.Cond.methodLink own i y).before a0 Z = true) (wd1 : (Jvm.Cond.declares y).before a0 Z = true) (hnf : ∀ s : State, Z.Warmed39 s.vm → NotFace s y) (ws : (Jvm.Cond.selects K y z).before a0 Z = true) (w2 : (Jvm.Cond.instanceMethod z).before a0 Z = true) (w3 : (Jvm.Cond.initialized z.cls).before a0 Z = true) (w4 : (Jvm.Cond.code z code' ml' rt').before a0 Z = true) (hy : y.cls ≠ "java/lang/invoke/MethodHandle" ∧ y.cls ≠ "java/lang/invoke/VarHandle") (E : Exa Z h a K) (hM : ∀ l, Does l Z z code' ml' rt' R' n0 (.ref a :: argsL).toArray h Q') (hpd : parseMethodDescriptor y.desc = some ⟨ps, rr⟩) (hlen : argsL.length = ps.length) (hst : st = argsL.reverse ++ .ref a :: rest) (hml : Ls.size = ml) (hw : (rest.map fun v => v.category).sum ≤ wd) (hrm : R'.frames + 1 ≤ R.frames) (hlo : wd + (ml' + 11) + R'.locals ≤ R.locals) (hc : cl + R'.cells = cl') (hs : sl + R'.slots = sl') (hc' : cl' ≤ R.cells) (hs' : sl' ≤ R.slots)
    (hr : ∀ v h', Q' v h' → WPG C Z code ml own rt nm R n0 G cl' sl' h' pc' Ls (v.toList ++ rest)) : WPG C Z code ml own rt nm R n0 G cl sl h pc Ls st := by
  subst hp hc hs
  intro k1 k2 k3 k4 k5 k6 k7 k8 T locs X e N
  obtain ⟨cq, kq, q1, q2, q3⟩ := isOf k5 e E
  obtain ⟨v, _, ⟨T', L', c', n'⟩, -, X', ⟨Lc, hQ, l1, y1, z1⟩, k⟩ := X.virtualBack k1 (y := y) (z := z) k4 (mvT k5 w1) (mvT k5 wd1) (hnf _ k5) (mvT k5 ws) (mvT k5 w2) hy (backOf (W := wd) (Q := fun v h L => Q' v h ∧ Fr n0 L) (hM _ []) k5 w4 w3 hrm hlo) q1 q3 (g := mkF _ pc Ls st) rfl (by rw [k3]; exact hml) (Steps.refl _) (argsL := argsL) (rest := rest) (lenOf hpd hlen) hst (by show 2 * 0 + _ ≤ _; omega) (hb k2 hd) (fun _ _ => ⟨rfl, e, hc', hs'⟩)
  dsimp only [Pt.U, Pt.locs, Pt.cells, Pt.slots] at X' l1 y1 z1 k hQ
  subst l1 y1 z1
  obtain ⟨s₂, v', L2, h1, h2⟩ := hr v _ hQ.1 k1 k2 k3 k4 k5 k6 k7 k8 T' _ X' rfl (Fr.app N hQ.2)
  exact ⟨s₂, v', L2, k.trans h1, h2⟩
theorem nfS {y z : MethodName} {K : String} (ws : (Jvm.Cond.selects K y z).before a0 Z = true) (e : y = z) : ∀ s : State, Z.Warmed39 s.vm → NotFace s y := by subst e; exact fun s k => notFace_of_selects (args := #[]) (mvT k ws)
theorem WP.callP {a : Addr} {K : String} {i : Nat} {y : MethodName} {code' : ByteArray} {ml' wd cl' sl' : Nat} {rt' : Option FieldType} {R' : Room} {Q' : Option Value → Heap → Prop} {argsL rest : List Value} {ps : List FieldType} {rr : Option FieldType} (hd : decode code pc = .ok (.invokevirtual i, 3)) (hp : pc + 3 = pc') (w1 : (Jvm.Cond.methodLink own i y).before a0 Z = true) (w2 : (Jvm.Cond.instanceMethod y).before a0 Z = true) (ws : (Jvm.Cond.selects y.cls y y).before a0 Z = true) (wp : (Jvm.Cond.privateMethod y).before a0 Z = true) (w3 : (Jvm.Cond.initialized y.cls).before a0 Z = true) (w4 : (Jvm.Cond.code y code' ml' rt').before a0 Z = true) (hy : y.cls ≠ "java/lang/invoke/MethodHandle" ∧ y.cls ≠ "java/lang/invoke/VarHandle") (E : Exa Z h a K) (hM : ∀ l, Does l Z y code' ml' rt' R' n0 (.ref a :: argsL).toArray h Q') (hpd : parseMethodDescriptor y.desc = some ⟨ps, rr⟩) (hlen : argsL.length = ps.length) (hst : st = argsL.reverse ++ .ref a :: rest) (hml : Ls.size = ml) (hw : (rest.map fun v => v.category).sum ≤ wd) (hrm : R'.frames + 1 ≤ R.frames) (hlo : wd + (ml' + 11) + R'.locals ≤ R.locals) (hc : cl + R'.cells = cl') (hs : sl + R'.slots = sl') (hc' : cl' ≤ R.cells) (hs' : sl' ≤ R.slots)
    (hr : ∀ v h', Q' v h' → WPG C Z code ml own rt nm R n0 G cl' sl' h' pc' Ls (v.toList ++ rest)) : WPG C Z code ml own rt nm R n0 G cl sl h pc Ls st := by
  subst hp hc hs
  intro k1 k2 k3 k4 k5 k6 k7 k8 T locs X e N
  obtain ⟨cq, q1, q2⟩ := E.cell
  obtain ⟨v, _, ⟨T', L', c', n'⟩, -, X', ⟨Lc, hQ, l1, y1, z1⟩, k⟩ := X.privateBack k1 (y := y) k4 (mvT k5 w1) (mvT k5 w2) (mvT k5 ws) (Cond.privateMethod_at (mvP k5 wp (args := #[]))) (mvT k5 w4) hy (backOf (W := wd) (Q := fun v h L => Q' v h ∧ Fr n0 L) (hM _ []) k5 w4 w3 hrm hlo) (g := mkF _ pc Ls st) rfl (by rw [k3]; exact hml) (Steps.refl _) (a := a) (by rw [e]; exact q1) q2 (argsL := argsL) (rest := rest) (lenOf hpd hlen) hst (by show 2 * 0 + _ ≤ _; omega) (hb k2 hd) (fun _ _ => ⟨rfl, e, hc', hs'⟩)
  dsimp only [Pt.U, Pt.locs, Pt.cells, Pt.slots] at X' l1 y1 z1 k hQ
  subst l1 y1 z1
  obtain ⟨s₂, v', L2, h1, h2⟩ := hr v _ hQ.1 k1 k2 k3 k4 k5 k6 k7 k8 T' _ X' rfl (Fr.app N hQ.2)
  exact ⟨s₂, v', L2, k.trans h1, h2⟩
theorem WP.iret {z : Int32} (hd : decode code pc = .ok (.ireturn, 1)) (hrt : rt = some .int) (hc : cl ≤ R.cells) (hs : sl ≤ R.slots) (hq : Q (some (.int z)) h) : WP C Z code ml own rt nm R n0 Q cl sl h pc Ls (.int z :: st) := by
  intro k1 k2 k3 k4 k5 k6 k7 k8 T locs X e N
  obtain ⟨fs, hr', hrun, hended, hW, hsame⟩ := X.leave (v := some (.int z)) (fun q => by rw [k6, hrt] at q; cases q) k7
  exact ⟨_, _, _, retOut X k1 (t := .int) (k6.trans hrt) rfl (Or.inl ⟨rfl, Or.inl rfl, _, rfl⟩) (hb k2 hd) hr', hrun, hended, by show Q _ T.heap; rw [e]; exact hq, N, ⟨_, rfl⟩, hW, hsame.mono hc hs⟩
theorem WP.lret {z : Int64} (hd : decode code pc = .ok (.lreturn, 1)) (hrt : rt = some .long) (hc : cl ≤ R.cells) (hs : sl ≤ R.slots) (hq : Q (some (.long z)) h) : WP C Z code ml own rt nm R n0 Q cl sl h pc Ls (.long z :: st) := by
  intro k1 k2 k3 k4 k5 k6 k7 k8 T locs X e N
  obtain ⟨fs, hr', hrun, hended, hW, hsame⟩ := X.leave (v := some (.long z)) (fun q => by rw [k6, hrt] at q; cases q) k7
  exact ⟨_, _, _, retOut X k1 (t := .long) (k6.trans hrt) rfl (Or.inr (Or.inl ⟨rfl, rfl, _, rfl⟩)) (hb k2 hd) hr', hrun, hended, by show Q _ T.heap; rw [e]; exact hq, N, ⟨_, rfl⟩, hW, hsame.mono hc hs⟩
theorem WP.dret {z : UInt64} (hd : decode code pc = .ok (.dreturn, 1)) (hrt : rt = some .double) (hc : cl ≤ R.cells) (hs : sl ≤ R.slots) (hq : Q (some (.double z)) h) : WP C Z code ml own rt nm R n0 Q cl sl h pc Ls (.double z :: st) := by
  intro k1 k2 k3 k4 k5 k6 k7 k8 T locs X e N
  obtain ⟨fs, hr', hrun, hended, hW, hsame⟩ := X.leave (v := some (.double z)) (fun q => by rw [k6, hrt] at q; cases q) k7
  exact ⟨_, _, _, retOut X k1 (t := .double) (k6.trans hrt) rfl (Or.inr (Or.inr (Or.inl ⟨rfl, rfl, _, rfl⟩))) (hb k2 hd) hr', hrun, hended, by show Q _ T.heap; rw [e]; exact hq, N, ⟨_, rfl⟩, hW, hsame.mono hc hs⟩
theorem WP.aret {z : Value} (hd : decode code pc = .ok (.areturn, 1)) {t : FieldType} (hrt : rt = some t) (ht : t.isReference = true) (hv : z.isRef = true) (hc : cl ≤ R.cells) (hs : sl ≤ R.slots) (hq : Q (some z) h) : WP C Z code ml own rt nm R n0 Q cl sl h pc Ls (z :: st) := by
  intro k1 k2 k3 k4 k5 k6 k7 k8 T locs X e N
  obtain ⟨fs, hr', hrun, hended, hW, hsame⟩ := X.leave (v := some z) (fun q => by rw [k6, hrt] at q; cases q) k7
  exact ⟨_, _, _, retOut X k1 (t := t) (k6.trans hrt) (by cases t <;> first | (cases ht; done) | rfl) (Or.inr (Or.inr (Or.inr (Or.inr ⟨rfl, ht, hv⟩)))) (hb k2 hd) hr', hrun, hended, by show Q _ T.heap; rw [e]; exact hq, N, ⟨_, rfl⟩, hW, hsame.mono hc hs⟩
theorem WP.nret {z : Int32} (hd : decode code pc = .ok (.ireturn, 1)) {t : FieldType} {z' : Int32} (hrt : rt = some t) (ht : t = .boolean ∨ t = .byte ∨ t = .char ∨ t = .short) (hz : nar t z = z') (hc : cl ≤ R.cells) (hs : sl ≤ R.slots) (hq : Q (some (.int z')) h) : WP C Z code ml own rt nm R n0 Q cl sl h pc Ls (.int z :: st) := by
  intro k1 k2 k3 k4 k5 k6 k7 k8 T locs X e N
  obtain ⟨fs, hr', hrun, hended, hW, hsame⟩ := X.leave (v := some (.int z')) (fun q => by rw [k6, hrt] at q; cases q) k7
  exact ⟨_, _, _, retN X k1 (t := t) (k6.trans hrt) ht (hb k2 hd) (by rw [hz]; exact hr'), hrun, hended, by show Q _ T.heap; rw [e]; exact hq, N, ⟨_, rfl⟩, hW, hsame.mono hc hs⟩
theorem WP.vret (hd : decode code pc = .ok (.return_, 1)) (hrt : rt = none) (hc : cl ≤ R.cells) (hs : sl ≤ R.slots) (hq : Q none h) : WP C Z code ml own rt nm R n0 Q cl sl h pc Ls [] := by
  intro k1 k2 k3 k4 k5 k6 k7 k8 T locs X e N
  obtain ⟨fs, hr', hrun, hended, hW, hsame⟩ := X.leave (v := none) (fun _ => rfl) k7
  exact ⟨_, _, _, X.returnOut k1 (k6.trans hrt) (hb k2 hd) hr', hrun, hended, by show Q _ T.heap; rw [e]; exact hq, N, ⟨_, rfl⟩, hW, hsame.mono hc hs⟩
end Rules
end Jvm.WK
namespace Jvm.WK
open Jvm Sem ClassFile Op Lib Jvm.Free Jvm.Stand Jvm.LawKit Jvm.RoadKit
def b2i (b : Bool) : Int32 := if b then 1 else 0
theorem selPriv {Z : State} {a0 : Array Value} {K : String} {y y' : MethodName} (w : (Jvm.Cond.selects K y' y').before a0 Z = true) (e : y'.cls = y.cls) (wp : (Jvm.Cond.privateMethod y).before a0 Z = true) (wi : (Jvm.Cond.instanceMethod y).before a0 Z = true) (hy : y.cls ≠ "java/lang/invoke/MethodHandle" ∧ y.cls ≠ "java/lang/invoke/VarHandle") : (Jvm.Cond.selects y.cls y y).before a0 Z = true := by
  obtain ⟨c2, r2, m2, -, -, q3, -, kP, hkP, hkPi⟩ := Cond.selects_spec w
  exact selects_self_of_private (by rw [← e]; exact findClass_of_methodNamed q3) hkP hkPi (Cond.privateMethod_at wp) wi hy
theorem b2i_t {P : Prop} [Decidable P] (h : P) : some (Value.int 1) = some (Value.int (b2i (decide P))) := by rw [decide_eq_true h]; rfl
theorem b2i_f {P : Prop} [Decidable P] (h : ¬ P) : some (Value.int 0) = some (Value.int (b2i (decide P))) := by rw [decide_eq_false h]; rfl
theorem b2i_congr {P P' : Prop} [Decidable P] [Decidable P'] (h : P ↔ P') : b2i (decide P) = b2i (decide P') := by rw [decide_eq_decide.mpr h]
theorem b2i_1 {b : Bool} : b2i b = 1 ↔ b = true := by cases b <;> simp [b2i]
theorem b2i_0 {b : Bool} : b2i b = 0 ↔ b = false := by cases b <;> simp [b2i]
theorem b2i_one (b : Bool) : b2i b &&& 1 = b2i b := by cases b <;> rfl
theorem eqInt_v {args : Array Value} {first s : State} {o : Option Outcome} {idx : List Nat} {t : Term} {k : Int32} (h : (Jvm.Cond.eq t (.int k)).value args first o s idx = some true) : t.eval args first o idx s = some (.int k) := by
  obtain ⟨x, y, e1, e2, k1, k2⟩ := cmp_v (Or.inl h)
  have e3 : y = .int k := by simpa [Term.eval] using e2.symm
  subst e3
  obtain ⟨z, rfl⟩ := k2
  simp [Cond.value, e1, Term.eval] at h
  rw [e1, h]
theorem Sta.of_exa {args : Array Value} {s : State} {C n d K : String} (h : (Jvm.Cond.exactly (.static C n d) K).value args s none s [] = some true) (hi : (Jvm.Cond.initializedFor C n d).before args s = true ∨ ((Jvm.Cond.initialized C).before args s = true ∧ (Jvm.Cond.laysStatic C n d).before args s = true)) :
    ∃ a, (Term.static C n d).eval args s none [] s = some (.ref a) ∧ Sta s s.heap C n d (.ref a) ∧ Exa s s.heap a K := by
  obtain ⟨a, e⟩ := exa_v h
  exact ⟨a, e, Sta.start e hi, Exa.start e h⟩
theorem Fld.of_eq {args : Array Value} {s : State} {t : Term} {a : Addr} {C n d : String} {k : Int32} (e : t.eval args s none [] s = some (.ref a)) (h : (Jvm.Cond.eq (.field t C n d) (.int k)).value args s none s [] = some true) : Fld s s.heap a C n d (.int k) := by
  have q := eqInt_v h
  rw [fld_at e] at q
  exact Fld.start q
theorem Ari.of_start {s : State} {a : Addr} {c : Cell} {ty : FieldType} (hf : Fit s) (A : Arr s s.heap a c ty) (ht : ty = .int ∨ ty = .boolean ∨ ty = .byte ∨ ty = .char ∨ ty = .short) (hsz : c.slots.size < 2147483648) :
    ∃ g : Nat → Int32, Ari s s.heap a ty c.slots.size g ∧ ∀ i x, c.slots[i]? = some (.int x) → g i = x := by
  have key : ∀ i, i < c.slots.size → ∃ x, c.slots[i]? = some (.int x) ∧ fits ty (.int x) = true := by
    intro i hi
    have e1 : i.toInt32.toInt = (i : Int) := len_toInt (show i < 2 ^ 31 by omega)
    have e : i.toInt32.toNatClampNeg = i := by simp only [Int32.toNatClampNeg, e1]; omega
    obtain ⟨v, h1, h2⟩ := elem_fit (j := i.toInt32) hf A (idx_in hi (show c.slots.size < 2 ^ 31 by omega))
    obtain ⟨x, rfl⟩ := fit_I h2 ht
    rw [e] at h1
    exact ⟨x, h1, h2⟩
  refine ⟨fun i => match c.slots[i]? with | some (.int x) => x | _ => 0, ⟨c, A, rfl, hsz, fun i hi => ?_, fun i hi => ?_⟩, fun i x h => by simp only [h]⟩
  · obtain ⟨x, h1, -⟩ := key i hi; simp only [h1]
  · obtain ⟨x, h1, h2⟩ := key i hi; simp only [h1]; exact h2
theorem len_small {args : Array Value} {first s : State} {o : Option Outcome} {idx : List Nat} {t : Term} {v : Value} {a : Addr} {c : Cell} (h : (Term.length t).eval args first o idx s = some v) (ht : t.eval args first o idx s = some (.ref a)) (ha : s.arrayAt? a = some c) : c.slots.size < 2 ^ 31 := by
  simp only [Term.eval, ht, ha, Option.bind_eq_bind, Option.bind_some] at h
  split at h
  · assumption
  · cases h
/-- an array that a static holds, pinned by a case's words -/
theorem Ari.of_static {s : State} {args : Array Value} {C n d : String} {ty : FieldType} {N : Int32} {k : Nat} (hf : Fit s) (hA : (Jvm.Cond.arrayOf (.static C n d) ty).value args s none s [] = some true) (hL : (Jvm.Cond.eq (.length (.static C n d)) (.int N)).value args s none s [] = some true)
    (ht : ty = .int ∨ ty = .boolean ∨ ty = .byte ∨ ty = .char ∨ ty = .short) (hi : (Jvm.Cond.initializedFor C n d).before args s = true ∨ ((Jvm.Cond.initialized C).before args s = true ∧ (Jvm.Cond.laysStatic C n d).before args s = true)) (hN : N.toInt = (k : Int)) :
    ∃ (a : Addr) (g : Nat → Int32), Sta s s.heap C n d (.ref a) ∧ Ari s s.heap a ty k g ∧
      (∀ (j x : Int32) (i : Nat), (Jvm.Cond.eq (.elem (.static C n d) (.int j)) (.int x)).value args s none s [] = some true → j.toInt = (i : Int) → g i = x) ∧
      (∀ c : Jvm.Cond, (Jvm.Cond.all (.static C n d) c).value args s none s [] = some true → ∀ i, i < k → c.value args s none s [i] = some true) ∧
      (∀ (i : Nat) (x : Int32), i < k → (Jvm.Cond.eq (.elem (.static C n d) (.index 0)) (.int x)).value args s none s [i] = some true → g i = x) := by
  obtain ⟨a, e⟩ := arr_v hA
  obtain ⟨c, A⟩ := Arr.start e hA
  have eL := eqInt_v hL
  have hat : s.arrayAt? a = some c := A.fin (Vm.Alike.refl _)
  have hsz : c.slots.size < 2 ^ 31 := len_small eL e hat
  obtain ⟨a', c', q1, q2, q3⟩ := Term.length_spec eL
  cases e.symm.trans q1
  cases hat.symm.trans q2
  have hk : c.slots.size = k := by
    have z := congrArg Int32.toInt (Value.int.inj q3)
    rw [len_toInt hsz] at z
    omega
  obtain ⟨g, G, hg⟩ := Ari.of_start hf A ht hsz
  rw [hk] at G
  refine ⟨a, g, Sta.start e hi, G, fun j x i h hj => ?_, fun c0 h i hi => Cond.all_elim e hat h i (by omega), fun i x hi h => ?_⟩
  · obtain ⟨h1, h2⟩ := elem_in (eqInt_v h) e (show (Term.int j).eval args s none [] s = some (.int j) from rfl) A.1
    have ej : j.toNatClampNeg = i := by simp only [Int32.toNatClampNeg, hj]; omega
    rw [ej] at h2
    exact hg i x h2
  · have e2 : (Term.static C n d).eval args s none [i] s = some (.ref a) := e
    obtain ⟨h1, h2⟩ := elem_in (eqInt_v h) e2 (show (Term.index 0).eval args s none [i] s = some (.int i.toInt32) from rfl) A.1
    have e1 : i.toInt32.toInt = (i : Int) := len_toInt (show i < 2 ^ 31 by omega)
    have ej : i.toInt32.toNatClampNeg = i := by simp only [Int32.toNatClampNeg, e1]; omega
    rw [ej] at h2
    exact hg i x h2
theorem Arf.of_static {s : State} {args : Array Value} {C n d K K' : String} {N : Int32} {k : Nat} {X : Jvm.Cond} (hA : (Jvm.Cond.arrayOf (.static C n d) (.object K)).value args s none s [] = some true) (hL : (Jvm.Cond.eq (.length (.static C n d)) (.int N)).value args s none s [] = some true)
    (hi : (Jvm.Cond.initializedFor C n d).before args s = true ∨ ((Jvm.Cond.initialized C).before args s = true ∧ (Jvm.Cond.laysStatic C n d).before args s = true)) (hN : N.toInt = (k : Int)) (hall : (Jvm.Cond.all (.static C n d) (.and (.exactly (.elem (.static C n d) (.index 0)) K') X)).value args s none s [] = some true) :
    ∃ (a : Addr) (f : Nat → Value), Sta s s.heap C n d (.ref a) ∧ Arf s s.heap a (.object K) k f ∧ ∀ i, i < k → ∃ y, f i = .ref y := by
  obtain ⟨a, e⟩ := arr_v hA
  obtain ⟨c, A⟩ := Arr.start e hA
  have eL := eqInt_v hL
  have hat : s.arrayAt? a = some c := A.fin (Vm.Alike.refl _)
  have hsz : c.slots.size < 2 ^ 31 := len_small eL e hat
  obtain ⟨a', c', q1, q2, q3⟩ := Term.length_spec eL
  cases e.symm.trans q1
  cases hat.symm.trans q2
  have hk : c.slots.size = k := by
    have z := congrArg Int32.toInt (Value.int.inj q3)
    rw [len_toInt hsz] at z
    omega
  have key : ∀ i, i < k → ∃ y, c.slots[i]? = some (.ref y) := fun i hi => by
    have h1 := (and_e (Cond.all_elim e hat hall i (by omega))).1
    obtain ⟨y, hy⟩ := exa_v h1
    have e2 : (Term.static C n d).eval args s none [i] s = some (.ref a) := e
    obtain ⟨-, h2⟩ := elem_in hy e2 (show (Term.index 0).eval args s none [i] s = some (.int i.toInt32) from rfl) A.1
    have e1 : i.toInt32.toInt = (i : Int) := len_toInt (show i < 2 ^ 31 by omega)
    have ej : i.toInt32.toNatClampNeg = i := by simp only [Int32.toNatClampNeg, e1]; omega
    rw [ej] at h2
    exact ⟨y, h2⟩
  refine ⟨a, fun i => (c.slots[i]?).getD .null, Sta.start e hi, ⟨c, A, hk, by omega, fun i hi => ?_, fun i hi => ?_⟩, fun i hi => ?_⟩
  · obtain ⟨y, hy⟩ := key i hi; simp [hy]
  · obtain ⟨y, hy⟩ := key i hi; simp [hy, fits]
  · obtain ⟨y, hy⟩ := key i hi; exact ⟨y, by simp [hy]⟩
theorem nar_char (x : Int32) : nar .char (nar .char x) = nar .char x := by
  have h1 := c_i2c x
  have h2 := c_i2c (nar .char x)
  apply Int32.toInt_inj.mp
  show (nar .char x).toUInt32.toUInt16.toUInt32.toInt32.toInt = x.toUInt32.toUInt16.toUInt32.toInt32.toInt
  have e : (nar .char x).toInt = x.toUInt32.toUInt16.toUInt32.toInt32.toInt := rfl
  omega
theorem idx_lt {args : Array Value} {s : State} {i : Nat} {lo : Int32} (hi : i < 2147483648) : (Jvm.Cond.lt (.index 0) (.int lo)).value args s none s [i] = some (decide ((i : Int) < lo.toInt)) := by
  have e1 : i.toInt32.toInt = (i : Int) := len_toInt (show i < 2 ^ 31 by omega)
  rw [Cond.lt_ints (x := i.toInt32) (y := lo) rfl rfl, Option.some.injEq, decide_eq_decide, Int32.lt_iff_toInt_lt, e1]
theorem idx_le {args : Array Value} {s : State} {i : Nat} {hi : Int32} (h : i < 2147483648) : (Jvm.Cond.le (.int hi) (.index 0)).value args s none s [i] = some (decide (hi.toInt ≤ (i : Int))) := by
  have e1 : i.toInt32.toInt = (i : Int) := len_toInt (show i < 2 ^ 31 by omega)
  rw [Cond.le_ints (x := hi) (y := i.toInt32) rfl rfl, Option.some.injEq, decide_eq_decide, Int32.le_iff_toInt_le, e1]
theorem or_v {args : Array Value} {first s : State} {o : Option Outcome} {idx : List Nat} {G X : Jvm.Cond} {P : Prop} [Decidable P] (h : (Jvm.Cond.or G X).value args first o s idx = some true) (h1 : G.value args first o s idx = some (decide P)) : P ∨ X.value args first o s idx = some true := by
  by_cases p : P
  · exact Or.inl p
  · rw [Cond.or_of_right (nay h1 p)] at h; exact Or.inr h
end Jvm.WK
namespace Jvm.Quot
open Jvm Jvm.FP Jvm.FP.Core
theorem pow_cross {c A B d x y qp qm rp rm m : Nat} (na : c * 2 ^ qp = A * 2 ^ qm) (nb : d * 2 ^ rp = B * 2 ^ rm) (e1 : qp + rm = x + m) (e2 : qm + rp = y + m) : c * B * 2 ^ x = A * d * 2 ^ y := by
  apply Nat.eq_of_mul_eq_mul_right (Nat.two_pow_pos m)
  calc c * B * 2 ^ x * 2 ^ m = c * B * 2 ^ (qp + rm) := by rw [e1, Nat.pow_add]; simp only [Nat.mul_assoc]
    _ = (c * 2 ^ qp) * (B * 2 ^ rm) := by rw [Nat.pow_add]; simp only [Nat.mul_assoc, Nat.mul_left_comm, Nat.mul_comm]
    _ = (A * 2 ^ qm) * (d * 2 ^ rp) := by rw [na, nb]
    _ = A * d * 2 ^ (qm + rp) := by rw [Nat.pow_add]; simp only [Nat.mul_assoc, Nat.mul_left_comm, Nat.mul_comm]
    _ = A * d * 2 ^ y * 2 ^ m := by rw [e2, Nat.pow_add]; simp only [Nat.mul_assoc]
/-- the quotient of two whole doubles, by the whole numbers -/
theorem val_ddiv {a b : Int64} (ha : Small53 a) (hb : Small53 b) (h0 : 0 < b.toInt) : val64 (Core.ddiv (Core.l2d a) (Core.l2d b)) = roundRatio b64 (decide (a.toInt < 0)) a.toInt.natAbs b.toInt.natAbs 0 := by
  rw [val64_ddiv]
  have wa := l2d_whole ha
  have wb := l2d_whole hb
  obtain ⟨c, q, ea⟩ := l2d_shape a
  obtain ⟨d, r, eb⟩ := l2d_shape b
  rw [ea] at wa ⊢
  rw [eb] at wb ⊢
  have na := whole_natAbs wa
  have nb := whole_natAbs wb
  have hd : ¬ d = 0 := fun z => by have := (whole_zero wb).mp z; omega
  have hs : (decide (a.toInt < 0) != decide (b.toInt < 0)) = decide (a.toInt < 0) := by rw [decide_eq_false (show ¬ b.toInt < 0 by omega)]; cases decide (a.toInt < 0) <;> rfl
  show (if d = 0 then _ else roundRatio b64 (decide (a.toInt < 0) != decide (b.toInt < 0)) c d (q - r)) = _
  rw [if_neg hd, hs]
  refine roundRatio_congr (by omega) (by omega) ?_
  exact pow_cross (m := q.toNat + (-r).toNat - (q - r - 0).toNat) na nb (by omega) (by omega)
theorem val_l2d (a : Int64) : val64 (Core.l2d a) = roundRatio b64 (decide (a.toInt < 0)) a.toInt.natAbs 1 0 := val64_l2d a
/-- an exact quotient -/
theorem ddiv_exact {p a b : Int64} (hp : Small53 p) (hb : Small53 b) (h0 : 0 < b.toInt) (ha : 0 < a.toInt) (e : p.toInt = a.toInt * b.toInt) : Core.ddiv (Core.l2d p) (Core.l2d b) = Core.l2d a := by
  have h1 := val_ddiv hp hb h0
  have hpos : 0 < p.toInt := by rw [e]; exact Int.mul_pos ha h0
  have h2 : roundRatio b64 (decide (p.toInt < 0)) p.toInt.natAbs b.toInt.natAbs 0 = roundRatio b64 (decide (a.toInt < 0)) a.toInt.natAbs 1 0 := by
    rw [decide_eq_false (show ¬ p.toInt < 0 by omega), decide_eq_false (show ¬ a.toInt < 0 by omega)]
    refine roundRatio_congr (by omega) (by decide) ?_
    rw [e, Int.natAbs_mul]; simp
  refine val64_inj ?_ (by rw [h1, h2, val_l2d])
  rw [h1]; exact roundRatio_ne_nan _ _ _ _ _
theorem qm : b64.qmin = -1074 := by decide
/-- the double just above a small whole number -/
theorem above {R : Nat} (hR : 0 < R) (h2 : R < 2147483648) : ∃ V : Datum, Core.fits b64 V ∧ zmag b64 V = (R * 2097152 + 1) * 2 ^ 1053 := by
  have hx : R * 2097152 + 1 < 2 ^ 52 := by omega
  have hl : (R * 2097152 + 1).log2 < 52 := (Nat.log2_lt (by omega)).mpr hx
  have lo : 2 ^ (R * 2097152 + 1).log2 ≤ R * 2097152 + 1 := Nat.log2_self_le (by omega)
  have hi : R * 2097152 + 1 < 2 ^ ((R * 2097152 + 1).log2 + 1) := Nat.lt_log2_self
  generalize (R * 2097152 + 1).log2 = L at hl lo hi
  generalize R * 2097152 + 1 = X at *
  have e1 : 2 ^ L * 2 ^ (52 - L) = 2 ^ 52 := by rw [← Nat.pow_add]; congr 1; omega
  have e2 : 2 ^ (L + 1) * 2 ^ (52 - L) = 2 ^ 53 := by rw [← Nat.pow_add]; congr 1; omega
  refine ⟨.fin false (X * 2 ^ (52 - L)) (-21 - ((52 - L : Nat) : Int)), ⟨?_, ?_, ?_, Or.inr ?_⟩, ?_⟩
  · show X * 2 ^ (52 - L) < 2 ^ 53
    rw [← e2]; exact Nat.mul_lt_mul_of_pos_right hi (Nat.two_pow_pos _)
  · rw [qm]; omega
  · show _ ≤ ((b64.emax : Int) - (b64.p : Int) + 1)
    have : b64.emax = 1023 := by decide
    have : b64.p = 53 := rfl
    omega
  · show 2 ^ 52 ≤ X * 2 ^ (52 - L)
    rw [← e1]; exact Nat.mul_le_mul_right _ lo
  · show X * 2 ^ (52 - L) * 2 ^ (-21 - ((52 - L : Nat) : Int) - b64.qmin).toNat = X * 2 ^ 1053
    rw [qm, Nat.mul_assoc, ← Nat.pow_add]; congr 2; omega
theorem q_gt {R K A : Nat} (hR : 0 < R) (h2 : R < 2147483648) (hK : 0 < K) (hK2 : K ≤ 1048576) (h : R * K < A) : R * 2 ^ 1074 < zmag b64 (roundRatio b64 false A K 0) := by
  obtain ⟨V, hV, ez⟩ := above hR h2
  have key := zmag_roundRatio_ge (f := b64) good_b64 (s := false) (A := A) (B := K) (e := 0) (e0 := b64.qmin) (V := V) hK hV (Int.le_refl _) (by rw [qm]; decide) (by
    rw [ez, Int.sub_self]
    show (R * 2097152 + 1) * 2 ^ 1053 * 2 ^ 0 * K ≤ A * 2 ^ (0 - b64.qmin).toNat
    rw [qm, show ((0 : Int) - -1074).toNat = 21 + 1053 from rfl, Nat.pow_add, ← Nat.mul_assoc, Nat.pow_zero, Nat.mul_one, Nat.mul_right_comm]
    refine Nat.mul_le_mul_right _ ?_
    have e1 : (R * 2097152 + 1) * K = R * K * 2097152 + K := by rw [Nat.add_mul, Nat.one_mul, Nat.mul_right_comm]
    omega)
  rw [ez] at key
  refine Nat.lt_of_lt_of_le ?_ key
  rw [show (1074 : Nat) = 21 + 1053 from rfl, Nat.pow_add, ← Nat.mul_assoc]
  exact Nat.mul_lt_mul_of_pos_right (by omega) (Nat.two_pow_pos _)
theorem q_le {R K A : Nat} {V : Datum} (hV : Core.fits b64 V) (hn : V ≠ .nan) (hz : zmag b64 V = R * 2 ^ 1074) (hK : 0 < K) (h : A ≤ R * K) (s : Bool) : zmag b64 (roundRatio b64 s A K 0) ≤ R * 2 ^ 1074 := by
  rw [← hz]
  refine zmag_roundRatio_le (f := b64) good_b64 (e0 := b64.qmin) hK hV hn (Int.le_refl _) (by rw [qm]; decide) ?_
  rw [hz, Int.sub_self]
  show A * 2 ^ (0 - b64.qmin).toNat ≤ R * 2 ^ 1074 * 2 ^ 0 * K
  rw [qm, show ((0 : Int) - -1074).toNat = 1074 from rfl, Nat.pow_zero, Nat.mul_one, Nat.mul_right_comm]
  exact Nat.mul_le_mul_right _ h
theorem zv_l2d {r : Int64} (h : Small53 r) : zval b64 (val64 (Core.l2d r)) = r.toInt * ((2 ^ 1074 : Nat) : Int) := whole_zval good_b64 (val64_fits _) (l2d_whole h)
theorem nn_l2d (r : Int64) : val64 (Core.l2d r) ≠ .nan := by obtain ⟨c, q, e⟩ := l2d_shape r; rw [e]; intro h; cases h
/-- the rounded quotient against a small whole number: as the exact one -/
theorem dcmp_q {a k r : Int64} (ha : Small53 a) (hk : 0 < k.toInt) (hk2 : k.toInt ≤ 1048576) (hr : 0 < r.toInt) (hr2 : r.toInt < 2147483648) :
    (r.toInt * k.toInt < a.toInt → FP.dcmp (FP.ddiv (FP.l2d a) (FP.l2d k)) (FP.l2d r) = some .gt) ∧ (¬ r.toInt * k.toInt < a.toInt → FP.dcmp (FP.ddiv (FP.l2d a) (FP.l2d k)) (FP.l2d r) = some .lt ∨ FP.dcmp (FP.ddiv (FP.l2d a) (FP.l2d k)) (FP.l2d r) = some .eq) := by
  have sr : Small53 r := ⟨by omega, by omega⟩
  have hq := val_ddiv (b := k) ha ⟨by omega, by omega⟩ hk
  have hn : val64 (Core.ddiv (Core.l2d a) (Core.l2d k)) ≠ .nan := by rw [hq]; exact roundRatio_ne_nan _ _ _ _ _
  have ho : FP.dcmp (FP.ddiv (FP.l2d a) (FP.l2d k)) (FP.l2d r) = some (compare (zval b64 (val64 (Core.ddiv (Core.l2d a) (Core.l2d k)))) (zval b64 (val64 (Core.l2d r)))) := order_zval good_b64 (val64_fits _) (val64_fits _) hn (nn_l2d r)
  rw [zv_l2d sr] at ho
  obtain ⟨R, eR⟩ : ∃ R : Nat, r.toInt = (R : Int) := ⟨r.toInt.toNat, by omega⟩
  obtain ⟨K, eK⟩ : ∃ K : Nat, k.toInt = (K : Int) := ⟨k.toInt.toNat, by omega⟩
  have zq : zval b64 (val64 (Core.ddiv (Core.l2d a) (Core.l2d k))) = signed (decide (a.toInt < 0)) (zmag b64 (roundRatio b64 (decide (a.toInt < 0)) a.toInt.natAbs K 0)) := by
    rw [hq, eK, Int.natAbs_natCast]; unfold zval; rw [sgn_roundRatio]
  rw [zq] at ho
  rw [ho, eR, eK]
  have zr : zmag b64 (val64 (Core.l2d r)) = R * 2 ^ 1074 := by
    have h1 := zv_l2d sr
    have hs : sgn (val64 (Core.l2d r)) = false := by obtain ⟨c, q, e⟩ := l2d_shape r; rw [e]; exact decide_eq_false (by omega)
    unfold zval at h1
    rw [hs, eR] at h1
    have h2 : ((zmag b64 (val64 (Core.l2d r)) : Nat) : Int) = ((R * 2 ^ 1074 : Nat) : Int) := by rw [Int.natCast_mul]; exact h1
    exact Int.ofNat_inj.mp h2
  constructor
  · intro h
    have hpos : (0 : Int) ≤ (R : Int) * (K : Int) := Int.mul_nonneg (by omega) (by omega)
    obtain ⟨A, eA⟩ : ∃ A : Nat, a.toInt = (A : Int) := ⟨a.toInt.toNat, by omega⟩
    rw [eA, decide_eq_false (show ¬ (A : Int) < 0 by omega), Int.natAbs_natCast]
    rw [eA] at h
    have hA : R * K < A := by rw [← Int.natCast_mul] at h; omega
    have := q_gt (R := R) (by omega) (by omega) (K := K) (by omega) (by omega) hA
    have h3 : (R : Int) * ((2 ^ 1074 : Nat) : Int) < signed false (zmag b64 (roundRatio b64 false A K 0)) := by
      rw [← Int.natCast_mul]; exact Int.ofNat_lt.mpr this
    exact congrArg some (Int.compare_eq_gt.mpr h3)
  · intro h
    have key : ¬ (R : Int) * ((2 ^ 1074 : Nat) : Int) < signed (decide (a.toInt < 0)) (zmag b64 (roundRatio b64 (decide (a.toInt < 0)) a.toInt.natAbs K 0)) := by
      by_cases hneg : a.toInt < 0
      · rw [decide_eq_true hneg]
        show ¬ _ < -((zmag b64 _ : Nat) : Int)
        rw [← Int.natCast_mul]; omega
      · rw [decide_eq_false hneg]
        obtain ⟨A, eA⟩ : ∃ A : Nat, a.toInt = (A : Int) := ⟨a.toInt.toNat, by omega⟩
        rw [eA, Int.natAbs_natCast]
        rw [eA] at h
        have hA : A ≤ R * K := by rw [← Int.natCast_mul] at h; omega
        have := q_le (val64_fits _) (nn_l2d r) zr (K := K) (by omega) hA false
        show ¬ _ < ((zmag b64 _ : Nat) : Int)
        rw [← Int.natCast_mul]
        exact fun q => absurd (Int.ofNat_lt.mp q) (Nat.not_lt.mpr this)
    generalize signed (decide (a.toInt < 0)) (zmag b64 (roundRatio b64 (decide (a.toInt < 0)) a.toInt.natAbs K 0)) = X at key ⊢
    generalize (R : Int) * ((2 ^ 1074 : Nat) : Int) = Y at key ⊢
    rcases Int.lt_trichotomy X Y with q | q | q
    · exact Or.inl (by rw [Int.compare_eq_lt.mpr q])
    · exact Or.inr (by rw [Int.compare_eq_eq.mpr q])
    · exact absurd q key
end Jvm.Quot
namespace Jvm.Pilot.@@N@@
open Jvm Jvm.ClassFile Sem Op Lib Jvm.Free Jvm.Stand Jvm.LawKit Jvm.RoadKit Bundle Jvm.WK Jvm.Pilot.@@N@@.Jvm.D
open Jvm.Quot Jvm.Free.Fl
def I32 (x : Int64) : Prop := -2147483648 ≤ x.toInt ∧ x.toInt < 2147483648
theorem I32.b {x : Int64} (h : I32 x) : B53 x := by unfold I32 at h; unfold B53; omega
def rateR (ct : Int32) (vf vt vc vr k : Int64) : UInt64 :=
  if ¬ ct = 0 ∧ vt < vf then (if 0 < vr ∧ vr.toInt * k.toInt < (vc - vf + 1 + vt).toInt then FP.dconst0 else FP.ddiv (FP.l2d (vc - vf + 1 + vt)) (FP.l2d k)) else FP.ddiv (FP.l2d (vt - vf)) (FP.l2d k)
theorem rate_0 {ct : Int32} {vf vt vc vr k : Int64} (h : ¬ (¬ ct = 0 ∧ vt < vf)) : rateR ct vf vt vc vr k = FP.ddiv (FP.l2d (vt - vf)) (FP.l2d k) := by unfold rateR; rw [if_neg h]
theorem rate_1 {ct : Int32} {vf vt vc vr k : Int64} (h : ¬ ct = 0 ∧ vt < vf) (h2 : ¬ (0 < vr ∧ vr.toInt * k.toInt < (vc - vf + 1 + vt).toInt)) : rateR ct vf vt vc vr k = FP.ddiv (FP.l2d (vc - vf + 1 + vt)) (FP.l2d k) := by unfold rateR; rw [if_pos h, if_neg h2]
theorem rate_2 {ct : Int32} {vf vt vc vr k : Int64} (h : ¬ ct = 0 ∧ vt < vf) (h2 : 0 < vr ∧ vr.toInt * k.toInt < (vc - vf + 1 + vt).toInt) : rateR ct vf vt vc vr k = FP.dconst0 := by unfold rateR; rw [if_pos h, if_pos h2]
theorem k1000 : (4652007308841189376 : UInt64) = FP.l2d 1000 := by decide +kernel
theorem dc0 : FP.dconst0 = FP.l2d 0 := by decide +kernel
theorem dc1 : FP.dconst1 = FP.l2d 1 := by decide +kernel
theorem b0 : B53 0 := ⟨by decide, by decide⟩
theorem b1' : B53 1 := ⟨by decide, by decide⟩
theorem nn_div {a k : Int64} (hk : 0 < k.toInt) : NoNaN64 (FP.ddiv (FP.l2d a) (FP.l2d k)) := ddiv_out (nn_w rfl) (l2d_fin k) (l2d_nz (fun q => by rw [q] at hk; exact absurd hk (by decide)))
theorem sec {to fr k : Int64} (hk : 0 < k.toInt) (hk2 : k.toInt ≤ 1048576) (b : B53 (to - fr)) (e : (to - fr).toInt = k.toInt * 1000) : FP.ddiv (FP.l2d (to - fr)) 4652007308841189376 = FP.l2d k := by
  rw [k1000]
  exact ddiv_exact (a := k) (b := 1000) b ⟨by decide, by decide⟩ (by decide) hk e
theorem pos64 {x : Int64} : 0 < x ↔ 0 < x.toInt := by rw [Int64.lt_iff_toInt_lt]; rfl
theorem cmp_pos {a k r : Int64} (ha : B53 a) (hk : 0 < k.toInt) (hk2 : k.toInt ≤ 1048576) (hr : 0 < r) (hr2 : I32 r) : 0 < cmpValue (FP.dcmp (FP.ddiv (FP.l2d a) (FP.l2d k)) (FP.l2d r)) .l ↔ r.toInt * k.toInt < a.toInt := by
  have h := dcmp_q (a := a) (k := k) (r := r) ha hk hk2 (pos64.mp hr) hr2.2
  constructor
  · intro q
    refine Classical.byContradiction fun z => ?_
    rcases h.2 z with e | e <;> rw [e] at q <;> exact absurd q (by decide)
  · intro q
    rw [h.1 q]; decide
theorem d_prog_43_method_1_0 : decode prog_43_method_1_code 0 = .ok (.aload_n 0, 1) := by decide +kernel
theorem d_prog_43_method_1_1 : decode prog_43_method_1_code 1 = .ok (.invokespecial 1, 3) := by decide +kernel
theorem wd8 {Z : State} {a0 : Array Value} (hw : ∀ d ∈ tables_1, d.before a0 Z = true) : (Jvm.Cond.methodLink "com/example/takt/takt/server/RateOptions" (1 : Nat) ({ cls := "java/lang/Object", name := "<init>", desc := "()V" } : Jvm.MethodName)).before a0 Z = true := hw _ (List.mem_of_getElem? (i := 8) rfl)
theorem wd9 {Z : State} {a0 : Array Value} (hw : ∀ d ∈ tables_1, d.before a0 Z = true) : (Jvm.Cond.instanceMethod ({ cls := "java/lang/Object", name := "<init>", desc := "()V" } : Jvm.MethodName)).before a0 Z = true := hw _ (List.mem_of_getElem? (i := 9) rfl)
theorem wd10 {Z : State} {a0 : Array Value} (hw : ∀ d ∈ tables_1, d.before a0 Z = true) : (Jvm.Cond.code ({ cls := "java/lang/Object", name := "<init>", desc := "()V" } : Jvm.MethodName) object_method_1_code (1 : Nat) (Option.none : Option Jvm.ClassFile.FieldType)).before a0 Z = true := hw _ (List.mem_of_getElem? (i := 10) rfl)
theorem d_prog_43_method_1_4 : decode prog_43_method_1_code 4 = .ok (.aload_n 0, 1) := by decide +kernel
theorem d_prog_43_method_1_5 : decode prog_43_method_1_code 5 = .ok (.iload_n 1, 1) := by decide +kernel
theorem d_prog_43_method_1_6 : decode prog_43_method_1_code 6 = .ok (.putfield 7, 3) := by decide +kernel
theorem wd11 {Z : State} {a0 : Array Value} (hw : ∀ d ∈ tables_1, d.before a0 Z = true) : (Jvm.Cond.fieldLink "com/example/takt/takt/server/RateOptions" (7 : Nat) "com/example/takt/takt/server/RateOptions" "counter" "Z").before a0 Z = true := hw _ (List.mem_of_getElem? (i := 11) rfl)
theorem wd12 {Z : State} {a0 : Array Value} (hw : ∀ d ∈ tables_1, d.before a0 Z = true) : (Jvm.Cond.laysFinal "com/example/takt/takt/server/RateOptions" "com/example/takt/takt/server/RateOptions" "counter" "Z").before a0 Z = true := hw _ (List.mem_of_getElem? (i := 12) rfl)
theorem wd3 {Z : State} {a0 : Array Value} (hw : ∀ d ∈ tables_1, d.before a0 Z = true) : (Jvm.Cond.instantiable "com/example/takt/takt/server/RateOptions" (4 : Nat)).before a0 Z = true := hw _ (List.mem_of_getElem? (i := 3) rfl)
theorem wd14 {Z : State} {a0 : Array Value} (hw : ∀ d ∈ tables_1, d.before a0 Z = true) : (Jvm.Cond.laysFinal "com/example/takt/takt/server/RateOptions" "com/example/takt/takt/server/RateOptions" "counterMax" "D").before a0 Z = true := hw _ (List.mem_of_getElem? (i := 14) rfl)
theorem wd16 {Z : State} {a0 : Array Value} (hw : ∀ d ∈ tables_1, d.before a0 Z = true) : (Jvm.Cond.laysFinal "com/example/takt/takt/server/RateOptions" "com/example/takt/takt/server/RateOptions" "resetValue" "D").before a0 Z = true := hw _ (List.mem_of_getElem? (i := 16) rfl)
theorem wd18 {Z : State} {a0 : Array Value} (hw : ∀ d ∈ tables_1, d.before a0 Z = true) : (Jvm.Cond.laysFinal "com/example/takt/takt/server/RateOptions" "com/example/takt/takt/server/RateOptions" "dropResets" "Z").before a0 Z = true := hw _ (List.mem_of_getElem? (i := 18) rfl)
theorem d_prog_43_method_1_9 : decode prog_43_method_1_code 9 = .ok (.aload_n 0, 1) := by decide +kernel
theorem d_prog_43_method_1_10 : decode prog_43_method_1_code 10 = .ok (.dload_n 2, 1) := by decide +kernel
theorem d_prog_43_method_1_11 : decode prog_43_method_1_code 11 = .ok (.putfield 13, 3) := by decide +kernel
theorem wd13 {Z : State} {a0 : Array Value} (hw : ∀ d ∈ tables_1, d.before a0 Z = true) : (Jvm.Cond.fieldLink "com/example/takt/takt/server/RateOptions" (13 : Nat) "com/example/takt/takt/server/RateOptions" "counterMax" "D").before a0 Z = true := hw _ (List.mem_of_getElem? (i := 13) rfl)
theorem d_prog_43_method_1_14 : decode prog_43_method_1_code 14 = .ok (.aload_n 0, 1) := by decide +kernel
theorem d_prog_43_method_1_15 : decode prog_43_method_1_code 15 = .ok (.dload 4, 2) := by decide +kernel
theorem d_prog_43_method_1_17 : decode prog_43_method_1_code 17 = .ok (.putfield 17, 3) := by decide +kernel
theorem wd15 {Z : State} {a0 : Array Value} (hw : ∀ d ∈ tables_1, d.before a0 Z = true) : (Jvm.Cond.fieldLink "com/example/takt/takt/server/RateOptions" (17 : Nat) "com/example/takt/takt/server/RateOptions" "resetValue" "D").before a0 Z = true := hw _ (List.mem_of_getElem? (i := 15) rfl)
theorem d_prog_43_method_1_20 : decode prog_43_method_1_code 20 = .ok (.aload_n 0, 1) := by decide +kernel
theorem d_prog_43_method_1_21 : decode prog_43_method_1_code 21 = .ok (.iload 6, 2) := by decide +kernel
theorem d_prog_43_method_1_23 : decode prog_43_method_1_code 23 = .ok (.putfield 20, 3) := by decide +kernel
theorem wd17 {Z : State} {a0 : Array Value} (hw : ∀ d ∈ tables_1, d.before a0 Z = true) : (Jvm.Cond.fieldLink "com/example/takt/takt/server/RateOptions" (20 : Nat) "com/example/takt/takt/server/RateOptions" "dropResets" "Z").before a0 Z = true := hw _ (List.mem_of_getElem? (i := 17) rfl)
theorem d_prog_43_method_1_26 : decode prog_43_method_1_code 26 = .ok (.return_, 1) := by decide +kernel
theorem pn_0 : plainName "com/example/takt/takt/server/RateOptions" = true := by first | (simp [plainName, overriddenIn]; done) | decide +kernel
set_option maxRecDepth 65536 in
set_option maxHeartbeats 40000000 in
theorem m_ini {Z : State} {a0 : Array Value} (hw : ∀ d ∈ tables_1, d.before a0 Z = true) (a : Addr) (ct : Int32) (dv : UInt64) (dr : UInt64) (dp : Int32) (h0 : Heap) (n0 : Nat) (g_a : n0 ≤ a) (E0 : Exa Z h0 a "com/example/takt/takt/server/RateOptions") (F_counter : Fld Z h0 a "com/example/takt/takt/server/RateOptions" "counter" "Z" (.int (0 : Int32))) (F_counterMax : Fld Z h0 a "com/example/takt/takt/server/RateOptions" "counterMax" "D" (.double (0 : UInt64))) (F_resetValue : Fld Z h0 a "com/example/takt/takt/server/RateOptions" "resetValue" "D" (.double (0 : UInt64))) (F_dropResets : Fld Z h0 a "com/example/takt/takt/server/RateOptions" "dropResets" "Z" (.int (0 : Int32))) (nar_ct : narrow .boolean (.int ct) = .int ct) (nar_dp : narrow .boolean (.int dp) = .int dp) (fit_ct : fits .boolean (.int ct) = true) (fit_dp : fits .boolean (.int dp) = true) : ∀ l, Does l Z (⟨"com/example/takt/takt/server/RateOptions", "<init>", "(ZDDZ)V"⟩ : MethodName) prog_43_method_1_code 7 none ({ frames := 1, cells := 0, slots := 0, locals := 12 } : Room) n0 #[(.ref a), (.int ct), (.double dv), (.double dr), (.int dp)] h0 (fun v h => v = none ∧ Keep h0 h [a] ∧ Exa Z h a "com/example/takt/takt/server/RateOptions" ∧ Fld Z h a "com/example/takt/takt/server/RateOptions" "counter" "Z" (.int ct) ∧ Fld Z h a "com/example/takt/takt/server/RateOptions" "counterMax" "D" (.double dv) ∧ Fld Z h a "com/example/takt/takt/server/RateOptions" "resetValue" "D" (.double dr)) := by
  intro l
  refine Does.of_wp (plainFor_of_name pn_0) (Ls := #[.val (.ref a), .val (.int ct), .val (.double dv), .second, .val (.double dr), .second, .val (.int dp)]) (fun m => by first | (simp [entryFrame, mkF, argsToLocals, Value.category]; done) | rfl | (rcases ref_cases hfv with rfl | ⟨_, rfl⟩ <;> rfl)) ?_
  intro C
  have K0 := Keep.refl h0 [a]
  refine WP.aloadN (pc' := 1) d_prog_43_method_1_0 rfl rfl rfl ?_
  refine WP.initO (wd := 0) (pc' := 4) d_prog_43_method_1_1 rfl (wd8 hw) (wd9 hw) (wd10 hw) rfl (by decide) (Nat.le_of_eq rfl) (by decide) ?_
  refine WP.aloadN (pc' := 5) d_prog_43_method_1_4 rfl rfl rfl ?_
  refine WP.iloadN (pc' := 6) d_prog_43_method_1_5 rfl rfl ?_
  refine WP.putFN (pc' := 9) d_prog_43_method_1_6 rfl (wd11 hw) Via.refl F_counter E0 (Or.inr ⟨(wd12 hw), rfl, rfl⟩) (wd3 hw) (ty := .boolean) (v' := (.int ct)) (by decide) nar_ct fit_ct g_a ?_
  intro h1 W2
  have Kw3 := Keep.of_wr W2
  have E4 := E0.keep Kw3
  have K5 := K0.trans Kw3 (allS (Or.inl (by simp)) all0)
  have F7 := F_counter.same W2
  have F8 := F_counterMax.other W2 (Or.inr (slot_ne (Or.inr (wd14 hw)) (Or.inr (wd12 hw)) (by decide) (t := .double) (t' := .boolean) (by decide) (by decide)))
  have F9 := F_resetValue.other W2 (Or.inr (slot_ne (Or.inr (wd16 hw)) (Or.inr (wd12 hw)) (by decide) (t := .double) (t' := .boolean) (by decide) (by decide)))
  have F10 := F_dropResets.other W2 (Or.inr (slot_ne (Or.inr (wd18 hw)) (Or.inr (wd12 hw)) (by decide) (t := .boolean) (t' := .boolean) (by decide) (by decide)))
  refine WP.aloadN (pc' := 10) d_prog_43_method_1_9 rfl rfl rfl ?_
  refine WP.dloadN (pc' := 11) d_prog_43_method_1_10 rfl rfl ?_
  refine WP.putF (pc' := 14) d_prog_43_method_1_11 rfl (host := "") (Or.inl (wd13 hw)) Via.refl F8 E4 (Or.inr ⟨(wd14 hw), rfl, rfl⟩) (wd3 hw) (ty := .double) (by decide) rfl rfl g_a ?_
  intro h11 W12
  have Kw13 := Keep.of_wr W12
  have E14 := E4.keep Kw13
  have K15 := K5.trans Kw13 (allS (Or.inl (by simp)) all0)
  have F17 := F7.other W12 (Or.inr (slot_ne (Or.inr (wd12 hw)) (Or.inr (wd14 hw)) (by decide) (t := .boolean) (t' := .double) (by decide) (by decide)))
  have F18 := F8.same W12
  have F19 := F9.other W12 (Or.inr (slot_ne (Or.inr (wd16 hw)) (Or.inr (wd14 hw)) (by decide) (t := .double) (t' := .double) (by decide) (by decide)))
  have F20 := F10.other W12 (Or.inr (slot_ne (Or.inr (wd18 hw)) (Or.inr (wd14 hw)) (by decide) (t := .boolean) (t' := .double) (by decide) (by decide)))
  refine WP.aloadN (pc' := 15) d_prog_43_method_1_14 rfl rfl rfl ?_
  refine WP.dload (pc' := 17) d_prog_43_method_1_15 rfl rfl ?_
  refine WP.putF (pc' := 20) d_prog_43_method_1_17 rfl (host := "") (Or.inl (wd15 hw)) Via.refl F19 E14 (Or.inr ⟨(wd16 hw), rfl, rfl⟩) (wd3 hw) (ty := .double) (by decide) rfl rfl g_a ?_
  intro h21 W22
  have Kw23 := Keep.of_wr W22
  have E24 := E14.keep Kw23
  have K25 := K15.trans Kw23 (allS (Or.inl (by simp)) all0)
  have F27 := F17.other W22 (Or.inr (slot_ne (Or.inr (wd12 hw)) (Or.inr (wd16 hw)) (by decide) (t := .boolean) (t' := .double) (by decide) (by decide)))
  have F28 := F18.other W22 (Or.inr (slot_ne (Or.inr (wd14 hw)) (Or.inr (wd16 hw)) (by decide) (t := .double) (t' := .double) (by decide) (by decide)))
  have F29 := F19.same W22
  have F30 := F20.other W22 (Or.inr (slot_ne (Or.inr (wd18 hw)) (Or.inr (wd16 hw)) (by decide) (t := .boolean) (t' := .double) (by decide) (by decide)))
  refine WP.aloadN (pc' := 21) d_prog_43_method_1_20 rfl rfl rfl ?_
  refine WP.iload (pc' := 23) d_prog_43_method_1_21 rfl rfl ?_
  refine WP.putFN (pc' := 26) d_prog_43_method_1_23 rfl (wd17 hw) Via.refl F30 E24 (Or.inr ⟨(wd18 hw), rfl, rfl⟩) (wd3 hw) (ty := .boolean) (v' := (.int dp)) (by decide) nar_dp fit_dp g_a ?_
  intro h31 W32
  have Kw33 := Keep.of_wr W32
  have E34 := E24.keep Kw33
  have K35 := K25.trans Kw33 (allS (Or.inl (by simp)) all0)
  have F37 := F27.other W32 (Or.inr (slot_ne (Or.inr (wd12 hw)) (Or.inr (wd18 hw)) (by decide) (t := .boolean) (t' := .boolean) (by decide) (by decide)))
  have F38 := F28.other W32 (Or.inr (slot_ne (Or.inr (wd14 hw)) (Or.inr (wd18 hw)) (by decide) (t := .double) (t' := .boolean) (by decide) (by decide)))
  have F39 := F29.other W32 (Or.inr (slot_ne (Or.inr (wd16 hw)) (Or.inr (wd18 hw)) (by decide) (t := .double) (t' := .boolean) (by decide) (by decide)))
  have F40 := F30.same W32
  exact WP.vret d_prog_43_method_1_26 rfl (by decide) (by decide) ⟨rfl, K35, E34, F37, F38, F39⟩
theorem d_prog_43_method_3_0 : decode prog_43_method_3_code 0 = .ok (.aload_n 0, 1) := by decide +kernel
theorem d_prog_43_method_3_1 : decode prog_43_method_3_code 1 = .ok (.getfield 7, 3) := by decide +kernel
theorem d_prog_43_method_3_4 : decode prog_43_method_3_code 4 = .ok (.ifCond .eq 14, 3) := by decide +kernel
theorem d_prog_43_method_3_18 : decode prog_43_method_3_code 18 = .ok (.iconst 0, 1) := by decide +kernel
theorem d_prog_43_method_3_19 : decode prog_43_method_3_code 19 = .ok (.istore 9, 2) := by decide +kernel
theorem d_prog_43_method_3_21 : decode prog_43_method_3_code 21 = .ok (.dload 7, 2) := by decide +kernel
theorem d_prog_43_method_3_23 : decode prog_43_method_3_code 23 = .ok (.dload_n 3, 1) := by decide +kernel
theorem d_prog_43_method_3_24 : decode prog_43_method_3_code 24 = .ok (.dsub, 1) := by decide +kernel
theorem d_prog_43_method_3_25 : decode prog_43_method_3_code 25 = .ok (.dstore 10, 2) := by decide +kernel
theorem d_prog_43_method_3_27 : decode prog_43_method_3_code 27 = .ok (.iload 9, 2) := by decide +kernel
theorem d_prog_43_method_3_29 : decode prog_43_method_3_code 29 = .ok (.ifCond .eq 16, 3) := by decide +kernel
theorem d_prog_43_method_3_45 : decode prog_43_method_3_code 45 = .ok (.dload 10, 2) := by decide +kernel
theorem d_prog_43_method_3_47 : decode prog_43_method_3_code 47 = .ok (.lload 5, 2) := by decide +kernel
theorem d_prog_43_method_3_49 : decode prog_43_method_3_code 49 = .ok (.l2d, 1) := by decide +kernel
theorem d_prog_43_method_3_50 : decode prog_43_method_3_code 50 = .ok (.lload_n 1, 1) := by decide +kernel
theorem d_prog_43_method_3_51 : decode prog_43_method_3_code 51 = .ok (.l2d, 1) := by decide +kernel
theorem d_prog_43_method_3_52 : decode prog_43_method_3_code 52 = .ok (.dsub, 1) := by decide +kernel
theorem d_prog_43_method_3_53 : decode prog_43_method_3_code 53 = .ok (.ldc2_w 23, 3) := by decide +kernel
theorem wd24 {Z : State} {a0 : Array Value} (hw : ∀ d ∈ tables_1, d.before a0 Z = true) : (Jvm.Cond.constantDouble "com/example/takt/takt/server/RateOptions" (23 : Nat) (4652007308841189376 : UInt64)).before a0 Z = true := hw _ (List.mem_of_getElem? (i := 24) rfl)
theorem d_prog_43_method_3_56 : decode prog_43_method_3_code 56 = .ok (.ddiv, 1) := by decide +kernel
theorem d_prog_43_method_3_57 : decode prog_43_method_3_code 57 = .ok (.ddiv, 1) := by decide +kernel
theorem d_prog_43_method_3_58 : decode prog_43_method_3_code 58 = .ok (.dstore 12, 2) := by decide +kernel
theorem d_prog_43_method_3_60 : decode prog_43_method_3_code 60 = .ok (.iload 9, 2) := by decide +kernel
theorem d_prog_43_method_3_62 : decode prog_43_method_3_code 62 = .ok (.ifCond .eq 26, 3) := by decide +kernel
theorem d_prog_43_method_3_88 : decode prog_43_method_3_code 88 = .ok (.dload 12, 2) := by decide +kernel
theorem d_prog_43_method_3_90 : decode prog_43_method_3_code 90 = .ok (.dreturn, 1) := by decide +kernel
theorem d_prog_43_method_3_7 : decode prog_43_method_3_code 7 = .ok (.dload 7, 2) := by decide +kernel
theorem d_prog_43_method_3_9 : decode prog_43_method_3_code 9 = .ok (.dload_n 3, 1) := by decide +kernel
theorem d_prog_43_method_3_10 : decode prog_43_method_3_code 10 = .ok (.dcmp .g, 1) := by decide +kernel
theorem d_prog_43_method_3_11 : decode prog_43_method_3_code 11 = .ok (.ifCond .ge 7, 3) := by decide +kernel
theorem d_prog_43_method_3_14 : decode prog_43_method_3_code 14 = .ok (.iconst 1, 1) := by decide +kernel
theorem d_prog_43_method_3_15 : decode prog_43_method_3_code 15 = .ok (.goto 4, 3) := by decide +kernel
theorem d_prog_43_method_3_32 : decode prog_43_method_3_code 32 = .ok (.aload_n 0, 1) := by decide +kernel
theorem d_prog_43_method_3_33 : decode prog_43_method_3_code 33 = .ok (.getfield 13, 3) := by decide +kernel
theorem d_prog_43_method_3_36 : decode prog_43_method_3_code 36 = .ok (.dload_n 3, 1) := by decide +kernel
theorem d_prog_43_method_3_37 : decode prog_43_method_3_code 37 = .ok (.dsub, 1) := by decide +kernel
theorem d_prog_43_method_3_38 : decode prog_43_method_3_code 38 = .ok (.dconst 1, 1) := by decide +kernel
theorem d_prog_43_method_3_39 : decode prog_43_method_3_code 39 = .ok (.dadd, 1) := by decide +kernel
theorem d_prog_43_method_3_40 : decode prog_43_method_3_code 40 = .ok (.dload 7, 2) := by decide +kernel
theorem d_prog_43_method_3_42 : decode prog_43_method_3_code 42 = .ok (.dadd, 1) := by decide +kernel
theorem d_prog_43_method_3_43 : decode prog_43_method_3_code 43 = .ok (.dstore 10, 2) := by decide +kernel
theorem d_prog_43_method_3_65 : decode prog_43_method_3_code 65 = .ok (.aload_n 0, 1) := by decide +kernel
theorem d_prog_43_method_3_66 : decode prog_43_method_3_code 66 = .ok (.getfield 17, 3) := by decide +kernel
theorem d_prog_43_method_3_69 : decode prog_43_method_3_code 69 = .ok (.dconst 0, 1) := by decide +kernel
theorem d_prog_43_method_3_70 : decode prog_43_method_3_code 70 = .ok (.dcmp .l, 1) := by decide +kernel
theorem d_prog_43_method_3_71 : decode prog_43_method_3_code 71 = .ok (.ifCond .le 17, 3) := by decide +kernel
theorem d_prog_43_method_3_74 : decode prog_43_method_3_code 74 = .ok (.dload 12, 2) := by decide +kernel
theorem d_prog_43_method_3_76 : decode prog_43_method_3_code 76 = .ok (.aload_n 0, 1) := by decide +kernel
theorem d_prog_43_method_3_77 : decode prog_43_method_3_code 77 = .ok (.getfield 17, 3) := by decide +kernel
theorem d_prog_43_method_3_80 : decode prog_43_method_3_code 80 = .ok (.dcmp .l, 1) := by decide +kernel
theorem d_prog_43_method_3_81 : decode prog_43_method_3_code 81 = .ok (.ifCond .le 7, 3) := by decide +kernel
theorem d_prog_43_method_3_84 : decode prog_43_method_3_code 84 = .ok (.dconst 0, 1) := by decide +kernel
theorem d_prog_43_method_3_85 : decode prog_43_method_3_code 85 = .ok (.goto 5, 3) := by decide +kernel
set_option maxRecDepth 65536 in
set_option maxHeartbeats 40000000 in
theorem m_rate {Z : State} {a0 : Array Value} (hw : ∀ d ∈ tables_1, d.before a0 Z = true) (a : Addr) (fr : Int64) (to : Int64) (h0 : Heap) (n0 : Nat) (ct : Int32) (vf vt vc vr k : Int64) (E0 : Exa Z h0 a "com/example/takt/takt/server/RateOptions") (F_counter : Fld Z h0 a "com/example/takt/takt/server/RateOptions" "counter" "Z" (.int ct)) (F_counterMax : Fld Z h0 a "com/example/takt/takt/server/RateOptions" "counterMax" "D" (.double (FP.l2d vc))) (F_resetValue : Fld Z h0 a "com/example/takt/takt/server/RateOptions" "resetValue" "D" (.double (FP.l2d vr))) (hf : I32 vf) (ht : I32 vt) (hc : I32 vc) (hr : I32 vr) (hk : 0 < k.toInt) (hk2 : k.toInt ≤ 1048576) (bfr : B53 fr) (bto : B53 to) (hto : to.toInt = fr.toInt + k.toInt * 1000) : ∀ l, Does l Z (⟨"com/example/takt/takt/server/RateOptions", "rate", "(JDJD)D"⟩ : MethodName) prog_43_method_3_code 14 (some .double) ({ frames := 0, cells := 0, slots := 0, locals := 0 } : Room) n0 #[(.ref a), (.long fr), (.double (FP.l2d vf)), (.long to), (.double (FP.l2d vt))] h0 (fun v h => v = some (.double (rateR ct vf vt vc vr k)) ∧ h = h0) := by
  intro l
  refine Does.of_wp (plainFor_of_name pn_0) (Ls := #[.val (.ref a), .val (.long fr), .second, .val (.double (FP.l2d vf)), .second, .val (.long to), .second, .val (.double (FP.l2d vt)), .second, .unset, .unset, .unset, .unset, .unset]) (fun m => by first | (simp [entryFrame, mkF, argsToLocals, Value.category]; done) | rfl | (rcases ref_cases hfv with rfl | ⟨_, rfl⟩ <;> rfl)) ?_
  intro C
  have bf := hf.b
  have bt := ht.b
  have bc := hc.b
  have br := hr.b
  unfold I32 at hf ht hc
  have s1 := sub64 bt bf
  have c1 : B53 (vt - vf) := ⟨by omega, by omega⟩
  have s2 := sub64 bc bf
  have c2 : B53 (vc - vf) := ⟨by omega, by omega⟩
  have s3 := add64 c2 b1'
  have e1 : (1 : Int64).toInt = 1 := rfl
  have c3 : B53 (vc - vf + 1) := ⟨by omega, by omega⟩
  have s4 := add64 c3 bt
  have c4 : B53 (vc - vf + 1 + vt) := ⟨by omega, by omega⟩
  have s5 := sub64 bto bfr
  have c5 : B53 (to - fr) := ⟨by omega, by omega⟩
  refine WP.aloadN (pc' := 1) d_prog_43_method_3_0 rfl rfl rfl ?_
  refine WP.getF (pc' := 4) d_prog_43_method_3_1 rfl (host := "") (Or.inl (wd11 hw)) Via.refl F_counter ?_
  refine WP.ifc_eq (pc1 := 18) (pc2 := 7) d_prog_43_method_3_4 (by decide) (by decide) rfl ?_ ?_
  · intro hc4
    refine WP.iconst (pc' := 19) d_prog_43_method_3_18 rfl (z := 0) rfl ?_
    refine WP.istore (pc' := 21) d_prog_43_method_3_19 rfl (Ls' := #[.val (.ref a), .val (.long fr), .second, .val (.double (FP.l2d vf)), .second, .val (.long to), .second, .val (.double (FP.l2d vt)), .second, .val (.int (0 : Int32)), .unset, .unset, .unset, .unset]) rfl ?_
    refine WP.dload (pc' := 23) d_prog_43_method_3_21 rfl rfl ?_
    refine WP.dloadN (pc' := 24) d_prog_43_method_3_23 rfl rfl ?_
    refine WP.dsub (pc' := 25) d_prog_43_method_3_24 rfl (v := (FP.l2d (vt - vf))) (nn_w (dsub_w bt bf)) (dsub_w bt bf) ?_
    refine WP.dstore (pc' := 27) d_prog_43_method_3_25 rfl (Ls' := #[.val (.ref a), .val (.long fr), .second, .val (.double (FP.l2d vf)), .second, .val (.long to), .second, .val (.double (FP.l2d vt)), .second, .val (.int (0 : Int32)), .val (.double (FP.l2d (vt - vf))), .second, .unset, .unset]) rfl ?_
    refine WP.iload (pc' := 29) d_prog_43_method_3_27 rfl rfl ?_
    have hc29 : (0 : Int32) = (0 : Int32) := by decide
    refine WP.ifc_eq (pc1 := 45) (pc2 := 32) d_prog_43_method_3_29 (by decide) (by decide) rfl (fun _ => ?_) (fun k => absurd hc29 k)
    refine WP.dload (pc' := 47) d_prog_43_method_3_45 rfl rfl ?_
    refine WP.lload (pc' := 49) d_prog_43_method_3_47 rfl rfl ?_
    refine WP.l2d (pc' := 50) d_prog_43_method_3_49 rfl (v := FP.l2d to) rfl ?_
    refine WP.lloadN (pc' := 51) d_prog_43_method_3_50 rfl rfl ?_
    refine WP.l2d (pc' := 52) d_prog_43_method_3_51 rfl (v := FP.l2d fr) rfl ?_
    refine WP.dsub (pc' := 53) d_prog_43_method_3_52 rfl (v := (FP.l2d (to - fr))) (nn_w (dsub_w bto bfr)) (dsub_w bto bfr) ?_
    refine WP.ldc2D (pc' := 56) d_prog_43_method_3_53 rfl (wd24 hw) ?_
    refine WP.ddiv (pc' := 57) d_prog_43_method_3_56 rfl (v := (FP.l2d k)) (nn_w (sec hk hk2 c5 (by omega))) (sec hk hk2 c5 (by omega)) ?_
    refine WP.ddiv (pc' := 58) d_prog_43_method_3_57 rfl (v := (FP.ddiv (FP.l2d (vt - vf)) (FP.l2d k))) (nn_div hk) rfl ?_
    refine WP.dstore (pc' := 60) d_prog_43_method_3_58 rfl (Ls' := #[.val (.ref a), .val (.long fr), .second, .val (.double (FP.l2d vf)), .second, .val (.long to), .second, .val (.double (FP.l2d vt)), .second, .val (.int (0 : Int32)), .val (.double (FP.l2d (vt - vf))), .second, .val (.double (FP.ddiv (FP.l2d (vt - vf)) (FP.l2d k))), .second]) rfl ?_
    refine WP.iload (pc' := 62) d_prog_43_method_3_60 rfl rfl ?_
    have hc62 : (0 : Int32) = (0 : Int32) := by decide
    refine WP.ifc_eq (pc1 := 88) (pc2 := 65) d_prog_43_method_3_62 (by decide) (by decide) rfl (fun _ => ?_) (fun k => absurd hc62 k)
    refine WP.dload (pc' := 90) d_prog_43_method_3_88 rfl rfl ?_
    refine WP.dret d_prog_43_method_3_90 rfl (by decide) (by decide) ⟨by rw [rate_0 (fun z => z.1 hc4)], rfl⟩
  · intro hc4
    refine WP.dload (pc' := 9) d_prog_43_method_3_7 rfl rfl ?_
    refine WP.dloadN (pc' := 10) d_prog_43_method_3_9 rfl rfl ?_
    refine WP.dcmp (pc' := 11) d_prog_43_method_3_10 rfl (v := (lcmpW vt vf)) (dcmpV_w bt bf .g) ?_
    refine WP.ifc_ge (pc1 := 18) (pc2 := 14) d_prog_43_method_3_11 (by decide) (by decide) rfl ?_ ?_
    · intro hc11
      refine WP.iconst (pc' := 19) d_prog_43_method_3_18 rfl (z := 0) rfl ?_
      refine WP.istore (pc' := 21) d_prog_43_method_3_19 rfl (Ls' := #[.val (.ref a), .val (.long fr), .second, .val (.double (FP.l2d vf)), .second, .val (.long to), .second, .val (.double (FP.l2d vt)), .second, .val (.int (0 : Int32)), .unset, .unset, .unset, .unset]) rfl ?_
      refine WP.dload (pc' := 23) d_prog_43_method_3_21 rfl rfl ?_
      refine WP.dloadN (pc' := 24) d_prog_43_method_3_23 rfl rfl ?_
      refine WP.dsub (pc' := 25) d_prog_43_method_3_24 rfl (v := (FP.l2d (vt - vf))) (nn_w (dsub_w bt bf)) (dsub_w bt bf) ?_
      refine WP.dstore (pc' := 27) d_prog_43_method_3_25 rfl (Ls' := #[.val (.ref a), .val (.long fr), .second, .val (.double (FP.l2d vf)), .second, .val (.long to), .second, .val (.double (FP.l2d vt)), .second, .val (.int (0 : Int32)), .val (.double (FP.l2d (vt - vf))), .second, .unset, .unset]) rfl ?_
      refine WP.iload (pc' := 29) d_prog_43_method_3_27 rfl rfl ?_
      have hc29 : (0 : Int32) = (0 : Int32) := by decide
      refine WP.ifc_eq (pc1 := 45) (pc2 := 32) d_prog_43_method_3_29 (by decide) (by decide) rfl (fun _ => ?_) (fun k => absurd hc29 k)
      refine WP.dload (pc' := 47) d_prog_43_method_3_45 rfl rfl ?_
      refine WP.lload (pc' := 49) d_prog_43_method_3_47 rfl rfl ?_
      refine WP.l2d (pc' := 50) d_prog_43_method_3_49 rfl (v := FP.l2d to) rfl ?_
      refine WP.lloadN (pc' := 51) d_prog_43_method_3_50 rfl rfl ?_
      refine WP.l2d (pc' := 52) d_prog_43_method_3_51 rfl (v := FP.l2d fr) rfl ?_
      refine WP.dsub (pc' := 53) d_prog_43_method_3_52 rfl (v := (FP.l2d (to - fr))) (nn_w (dsub_w bto bfr)) (dsub_w bto bfr) ?_
      refine WP.ldc2D (pc' := 56) d_prog_43_method_3_53 rfl (wd24 hw) ?_
      refine WP.ddiv (pc' := 57) d_prog_43_method_3_56 rfl (v := (FP.l2d k)) (nn_w (sec hk hk2 c5 (by omega))) (sec hk hk2 c5 (by omega)) ?_
      refine WP.ddiv (pc' := 58) d_prog_43_method_3_57 rfl (v := (FP.ddiv (FP.l2d (vt - vf)) (FP.l2d k))) (nn_div hk) rfl ?_
      refine WP.dstore (pc' := 60) d_prog_43_method_3_58 rfl (Ls' := #[.val (.ref a), .val (.long fr), .second, .val (.double (FP.l2d vf)), .second, .val (.long to), .second, .val (.double (FP.l2d vt)), .second, .val (.int (0 : Int32)), .val (.double (FP.l2d (vt - vf))), .second, .val (.double (FP.ddiv (FP.l2d (vt - vf)) (FP.l2d k))), .second]) rfl ?_
      refine WP.iload (pc' := 62) d_prog_43_method_3_60 rfl rfl ?_
      have hc62 : (0 : Int32) = (0 : Int32) := by decide
      refine WP.ifc_eq (pc1 := 88) (pc2 := 65) d_prog_43_method_3_62 (by decide) (by decide) rfl (fun _ => ?_) (fun k => absurd hc62 k)
      refine WP.dload (pc' := 90) d_prog_43_method_3_88 rfl rfl ?_
      refine WP.dret d_prog_43_method_3_90 rfl (by decide) (by decide) ⟨by rw [rate_0 (fun z => hc11 ((lw_lt _ _).mpr z.2))], rfl⟩
    · intro hc11
      refine WP.iconst (pc' := 15) d_prog_43_method_3_14 rfl (z := 1) rfl ?_
      refine WP.goto (pc' := 19) d_prog_43_method_3_15 (by decide) (by decide) ?_
      refine WP.istore (pc' := 21) d_prog_43_method_3_19 rfl (Ls' := #[.val (.ref a), .val (.long fr), .second, .val (.double (FP.l2d vf)), .second, .val (.long to), .second, .val (.double (FP.l2d vt)), .second, .val (.int (1 : Int32)), .unset, .unset, .unset, .unset]) rfl ?_
      refine WP.dload (pc' := 23) d_prog_43_method_3_21 rfl rfl ?_
      refine WP.dloadN (pc' := 24) d_prog_43_method_3_23 rfl rfl ?_
      refine WP.dsub (pc' := 25) d_prog_43_method_3_24 rfl (v := (FP.l2d (vt - vf))) (nn_w (dsub_w bt bf)) (dsub_w bt bf) ?_
      refine WP.dstore (pc' := 27) d_prog_43_method_3_25 rfl (Ls' := #[.val (.ref a), .val (.long fr), .second, .val (.double (FP.l2d vf)), .second, .val (.long to), .second, .val (.double (FP.l2d vt)), .second, .val (.int (1 : Int32)), .val (.double (FP.l2d (vt - vf))), .second, .unset, .unset]) rfl ?_
      refine WP.iload (pc' := 29) d_prog_43_method_3_27 rfl rfl ?_
      have hc29 : ¬ (1 : Int32) = (0 : Int32) := by decide
      refine WP.ifc_eq (pc1 := 45) (pc2 := 32) d_prog_43_method_3_29 (by decide) (by decide) rfl (fun k => absurd k hc29) (fun _ => ?_)
      refine WP.aloadN (pc' := 33) d_prog_43_method_3_32 rfl rfl rfl ?_
      refine WP.getF (pc' := 36) d_prog_43_method_3_33 rfl (host := "") (Or.inl (wd13 hw)) Via.refl F_counterMax ?_
      refine WP.dloadN (pc' := 37) d_prog_43_method_3_36 rfl rfl ?_
      refine WP.dsub (pc' := 38) d_prog_43_method_3_37 rfl (v := (FP.l2d (vc - vf))) (nn_w (dsub_w bc bf)) (dsub_w bc bf) ?_
      refine WP.dconst1 (pc' := 39) d_prog_43_method_3_38 rfl (v := FP.dconst1) rfl ?_
      refine WP.dadd (pc' := 40) d_prog_43_method_3_39 rfl (v := (FP.l2d (vc - vf + 1))) (nn_w (a := vc - vf + 1) (by rw [dc1]; exact dadd_w c2 b1')) (by rw [dc1]; exact dadd_w c2 b1') ?_
      refine WP.dload (pc' := 42) d_prog_43_method_3_40 rfl rfl ?_
      refine WP.dadd (pc' := 43) d_prog_43_method_3_42 rfl (v := (FP.l2d (vc - vf + 1 + vt))) (nn_w (dadd_w c3 bt)) (dadd_w c3 bt) ?_
      refine WP.dstore (pc' := 45) d_prog_43_method_3_43 rfl (Ls' := #[.val (.ref a), .val (.long fr), .second, .val (.double (FP.l2d vf)), .second, .val (.long to), .second, .val (.double (FP.l2d vt)), .second, .val (.int (1 : Int32)), .val (.double (FP.l2d (vc - vf + 1 + vt))), .second, .unset, .unset]) rfl ?_
      refine WP.dload (pc' := 47) d_prog_43_method_3_45 rfl rfl ?_
      refine WP.lload (pc' := 49) d_prog_43_method_3_47 rfl rfl ?_
      refine WP.l2d (pc' := 50) d_prog_43_method_3_49 rfl (v := FP.l2d to) rfl ?_
      refine WP.lloadN (pc' := 51) d_prog_43_method_3_50 rfl rfl ?_
      refine WP.l2d (pc' := 52) d_prog_43_method_3_51 rfl (v := FP.l2d fr) rfl ?_
      refine WP.dsub (pc' := 53) d_prog_43_method_3_52 rfl (v := (FP.l2d (to - fr))) (nn_w (dsub_w bto bfr)) (dsub_w bto bfr) ?_
      refine WP.ldc2D (pc' := 56) d_prog_43_method_3_53 rfl (wd24 hw) ?_
      refine WP.ddiv (pc' := 57) d_prog_43_method_3_56 rfl (v := (FP.l2d k)) (nn_w (sec hk hk2 c5 (by omega))) (sec hk hk2 c5 (by omega)) ?_
      refine WP.ddiv (pc' := 58) d_prog_43_method_3_57 rfl (v := (FP.ddiv (FP.l2d (vc - vf + 1 + vt)) (FP.l2d k))) (nn_div hk) rfl ?_
      refine WP.dstore (pc' := 60) d_prog_43_method_3_58 rfl (Ls' := #[.val (.ref a), .val (.long fr), .second, .val (.double (FP.l2d vf)), .second, .val (.long to), .second, .val (.double (FP.l2d vt)), .second, .val (.int (1 : Int32)), .val (.double (FP.l2d (vc - vf + 1 + vt))), .second, .val (.double (FP.ddiv (FP.l2d (vc - vf + 1 + vt)) (FP.l2d k))), .second]) rfl ?_
      refine WP.iload (pc' := 62) d_prog_43_method_3_60 rfl rfl ?_
      have hc62 : ¬ (1 : Int32) = (0 : Int32) := by decide
      refine WP.ifc_eq (pc1 := 88) (pc2 := 65) d_prog_43_method_3_62 (by decide) (by decide) rfl (fun k => absurd k hc62) (fun _ => ?_)
      refine WP.aloadN (pc' := 66) d_prog_43_method_3_65 rfl rfl rfl ?_
      refine WP.getF (pc' := 69) d_prog_43_method_3_66 rfl (host := "") (Or.inl (wd15 hw)) Via.refl F_resetValue ?_
      refine WP.dconst0 (pc' := 70) d_prog_43_method_3_69 rfl (v := FP.dconst0) rfl ?_
      refine WP.dcmp (pc' := 71) d_prog_43_method_3_70 rfl (v := (lcmpW vr 0)) (by rw [dc0]; exact dcmpV_w br b0 .l) ?_
      refine WP.ifc_le (pc1 := 88) (pc2 := 74) d_prog_43_method_3_71 (by decide) (by decide) rfl ?_ ?_
      · intro hc71
        refine WP.dload (pc' := 90) d_prog_43_method_3_88 rfl rfl ?_
        refine WP.dret d_prog_43_method_3_90 rfl (by decide) (by decide) ⟨by rw [rate_1 ⟨hc4, (lw_lt _ _).mp hc11⟩ (fun z => hc71 ((lw_gt _ _).mpr z.1))], rfl⟩
      · intro hc71
        refine WP.dload (pc' := 76) d_prog_43_method_3_74 rfl rfl ?_
        refine WP.aloadN (pc' := 77) d_prog_43_method_3_76 rfl rfl rfl ?_
        refine WP.getF (pc' := 80) d_prog_43_method_3_77 rfl (host := "") (Or.inl (wd15 hw)) Via.refl F_resetValue ?_
        refine WP.dcmp (pc' := 81) d_prog_43_method_3_80 rfl (v := (cmpValue (FP.dcmp (FP.ddiv (FP.l2d (vc - vf + 1 + vt)) (FP.l2d k)) (FP.l2d vr)) .l)) rfl ?_
        refine WP.ifc_le (pc1 := 88) (pc2 := 84) d_prog_43_method_3_81 (by decide) (by decide) rfl ?_ ?_
        · intro hc81
          refine WP.dload (pc' := 90) d_prog_43_method_3_88 rfl rfl ?_
          refine WP.dret d_prog_43_method_3_90 rfl (by decide) (by decide) ⟨by rw [rate_1 ⟨hc4, (lw_lt _ _).mp hc11⟩ (fun z => hc81 ((cmp_pos c4 hk hk2 z.1 hr).mpr z.2))], rfl⟩
        · intro hc81
          refine WP.dconst0 (pc' := 85) d_prog_43_method_3_84 rfl (v := FP.dconst0) rfl ?_
          refine WP.goto (pc' := 90) d_prog_43_method_3_85 (by decide) (by decide) ?_
          refine WP.dret d_prog_43_method_3_90 rfl (by decide) (by decide) ⟨by rw [rate_2 ⟨hc4, (lw_lt _ _).mp hc11⟩ ⟨(lw_gt _ _).mp hc71, (cmp_pos c4 hk hk2 ((lw_gt _ _).mp hc71) hr).mp hc81⟩], rfl⟩
theorem i32 (x : Int32) : I32 x.toInt64 := by
  have h1 := rng32 x
  have h2 := c_i2l x
  unfold I32; omega
theorem lt64 {x y : Int32} : x.toInt64 < y.toInt64 ↔ x < y := by rw [Int64.lt_iff_toInt_lt, Int32.lt_iff_toInt_lt, c_i2l, c_i2l]
theorem gt0 {x : Int32} : (0 : Int64) < x.toInt64 ↔ 0 < x := lt64 (x := 0)
theorem mul_ok {a k : Int64} (h : I32 a) (hk : 0 < k.toInt) (hk2 : k.toInt ≤ 1048576) : (a * k).toInt = a.toInt * k.toInt := by
  have h1 : a.toInt * k.toInt ≤ 2147483648 * k.toInt := Int.mul_le_mul_of_nonneg_right (by have := h.2; omega) (by omega)
  have h2 : -2147483648 * k.toInt ≤ a.toInt * k.toInt := Int.mul_le_mul_of_nonneg_right h.1 (by omega)
  have h3 := c_lmul a k
  have h4 := rng64 (a * k)
  generalize a.toInt * k.toInt = z at *
  omega
theorem mul_lt {a k b : Int64} (h : I32 a) (hk : 0 < k.toInt) (hk2 : k.toInt ≤ 1048576) : a * k < b ↔ a.toInt * k.toInt < b.toInt := by rw [Int64.lt_iff_toInt_lt, mul_ok h hk hk2]
theorem kv (x : Int64) : 0 < ((x &&& 1048575) + 1).toInt ∧ ((x &&& 1048575) + 1).toInt ≤ 1048576 := by
  have h1 := c_maskL x 1048575 20 (by decide) (by decide)
  have h2 := c_ladd (x &&& 1048575) 1
  have h3 := rng64 ((x &&& 1048575) + 1)
  have e : (1 : Int64).toInt = 1 := rfl
  omega
theorem frv (x : Int64) : -2199023255552 ≤ (x >>> ((22 : Int32) &&& 0x3f).toInt64).toInt ∧ (x >>> ((22 : Int32) &&& 0x3f).toInt64).toInt < 2199023255552 := by
  have h1 := c_lshr x 22 22 rfl
  have h2 := rng64 x
  omega
theorem tov {f k : Int64} (h1 : -2199023255552 ≤ f.toInt ∧ f.toInt < 2199023255552) (h2 : 0 < k.toInt ∧ k.toInt ≤ 1048576) : (f + k * 1000).toInt = f.toInt + k.toInt * 1000 := by
  have a1 := c_lmul k 1000
  have a2 := rng64 (k * 1000)
  have a3 := c_ladd f (k * 1000)
  have a4 := rng64 (f + k * 1000)
  have e : (1000 : Int64).toInt = 1000 := by decide
  rw [e] at a1
  omega
theorem wd0 {Z : State} {a0 : Array Value} (hw : ∀ d ∈ tables_1, d.before a0 Z = true) : (Jvm.Cond.constantLong "com/example/takt/takt/server/RateOptionsRatePinLaw" (7 : Nat) (1048575 : Int64)).before a0 Z = true := hw _ (List.mem_of_getElem? (i := 0) rfl)
theorem wd1 {Z : State} {a0 : Array Value} (hw : ∀ d ∈ tables_1, d.before a0 Z = true) : (Jvm.Cond.constantLong "com/example/takt/takt/server/RateOptionsRatePinLaw" (9 : Nat) (1000 : Int64)).before a0 Z = true := hw _ (List.mem_of_getElem? (i := 1) rfl)
theorem wd2 {Z : State} {a0 : Array Value} (hw : ∀ d ∈ tables_1, d.before a0 Z = true) : (Jvm.Cond.classLink "com/example/takt/takt/server/RateOptionsRatePinLaw" (11 : Nat) "com/example/takt/takt/server/RateOptions").before a0 Z = true := hw _ (List.mem_of_getElem? (i := 2) rfl)
theorem wd4 {Z : State} {a0 : Array Value} (hw : ∀ d ∈ tables_1, d.before a0 Z = true) : (Jvm.Cond.initialized "com/example/takt/takt/server/RateOptions").before a0 Z = true := hw _ (List.mem_of_getElem? (i := 4) rfl)
theorem wd5 {Z : State} {a0 : Array Value} (hw : ∀ d ∈ tables_1, d.before a0 Z = true) : (Jvm.Cond.methodLink "com/example/takt/takt/server/RateOptionsRatePinLaw" (13 : Nat) ({ cls := "com/example/takt/takt/server/RateOptions", name := "<init>", desc := "(ZDDZ)V" } : Jvm.MethodName)).before a0 Z = true := hw _ (List.mem_of_getElem? (i := 5) rfl)
theorem wd7 {Z : State} {a0 : Array Value} (hw : ∀ d ∈ tables_1, d.before a0 Z = true) : (Jvm.Cond.code ({ cls := "com/example/takt/takt/server/RateOptions", name := "<init>", desc := "(ZDDZ)V" } : Jvm.MethodName) prog_43_method_1_code (7 : Nat) (Option.none : Option Jvm.ClassFile.FieldType)).before a0 Z = true := hw _ (List.mem_of_getElem? (i := 7) rfl)
theorem pd_0 : parseMethodDescriptor "(ZDDZ)V" = some ⟨[.boolean, .double, .double, .boolean], none⟩ := by decide +kernel
theorem wd6 {Z : State} {a0 : Array Value} (hw : ∀ d ∈ tables_1, d.before a0 Z = true) : (Jvm.Cond.instanceMethod ({ cls := "com/example/takt/takt/server/RateOptions", name := "<init>", desc := "(ZDDZ)V" } : Jvm.MethodName)).before a0 Z = true := hw _ (List.mem_of_getElem? (i := 6) rfl)
theorem wd19 {Z : State} {a0 : Array Value} (hw : ∀ d ∈ tables_1, d.before a0 Z = true) : (Jvm.Cond.methodLink "com/example/takt/takt/server/RateOptionsRatePinLaw" (16 : Nat) ({ cls := "com/example/takt/takt/server/RateOptions", name := "rate", desc := "(JDJD)D" } : Jvm.MethodName)).before a0 Z = true := hw _ (List.mem_of_getElem? (i := 19) rfl)
theorem wd23 {Z : State} {a0 : Array Value} (hw : ∀ d ∈ tables_1, d.before a0 Z = true) : (Jvm.Cond.code ({ cls := "com/example/takt/takt/server/RateOptions", name := "rate", desc := "(JDJD)D" } : Jvm.MethodName) prog_43_method_3_code (14 : Nat) (Option.some Jvm.ClassFile.FieldType.double)).before a0 Z = true := hw _ (List.mem_of_getElem? (i := 23) rfl)
theorem pd_1 : parseMethodDescriptor "(JDJD)D" = some ⟨[.long, .double, .long, .double], some .double⟩ := by decide +kernel
theorem wd22 {Z : State} {a0 : Array Value} (hw : ∀ d ∈ tables_1, d.before a0 Z = true) : (Jvm.Cond.selects "com/example/takt/takt/server/RateOptions" ({ cls := "com/example/takt/takt/server/RateOptions", name := "rate", desc := "(JDJD)D" } : Jvm.MethodName) ({ cls := "com/example/takt/takt/server/RateOptions", name := "rate", desc := "(JDJD)D" } : Jvm.MethodName)).before a0 Z = true := hw _ (List.mem_of_getElem? (i := 22) rfl)
theorem wd20 {Z : State} {a0 : Array Value} (hw : ∀ d ∈ tables_1, d.before a0 Z = true) : (Jvm.Cond.declares ({ cls := "com/example/takt/takt/server/RateOptions", name := "rate", desc := "(JDJD)D" } : Jvm.MethodName)).before a0 Z = true := hw _ (List.mem_of_getElem? (i := 20) rfl)
theorem wd21 {Z : State} {a0 : Array Value} (hw : ∀ d ∈ tables_1, d.before a0 Z = true) : (Jvm.Cond.instanceMethod ({ cls := "com/example/takt/takt/server/RateOptions", name := "rate", desc := "(JDJD)D" } : Jvm.MethodName)).before a0 Z = true := hw _ (List.mem_of_getElem? (i := 21) rfl)
theorem pn_1 : plainName "com/example/takt/takt/server/RateOptionsRatePinLaw" = true := by first | (simp [plainName, overriddenIn]; done) | decide +kernel
set_option maxRecDepth 65536 in
set_option maxHeartbeats 40000000 in
theorem rm0 {Z : State} {a0 : Array Value} (hw : ∀ d ∈ tables_1, d.before a0 Z = true) (x0 : Int32) (x1 : Int32) (x2 : Int32) (x3 : Int32) (x4 : Int32) (x5 : Int64) (h0 : Heap) (n0 : Nat) (Z0 : n0 ≤ h0.size) (O0 : Old Z n0 h0) : ∀ l, Does l Z x code maxLocals ret room_1 n0 #[(.int x0), (.int x1), (.int x2), (.int x3), (.int x4), (.long x5)] h0 (fun v _ => v = some (.int 1)) := by
  intro l
  refine Does.of_wp (plainFor_of_name pn_1) (Ls := #[.val (.int x0), .val (.int x1), .val (.int x2), .val (.int x3), .val (.int x4), .val (.long x5), .second, .unset, .unset, .unset, .unset, .unset, .unset, .unset, .unset, .unset, .unset, .unset, .unset, .unset, .unset, .unset, .unset]) (fun m => by first | (simp [entryFrame, mkF, argsToLocals, Value.category, maxLocals]; done) | rfl | (rcases ref_cases hfv with rfl | ⟨_, rfl⟩ <;> rfl)) ?_
  intro C
  refine WP.iloadN (pc' := 1) at_0 rfl rfl ?_
  refine WP.iconst (pc' := 2) at_1 rfl (z := 1) rfl ?_
  refine WP.iand (pc' := 3) at_2 rfl ?_
  refine WP.ifc_eq (pc1 := 10) (pc2 := 6) at_3 (by decide) (by decide) rfl ?_ ?_
  · intro hc3
    refine WP.iconst (pc' := 11) at_10 rfl (z := 0) rfl ?_
    refine WP.istore (pc' := 13) at_11 rfl (Ls' := #[.val (.int x0), .val (.int x1), .val (.int x2), .val (.int x3), .val (.int x4), .val (.long x5), .second, .val (.int (0 : Int32)), .unset, .unset, .unset, .unset, .unset, .unset, .unset, .unset, .unset, .unset, .unset, .unset, .unset, .unset, .unset]) rfl ?_
    refine WP.iloadN (pc' := 14) at_13 rfl rfl ?_
    refine WP.iconst (pc' := 15) at_14 rfl (z := 2) rfl ?_
    refine WP.iand (pc' := 16) at_15 rfl ?_
    refine WP.ifc_eq (pc1 := 23) (pc2 := 19) at_16 (by decide) (by decide) rfl ?_ ?_
    · intro hc16
      refine WP.iconst (pc' := 24) at_23 rfl (z := 0) rfl ?_
      refine WP.istore (pc' := 26) at_24 rfl (Ls' := #[.val (.int x0), .val (.int x1), .val (.int x2), .val (.int x3), .val (.int x4), .val (.long x5), .second, .val (.int (0 : Int32)), .val (.int (0 : Int32)), .unset, .unset, .unset, .unset, .unset, .unset, .unset, .unset, .unset, .unset, .unset, .unset, .unset, .unset]) rfl ?_
      refine WP.lload (pc' := 28) at_26 rfl rfl ?_
      refine WP.bipush (pc' := 30) at_28 rfl (z := 22) rfl ?_
      refine WP.lshr (pc' := 31) at_30 rfl ?_
      generalize ht1 : (x5 >>> ((22 : Int32) &&& 0x3f).toInt64) = t1
      refine WP.lstore (pc' := 33) at_31 rfl (Ls' := #[.val (.int x0), .val (.int x1), .val (.int x2), .val (.int x3), .val (.int x4), .val (.long x5), .second, .val (.int (0 : Int32)), .val (.int (0 : Int32)), .val (.long t1), .second, .unset, .unset, .unset, .unset, .unset, .unset, .unset, .unset, .unset, .unset, .unset, .unset]) rfl ?_
      refine WP.lload (pc' := 35) at_33 rfl rfl ?_
      refine WP.ldc2J (pc' := 38) at_35 rfl (wd0 hw) ?_
      refine WP.land (pc' := 39) at_38 rfl ?_
      refine WP.lconst (pc' := 40) at_39 rfl (z := 1) rfl ?_
      refine WP.ladd (pc' := 41) at_40 rfl ?_
      generalize ht2 : ((x5 &&& (1048575 : Int64)) + (1 : Int64)) = t2
      refine WP.lstore (pc' := 43) at_41 rfl (Ls' := #[.val (.int x0), .val (.int x1), .val (.int x2), .val (.int x3), .val (.int x4), .val (.long x5), .second, .val (.int (0 : Int32)), .val (.int (0 : Int32)), .val (.long t1), .second, .val (.long t2), .second, .unset, .unset, .unset, .unset, .unset, .unset, .unset, .unset, .unset, .unset]) rfl ?_
      refine WP.lload (pc' := 45) at_43 rfl rfl ?_
      refine WP.lload (pc' := 47) at_45 rfl rfl ?_
      refine WP.ldc2J (pc' := 50) at_47 rfl (wd1 hw) ?_
      refine WP.lmul (pc' := 51) at_50 rfl ?_
      refine WP.ladd (pc' := 52) at_51 rfl ?_
      generalize ht3 : (t1 + (t2 * (1000 : Int64))) = t3
      refine WP.lstore (pc' := 54) at_52 rfl (Ls' := #[.val (.int x0), .val (.int x1), .val (.int x2), .val (.int x3), .val (.int x4), .val (.long x5), .second, .val (.int (0 : Int32)), .val (.int (0 : Int32)), .val (.long t1), .second, .val (.long t2), .second, .val (.long t3), .second, .unset, .unset, .unset, .unset, .unset, .unset, .unset, .unset]) rfl ?_
      have hfr := frv x5
      rw [ht1] at hfr
      have hkk := kv x5
      rw [ht2] at hkk
      have hto := tov hfr hkk
      rw [ht3] at hto
      have bfr : B53 t1 := ⟨by omega, by omega⟩
      have bto : B53 t3 := ⟨by omega, by omega⟩
      refine WP.newO (cl' := 1) (sl' := 4) (pc' := 57) at_54 rfl (wd2 hw) (wd3 hw) (wd4 hw) rfl rfl (by decide) (by decide) ?_
      intro h4 b4 g4 E4 A4 D4
      have ge5 : n0 ≤ b4 := by rw [g4]; exact Z0
      have O6 := O0.ext E4
      have Z7 : n0 ≤ h4.size := Nat.le_trans Z0 E4.1
      have F8 : Fld Z h4 b4 "com/example/takt/takt/server/RateOptions" "counter" "Z" (.int (0 : Int32)) := D4 (Or.inr (wd12 hw)) (ty := .boolean) (by decide)
      have F9 : Fld Z h4 b4 "com/example/takt/takt/server/RateOptions" "counterMax" "D" (.double (0 : UInt64)) := D4 (Or.inr (wd14 hw)) (ty := .double) (by decide)
      have F10 : Fld Z h4 b4 "com/example/takt/takt/server/RateOptions" "resetValue" "D" (.double (0 : UInt64)) := D4 (Or.inr (wd16 hw)) (ty := .double) (by decide)
      have F11 : Fld Z h4 b4 "com/example/takt/takt/server/RateOptions" "dropResets" "Z" (.int (0 : Int32)) := D4 (Or.inr (wd18 hw)) (ty := .boolean) (by decide)
      refine WP.dup (pc' := 58) at_57 rfl rfl ?_
      refine WP.iload (pc' := 60) at_58 rfl rfl ?_
      refine WP.iloadN (pc' := 61) at_60 rfl rfl ?_
      refine WP.i2d (pc' := 62) at_61 rfl (v := FP.l2d x1.toInt64) (i2d_w _) ?_
      refine WP.iloadN (pc' := 63) at_62 rfl rfl ?_
      refine WP.i2d (pc' := 64) at_63 rfl (v := FP.l2d x2.toInt64) (i2d_w _) ?_
      refine WP.iload (pc' := 66) at_64 rfl rfl ?_
      refine WP.callI (a := b4) (argsL := [(.int (0 : Int32)), (.double (FP.l2d x1.toInt64)), (.double (FP.l2d x2.toInt64)), (.int (0 : Int32))]) (rest := [(.ref b4)]) (wd := 1) (cl' := 1) (sl' := 4) (pc' := 69) at_66 rfl rfl (wd5 hw) (wd6 hw) (wd4 hw) (wd7 hw) (by decide) (m_ini hw b4 (0 : Int32) (FP.l2d x1.toInt64) (FP.l2d x2.toInt64) (0 : Int32) h4 n0 ge5 A4 F8 F9 F10 F11 rfl rfl rfl rfl) pd_0 rfl rfl rfl (Nat.le_of_eq rfl) (by decide) (by decide) rfl rfl (by decide) (by decide) ?_
      rintro v h12 ⟨rfl, K12, E12, Fcounter_12, FcounterMax_12, FresetValue_12⟩
      have E13 := A4.keep K12
      have O14 := O6.keep K12 (allS ge5 all0)
      have Z15 : n0 ≤ h12.size := Nat.le_trans Z7 K12.1
      refine WP.castS (st' := [(.ref b4)]) rfl ?_
      refine WP.astore (pc' := 71) at_69 rfl rfl (Ls' := #[.val (.int x0), .val (.int x1), .val (.int x2), .val (.int x3), .val (.int x4), .val (.long x5), .second, .val (.int (0 : Int32)), .val (.int (0 : Int32)), .val (.long t1), .second, .val (.long t2), .second, .val (.long t3), .second, .val (.ref b4), .unset, .unset, .unset, .unset, .unset, .unset, .unset]) rfl ?_
      refine WP.aload (pc' := 73) at_71 rfl rfl rfl ?_
      refine WP.lload (pc' := 75) at_73 rfl rfl ?_
      refine WP.iloadN (pc' := 76) at_75 rfl rfl ?_
      refine WP.i2d (pc' := 77) at_76 rfl (v := FP.l2d x3.toInt64) (i2d_w _) ?_
      refine WP.lload (pc' := 79) at_77 rfl rfl ?_
      refine WP.iload (pc' := 81) at_79 rfl rfl ?_
      refine WP.i2d (pc' := 82) at_81 rfl (v := FP.l2d x4.toInt64) (i2d_w _) ?_
      refine WP.callV (a := b4) (K := "com/example/takt/takt/server/RateOptions") (argsL := [(.long t1), (.double (FP.l2d x3.toInt64)), (.long t3), (.double (FP.l2d x4.toInt64))]) (rest := []) (wd := 0) (cl' := 1) (sl' := 4) (pc' := 85) at_82 rfl (wd19 hw) (wd20 hw) (nfS (wd22 hw) rfl) (wd22 hw) (wd21 hw) (wd4 hw) (wd23 hw) (by decide) E12 (m_rate hw b4 t1 t3 h12 n0 (0 : Int32) x3.toInt64 x4.toInt64 x1.toInt64 x2.toInt64 t2 E12 Fcounter_12 FcounterMax_12 FresetValue_12 (i32 x3) (i32 x4) (i32 x1) (i32 x2) hkk.1 hkk.2 bfr bto hto) pd_1 rfl rfl rfl (Nat.le_of_eq rfl) (by decide) (by decide) rfl rfl (by decide) (by decide) ?_
      rintro v hh16 ⟨rfl, he16⟩
      rw [he16]
      refine WP.castS (st' := [(.double (rateR (0 : Int32) x3.toInt64 x4.toInt64 x1.toInt64 x2.toInt64 t2))]) rfl ?_
      refine WP.dstore (pc' := 87) at_85 rfl (Ls' := #[.val (.int x0), .val (.int x1), .val (.int x2), .val (.int x3), .val (.int x4), .val (.long x5), .second, .val (.int (0 : Int32)), .val (.int (0 : Int32)), .val (.long t1), .second, .val (.long t2), .second, .val (.long t3), .second, .val (.ref b4), .val (.double (rateR (0 : Int32) x3.toInt64 x4.toInt64 x1.toInt64 x2.toInt64 t2)), .second, .unset, .unset, .unset, .unset, .unset]) rfl ?_
      refine WP.iload (pc' := 89) at_87 rfl rfl ?_
      have hc89 : (0 : Int32) = (0 : Int32) := by decide
      refine WP.ifc_eq (pc1 := 102) (pc2 := 92) at_89 (by decide) (by decide) rfl (fun _ => ?_) (fun k => absurd hc89 k)
      refine WP.iconst (pc' := 103) at_102 rfl (z := 0) rfl ?_
      refine WP.istore (pc' := 105) at_103 rfl (Ls' := #[.val (.int x0), .val (.int x1), .val (.int x2), .val (.int x3), .val (.int x4), .val (.long x5), .second, .val (.int (0 : Int32)), .val (.int (0 : Int32)), .val (.long t1), .second, .val (.long t2), .second, .val (.long t3), .second, .val (.ref b4), .val (.double (rateR (0 : Int32) x3.toInt64 x4.toInt64 x1.toInt64 x2.toInt64 t2)), .second, .val (.int (0 : Int32)), .unset, .unset, .unset, .unset]) rfl ?_
      refine WP.iload (pc' := 107) at_105 rfl rfl ?_
      have hc107 : (0 : Int32) = (0 : Int32) := by decide
      refine WP.ifc_eq (pc1 := 126) (pc2 := 110) at_107 (by decide) (by decide) rfl (fun _ => ?_) (fun k => absurd hc107 k)
      refine WP.iload (pc' := 128) at_126 rfl rfl ?_
      refine WP.i2l (pc' := 129) at_128 rfl ?_
      refine WP.iloadN (pc' := 130) at_129 rfl rfl ?_
      refine WP.i2l (pc' := 131) at_130 rfl ?_
      refine WP.lsub (pc' := 132) at_131 rfl ?_
      refine WP.lstore (pc' := 134) at_132 rfl (Ls' := #[.val (.int x0), .val (.int x1), .val (.int x2), .val (.int x3), .val (.int x4), .val (.long x5), .second, .val (.int (0 : Int32)), .val (.int (0 : Int32)), .val (.long t1), .second, .val (.long t2), .second, .val (.long t3), .second, .val (.ref b4), .val (.double (rateR (0 : Int32) x3.toInt64 x4.toInt64 x1.toInt64 x2.toInt64 t2)), .second, .val (.int (0 : Int32)), .val (.long ((x4.toInt64) - (x3.toInt64))), .second, .unset, .unset]) rfl ?_
      refine WP.iload (pc' := 136) at_134 rfl rfl ?_
      have hc136 : (0 : Int32) = (0 : Int32) := by decide
      refine WP.ifc_eq (pc1 := 160) (pc2 := 139) at_136 (by decide) (by decide) rfl (fun _ => ?_) (fun k => absurd hc136 k)
      refine WP.lload (pc' := 162) at_160 rfl rfl ?_
      refine WP.l2d (pc' := 163) at_162 rfl (v := FP.l2d ((x4.toInt64) - (x3.toInt64))) rfl ?_
      refine WP.lload (pc' := 165) at_163 rfl rfl ?_
      refine WP.l2d (pc' := 166) at_165 rfl (v := FP.l2d t2) rfl ?_
      refine WP.ddiv (pc' := 167) at_166 rfl (v := (FP.ddiv (FP.l2d ((x4.toInt64) - (x3.toInt64))) (FP.l2d t2))) (nn_div hkk.1) rfl ?_
      refine WP.dstore (pc' := 169) at_167 rfl (Ls' := #[.val (.int x0), .val (.int x1), .val (.int x2), .val (.int x3), .val (.int x4), .val (.long x5), .second, .val (.int (0 : Int32)), .val (.int (0 : Int32)), .val (.long t1), .second, .val (.long t2), .second, .val (.long t3), .second, .val (.ref b4), .val (.double (rateR (0 : Int32) x3.toInt64 x4.toInt64 x1.toInt64 x2.toInt64 t2)), .second, .val (.int (0 : Int32)), .val (.long ((x4.toInt64) - (x3.toInt64))), .second, .val (.double (FP.ddiv (FP.l2d ((x4.toInt64) - (x3.toInt64))) (FP.l2d t2))), .second]) rfl ?_
      refine WP.dload (pc' := 171) at_169 rfl rfl ?_
      refine WP.dload (pc' := 173) at_171 rfl rfl ?_
      have hg : (rateR (0 : Int32) x3.toInt64 x4.toInt64 x1.toInt64 x2.toInt64 t2) = (FP.ddiv (FP.l2d ((x4.toInt64) - (x3.toInt64))) (FP.l2d t2)) := rate_0 (fun z => z.1 rfl)
      refine WP.dcmp (pc' := 174) at_173 rfl (v := (0 : Int32)) (dcmpV_eq hg (by rw [hg]; exact nn_div hkk.1) .l) ?_
      have hc174 : (0 : Int32) = (0 : Int32) := by decide
      refine WP.ifc_ne (pc1 := 181) (pc2 := 177) at_174 (by decide) (by decide) rfl (fun k => absurd hc174 k) (fun _ => ?_)
      refine WP.iconst (pc' := 178) at_177 rfl (z := 1) rfl ?_
      refine WP.goto (pc' := 182) at_178 (by decide) (by decide) ?_
      refine WP.nret (t := .boolean) at_182 rfl (by simp) rfl (by decide) (by decide) rfl
    · intro hc16
      refine WP.iconst (pc' := 20) at_19 rfl (z := 1) rfl ?_
      refine WP.goto (pc' := 24) at_20 (by decide) (by decide) ?_
      refine WP.istore (pc' := 26) at_24 rfl (Ls' := #[.val (.int x0), .val (.int x1), .val (.int x2), .val (.int x3), .val (.int x4), .val (.long x5), .second, .val (.int (0 : Int32)), .val (.int (1 : Int32)), .unset, .unset, .unset, .unset, .unset, .unset, .unset, .unset, .unset, .unset, .unset, .unset, .unset, .unset]) rfl ?_
      refine WP.lload (pc' := 28) at_26 rfl rfl ?_
      refine WP.bipush (pc' := 30) at_28 rfl (z := 22) rfl ?_
      refine WP.lshr (pc' := 31) at_30 rfl ?_
      generalize ht17 : (x5 >>> ((22 : Int32) &&& 0x3f).toInt64) = t17
      refine WP.lstore (pc' := 33) at_31 rfl (Ls' := #[.val (.int x0), .val (.int x1), .val (.int x2), .val (.int x3), .val (.int x4), .val (.long x5), .second, .val (.int (0 : Int32)), .val (.int (1 : Int32)), .val (.long t17), .second, .unset, .unset, .unset, .unset, .unset, .unset, .unset, .unset, .unset, .unset, .unset, .unset]) rfl ?_
      refine WP.lload (pc' := 35) at_33 rfl rfl ?_
      refine WP.ldc2J (pc' := 38) at_35 rfl (wd0 hw) ?_
      refine WP.land (pc' := 39) at_38 rfl ?_
      refine WP.lconst (pc' := 40) at_39 rfl (z := 1) rfl ?_
      refine WP.ladd (pc' := 41) at_40 rfl ?_
      generalize ht18 : ((x5 &&& (1048575 : Int64)) + (1 : Int64)) = t18
      refine WP.lstore (pc' := 43) at_41 rfl (Ls' := #[.val (.int x0), .val (.int x1), .val (.int x2), .val (.int x3), .val (.int x4), .val (.long x5), .second, .val (.int (0 : Int32)), .val (.int (1 : Int32)), .val (.long t17), .second, .val (.long t18), .second, .unset, .unset, .unset, .unset, .unset, .unset, .unset, .unset, .unset, .unset]) rfl ?_
      refine WP.lload (pc' := 45) at_43 rfl rfl ?_
      refine WP.lload (pc' := 47) at_45 rfl rfl ?_
      refine WP.ldc2J (pc' := 50) at_47 rfl (wd1 hw) ?_
      refine WP.lmul (pc' := 51) at_50 rfl ?_
      refine WP.ladd (pc' := 52) at_51 rfl ?_
      generalize ht19 : (t17 + (t18 * (1000 : Int64))) = t19
      refine WP.lstore (pc' := 54) at_52 rfl (Ls' := #[.val (.int x0), .val (.int x1), .val (.int x2), .val (.int x3), .val (.int x4), .val (.long x5), .second, .val (.int (0 : Int32)), .val (.int (1 : Int32)), .val (.long t17), .second, .val (.long t18), .second, .val (.long t19), .second, .unset, .unset, .unset, .unset, .unset, .unset, .unset, .unset]) rfl ?_
      have hfr := frv x5
      rw [ht17] at hfr
      have hkk := kv x5
      rw [ht18] at hkk
      have hto := tov hfr hkk
      rw [ht19] at hto
      have bfr : B53 t17 := ⟨by omega, by omega⟩
      have bto : B53 t19 := ⟨by omega, by omega⟩
      refine WP.newO (cl' := 1) (sl' := 4) (pc' := 57) at_54 rfl (wd2 hw) (wd3 hw) (wd4 hw) rfl rfl (by decide) (by decide) ?_
      intro h20 b20 g20 E20 A20 D20
      have ge21 : n0 ≤ b20 := by rw [g20]; exact Z0
      have O22 := O0.ext E20
      have Z23 : n0 ≤ h20.size := Nat.le_trans Z0 E20.1
      have F24 : Fld Z h20 b20 "com/example/takt/takt/server/RateOptions" "counter" "Z" (.int (0 : Int32)) := D20 (Or.inr (wd12 hw)) (ty := .boolean) (by decide)
      have F25 : Fld Z h20 b20 "com/example/takt/takt/server/RateOptions" "counterMax" "D" (.double (0 : UInt64)) := D20 (Or.inr (wd14 hw)) (ty := .double) (by decide)
      have F26 : Fld Z h20 b20 "com/example/takt/takt/server/RateOptions" "resetValue" "D" (.double (0 : UInt64)) := D20 (Or.inr (wd16 hw)) (ty := .double) (by decide)
      have F27 : Fld Z h20 b20 "com/example/takt/takt/server/RateOptions" "dropResets" "Z" (.int (0 : Int32)) := D20 (Or.inr (wd18 hw)) (ty := .boolean) (by decide)
      refine WP.dup (pc' := 58) at_57 rfl rfl ?_
      refine WP.iload (pc' := 60) at_58 rfl rfl ?_
      refine WP.iloadN (pc' := 61) at_60 rfl rfl ?_
      refine WP.i2d (pc' := 62) at_61 rfl (v := FP.l2d x1.toInt64) (i2d_w _) ?_
      refine WP.iloadN (pc' := 63) at_62 rfl rfl ?_
      refine WP.i2d (pc' := 64) at_63 rfl (v := FP.l2d x2.toInt64) (i2d_w _) ?_
      refine WP.iload (pc' := 66) at_64 rfl rfl ?_
      refine WP.callI (a := b20) (argsL := [(.int (0 : Int32)), (.double (FP.l2d x1.toInt64)), (.double (FP.l2d x2.toInt64)), (.int (1 : Int32))]) (rest := [(.ref b20)]) (wd := 1) (cl' := 1) (sl' := 4) (pc' := 69) at_66 rfl rfl (wd5 hw) (wd6 hw) (wd4 hw) (wd7 hw) (by decide) (m_ini hw b20 (0 : Int32) (FP.l2d x1.toInt64) (FP.l2d x2.toInt64) (1 : Int32) h20 n0 ge21 A20 F24 F25 F26 F27 rfl rfl rfl rfl) pd_0 rfl rfl rfl (Nat.le_of_eq rfl) (by decide) (by decide) rfl rfl (by decide) (by decide) ?_
      rintro v h28 ⟨rfl, K28, E28, Fcounter_28, FcounterMax_28, FresetValue_28⟩
      have E29 := A20.keep K28
      have O30 := O22.keep K28 (allS ge21 all0)
      have Z31 : n0 ≤ h28.size := Nat.le_trans Z23 K28.1
      refine WP.castS (st' := [(.ref b20)]) rfl ?_
      refine WP.astore (pc' := 71) at_69 rfl rfl (Ls' := #[.val (.int x0), .val (.int x1), .val (.int x2), .val (.int x3), .val (.int x4), .val (.long x5), .second, .val (.int (0 : Int32)), .val (.int (1 : Int32)), .val (.long t17), .second, .val (.long t18), .second, .val (.long t19), .second, .val (.ref b20), .unset, .unset, .unset, .unset, .unset, .unset, .unset]) rfl ?_
      refine WP.aload (pc' := 73) at_71 rfl rfl rfl ?_
      refine WP.lload (pc' := 75) at_73 rfl rfl ?_
      refine WP.iloadN (pc' := 76) at_75 rfl rfl ?_
      refine WP.i2d (pc' := 77) at_76 rfl (v := FP.l2d x3.toInt64) (i2d_w _) ?_
      refine WP.lload (pc' := 79) at_77 rfl rfl ?_
      refine WP.iload (pc' := 81) at_79 rfl rfl ?_
      refine WP.i2d (pc' := 82) at_81 rfl (v := FP.l2d x4.toInt64) (i2d_w _) ?_
      refine WP.callV (a := b20) (K := "com/example/takt/takt/server/RateOptions") (argsL := [(.long t17), (.double (FP.l2d x3.toInt64)), (.long t19), (.double (FP.l2d x4.toInt64))]) (rest := []) (wd := 0) (cl' := 1) (sl' := 4) (pc' := 85) at_82 rfl (wd19 hw) (wd20 hw) (nfS (wd22 hw) rfl) (wd22 hw) (wd21 hw) (wd4 hw) (wd23 hw) (by decide) E28 (m_rate hw b20 t17 t19 h28 n0 (0 : Int32) x3.toInt64 x4.toInt64 x1.toInt64 x2.toInt64 t18 E28 Fcounter_28 FcounterMax_28 FresetValue_28 (i32 x3) (i32 x4) (i32 x1) (i32 x2) hkk.1 hkk.2 bfr bto hto) pd_1 rfl rfl rfl (Nat.le_of_eq rfl) (by decide) (by decide) rfl rfl (by decide) (by decide) ?_
      rintro v hh32 ⟨rfl, he32⟩
      rw [he32]
      refine WP.castS (st' := [(.double (rateR (0 : Int32) x3.toInt64 x4.toInt64 x1.toInt64 x2.toInt64 t18))]) rfl ?_
      refine WP.dstore (pc' := 87) at_85 rfl (Ls' := #[.val (.int x0), .val (.int x1), .val (.int x2), .val (.int x3), .val (.int x4), .val (.long x5), .second, .val (.int (0 : Int32)), .val (.int (1 : Int32)), .val (.long t17), .second, .val (.long t18), .second, .val (.long t19), .second, .val (.ref b20), .val (.double (rateR (0 : Int32) x3.toInt64 x4.toInt64 x1.toInt64 x2.toInt64 t18)), .second, .unset, .unset, .unset, .unset, .unset]) rfl ?_
      refine WP.iload (pc' := 89) at_87 rfl rfl ?_
      have hc89 : (0 : Int32) = (0 : Int32) := by decide
      refine WP.ifc_eq (pc1 := 102) (pc2 := 92) at_89 (by decide) (by decide) rfl (fun _ => ?_) (fun k => absurd hc89 k)
      refine WP.iconst (pc' := 103) at_102 rfl (z := 0) rfl ?_
      refine WP.istore (pc' := 105) at_103 rfl (Ls' := #[.val (.int x0), .val (.int x1), .val (.int x2), .val (.int x3), .val (.int x4), .val (.long x5), .second, .val (.int (0 : Int32)), .val (.int (1 : Int32)), .val (.long t17), .second, .val (.long t18), .second, .val (.long t19), .second, .val (.ref b20), .val (.double (rateR (0 : Int32) x3.toInt64 x4.toInt64 x1.toInt64 x2.toInt64 t18)), .second, .val (.int (0 : Int32)), .unset, .unset, .unset, .unset]) rfl ?_
      refine WP.iload (pc' := 107) at_105 rfl rfl ?_
      have hc107 : (0 : Int32) = (0 : Int32) := by decide
      refine WP.ifc_eq (pc1 := 126) (pc2 := 110) at_107 (by decide) (by decide) rfl (fun _ => ?_) (fun k => absurd hc107 k)
      refine WP.iload (pc' := 128) at_126 rfl rfl ?_
      refine WP.i2l (pc' := 129) at_128 rfl ?_
      refine WP.iloadN (pc' := 130) at_129 rfl rfl ?_
      refine WP.i2l (pc' := 131) at_130 rfl ?_
      refine WP.lsub (pc' := 132) at_131 rfl ?_
      refine WP.lstore (pc' := 134) at_132 rfl (Ls' := #[.val (.int x0), .val (.int x1), .val (.int x2), .val (.int x3), .val (.int x4), .val (.long x5), .second, .val (.int (0 : Int32)), .val (.int (1 : Int32)), .val (.long t17), .second, .val (.long t18), .second, .val (.long t19), .second, .val (.ref b20), .val (.double (rateR (0 : Int32) x3.toInt64 x4.toInt64 x1.toInt64 x2.toInt64 t18)), .second, .val (.int (0 : Int32)), .val (.long ((x4.toInt64) - (x3.toInt64))), .second, .unset, .unset]) rfl ?_
      refine WP.iload (pc' := 136) at_134 rfl rfl ?_
      have hc136 : (0 : Int32) = (0 : Int32) := by decide
      refine WP.ifc_eq (pc1 := 160) (pc2 := 139) at_136 (by decide) (by decide) rfl (fun _ => ?_) (fun k => absurd hc136 k)
      refine WP.lload (pc' := 162) at_160 rfl rfl ?_
      refine WP.l2d (pc' := 163) at_162 rfl (v := FP.l2d ((x4.toInt64) - (x3.toInt64))) rfl ?_
      refine WP.lload (pc' := 165) at_163 rfl rfl ?_
      refine WP.l2d (pc' := 166) at_165 rfl (v := FP.l2d t18) rfl ?_
      refine WP.ddiv (pc' := 167) at_166 rfl (v := (FP.ddiv (FP.l2d ((x4.toInt64) - (x3.toInt64))) (FP.l2d t18))) (nn_div hkk.1) rfl ?_
      refine WP.dstore (pc' := 169) at_167 rfl (Ls' := #[.val (.int x0), .val (.int x1), .val (.int x2), .val (.int x3), .val (.int x4), .val (.long x5), .second, .val (.int (0 : Int32)), .val (.int (1 : Int32)), .val (.long t17), .second, .val (.long t18), .second, .val (.long t19), .second, .val (.ref b20), .val (.double (rateR (0 : Int32) x3.toInt64 x4.toInt64 x1.toInt64 x2.toInt64 t18)), .second, .val (.int (0 : Int32)), .val (.long ((x4.toInt64) - (x3.toInt64))), .second, .val (.double (FP.ddiv (FP.l2d ((x4.toInt64) - (x3.toInt64))) (FP.l2d t18))), .second]) rfl ?_
      refine WP.dload (pc' := 171) at_169 rfl rfl ?_
      refine WP.dload (pc' := 173) at_171 rfl rfl ?_
      have hg : (rateR (0 : Int32) x3.toInt64 x4.toInt64 x1.toInt64 x2.toInt64 t18) = (FP.ddiv (FP.l2d ((x4.toInt64) - (x3.toInt64))) (FP.l2d t18)) := rate_0 (fun z => z.1 rfl)
      refine WP.dcmp (pc' := 174) at_173 rfl (v := (0 : Int32)) (dcmpV_eq hg (by rw [hg]; exact nn_div hkk.1) .l) ?_
      have hc174 : (0 : Int32) = (0 : Int32) := by decide
      refine WP.ifc_ne (pc1 := 181) (pc2 := 177) at_174 (by decide) (by decide) rfl (fun k => absurd hc174 k) (fun _ => ?_)
      refine WP.iconst (pc' := 178) at_177 rfl (z := 1) rfl ?_
      refine WP.goto (pc' := 182) at_178 (by decide) (by decide) ?_
      refine WP.nret (t := .boolean) at_182 rfl (by simp) rfl (by decide) (by decide) rfl
  · intro hc3
    refine WP.iconst (pc' := 7) at_6 rfl (z := 1) rfl ?_
    refine WP.goto (pc' := 11) at_7 (by decide) (by decide) ?_
    refine WP.istore (pc' := 13) at_11 rfl (Ls' := #[.val (.int x0), .val (.int x1), .val (.int x2), .val (.int x3), .val (.int x4), .val (.long x5), .second, .val (.int (1 : Int32)), .unset, .unset, .unset, .unset, .unset, .unset, .unset, .unset, .unset, .unset, .unset, .unset, .unset, .unset, .unset]) rfl ?_
    refine WP.iloadN (pc' := 14) at_13 rfl rfl ?_
    refine WP.iconst (pc' := 15) at_14 rfl (z := 2) rfl ?_
    refine WP.iand (pc' := 16) at_15 rfl ?_
    refine WP.ifc_eq (pc1 := 23) (pc2 := 19) at_16 (by decide) (by decide) rfl ?_ ?_
    · intro hc16
      refine WP.iconst (pc' := 24) at_23 rfl (z := 0) rfl ?_
      refine WP.istore (pc' := 26) at_24 rfl (Ls' := #[.val (.int x0), .val (.int x1), .val (.int x2), .val (.int x3), .val (.int x4), .val (.long x5), .second, .val (.int (1 : Int32)), .val (.int (0 : Int32)), .unset, .unset, .unset, .unset, .unset, .unset, .unset, .unset, .unset, .unset, .unset, .unset, .unset, .unset]) rfl ?_
      refine WP.lload (pc' := 28) at_26 rfl rfl ?_
      refine WP.bipush (pc' := 30) at_28 rfl (z := 22) rfl ?_
      refine WP.lshr (pc' := 31) at_30 rfl ?_
      generalize ht33 : (x5 >>> ((22 : Int32) &&& 0x3f).toInt64) = t33
      refine WP.lstore (pc' := 33) at_31 rfl (Ls' := #[.val (.int x0), .val (.int x1), .val (.int x2), .val (.int x3), .val (.int x4), .val (.long x5), .second, .val (.int (1 : Int32)), .val (.int (0 : Int32)), .val (.long t33), .second, .unset, .unset, .unset, .unset, .unset, .unset, .unset, .unset, .unset, .unset, .unset, .unset]) rfl ?_
      refine WP.lload (pc' := 35) at_33 rfl rfl ?_
      refine WP.ldc2J (pc' := 38) at_35 rfl (wd0 hw) ?_
      refine WP.land (pc' := 39) at_38 rfl ?_
      refine WP.lconst (pc' := 40) at_39 rfl (z := 1) rfl ?_
      refine WP.ladd (pc' := 41) at_40 rfl ?_
      generalize ht34 : ((x5 &&& (1048575 : Int64)) + (1 : Int64)) = t34
      refine WP.lstore (pc' := 43) at_41 rfl (Ls' := #[.val (.int x0), .val (.int x1), .val (.int x2), .val (.int x3), .val (.int x4), .val (.long x5), .second, .val (.int (1 : Int32)), .val (.int (0 : Int32)), .val (.long t33), .second, .val (.long t34), .second, .unset, .unset, .unset, .unset, .unset, .unset, .unset, .unset, .unset, .unset]) rfl ?_
      refine WP.lload (pc' := 45) at_43 rfl rfl ?_
      refine WP.lload (pc' := 47) at_45 rfl rfl ?_
      refine WP.ldc2J (pc' := 50) at_47 rfl (wd1 hw) ?_
      refine WP.lmul (pc' := 51) at_50 rfl ?_
      refine WP.ladd (pc' := 52) at_51 rfl ?_
      generalize ht35 : (t33 + (t34 * (1000 : Int64))) = t35
      refine WP.lstore (pc' := 54) at_52 rfl (Ls' := #[.val (.int x0), .val (.int x1), .val (.int x2), .val (.int x3), .val (.int x4), .val (.long x5), .second, .val (.int (1 : Int32)), .val (.int (0 : Int32)), .val (.long t33), .second, .val (.long t34), .second, .val (.long t35), .second, .unset, .unset, .unset, .unset, .unset, .unset, .unset, .unset]) rfl ?_
      have hfr := frv x5
      rw [ht33] at hfr
      have hkk := kv x5
      rw [ht34] at hkk
      have hto := tov hfr hkk
      rw [ht35] at hto
      have bfr : B53 t33 := ⟨by omega, by omega⟩
      have bto : B53 t35 := ⟨by omega, by omega⟩
      refine WP.newO (cl' := 1) (sl' := 4) (pc' := 57) at_54 rfl (wd2 hw) (wd3 hw) (wd4 hw) rfl rfl (by decide) (by decide) ?_
      intro h36 b36 g36 E36 A36 D36
      have ge37 : n0 ≤ b36 := by rw [g36]; exact Z0
      have O38 := O0.ext E36
      have Z39 : n0 ≤ h36.size := Nat.le_trans Z0 E36.1
      have F40 : Fld Z h36 b36 "com/example/takt/takt/server/RateOptions" "counter" "Z" (.int (0 : Int32)) := D36 (Or.inr (wd12 hw)) (ty := .boolean) (by decide)
      have F41 : Fld Z h36 b36 "com/example/takt/takt/server/RateOptions" "counterMax" "D" (.double (0 : UInt64)) := D36 (Or.inr (wd14 hw)) (ty := .double) (by decide)
      have F42 : Fld Z h36 b36 "com/example/takt/takt/server/RateOptions" "resetValue" "D" (.double (0 : UInt64)) := D36 (Or.inr (wd16 hw)) (ty := .double) (by decide)
      have F43 : Fld Z h36 b36 "com/example/takt/takt/server/RateOptions" "dropResets" "Z" (.int (0 : Int32)) := D36 (Or.inr (wd18 hw)) (ty := .boolean) (by decide)
      refine WP.dup (pc' := 58) at_57 rfl rfl ?_
      refine WP.iload (pc' := 60) at_58 rfl rfl ?_
      refine WP.iloadN (pc' := 61) at_60 rfl rfl ?_
      refine WP.i2d (pc' := 62) at_61 rfl (v := FP.l2d x1.toInt64) (i2d_w _) ?_
      refine WP.iloadN (pc' := 63) at_62 rfl rfl ?_
      refine WP.i2d (pc' := 64) at_63 rfl (v := FP.l2d x2.toInt64) (i2d_w _) ?_
      refine WP.iload (pc' := 66) at_64 rfl rfl ?_
      refine WP.callI (a := b36) (argsL := [(.int (1 : Int32)), (.double (FP.l2d x1.toInt64)), (.double (FP.l2d x2.toInt64)), (.int (0 : Int32))]) (rest := [(.ref b36)]) (wd := 1) (cl' := 1) (sl' := 4) (pc' := 69) at_66 rfl rfl (wd5 hw) (wd6 hw) (wd4 hw) (wd7 hw) (by decide) (m_ini hw b36 (1 : Int32) (FP.l2d x1.toInt64) (FP.l2d x2.toInt64) (0 : Int32) h36 n0 ge37 A36 F40 F41 F42 F43 rfl rfl rfl rfl) pd_0 rfl rfl rfl (Nat.le_of_eq rfl) (by decide) (by decide) rfl rfl (by decide) (by decide) ?_
      rintro v h44 ⟨rfl, K44, E44, Fcounter_44, FcounterMax_44, FresetValue_44⟩
      have E45 := A36.keep K44
      have O46 := O38.keep K44 (allS ge37 all0)
      have Z47 : n0 ≤ h44.size := Nat.le_trans Z39 K44.1
      refine WP.castS (st' := [(.ref b36)]) rfl ?_
      refine WP.astore (pc' := 71) at_69 rfl rfl (Ls' := #[.val (.int x0), .val (.int x1), .val (.int x2), .val (.int x3), .val (.int x4), .val (.long x5), .second, .val (.int (1 : Int32)), .val (.int (0 : Int32)), .val (.long t33), .second, .val (.long t34), .second, .val (.long t35), .second, .val (.ref b36), .unset, .unset, .unset, .unset, .unset, .unset, .unset]) rfl ?_
      refine WP.aload (pc' := 73) at_71 rfl rfl rfl ?_
      refine WP.lload (pc' := 75) at_73 rfl rfl ?_
      refine WP.iloadN (pc' := 76) at_75 rfl rfl ?_
      refine WP.i2d (pc' := 77) at_76 rfl (v := FP.l2d x3.toInt64) (i2d_w _) ?_
      refine WP.lload (pc' := 79) at_77 rfl rfl ?_
      refine WP.iload (pc' := 81) at_79 rfl rfl ?_
      refine WP.i2d (pc' := 82) at_81 rfl (v := FP.l2d x4.toInt64) (i2d_w _) ?_
      refine WP.callV (a := b36) (K := "com/example/takt/takt/server/RateOptions") (argsL := [(.long t33), (.double (FP.l2d x3.toInt64)), (.long t35), (.double (FP.l2d x4.toInt64))]) (rest := []) (wd := 0) (cl' := 1) (sl' := 4) (pc' := 85) at_82 rfl (wd19 hw) (wd20 hw) (nfS (wd22 hw) rfl) (wd22 hw) (wd21 hw) (wd4 hw) (wd23 hw) (by decide) E44 (m_rate hw b36 t33 t35 h44 n0 (1 : Int32) x3.toInt64 x4.toInt64 x1.toInt64 x2.toInt64 t34 E44 Fcounter_44 FcounterMax_44 FresetValue_44 (i32 x3) (i32 x4) (i32 x1) (i32 x2) hkk.1 hkk.2 bfr bto hto) pd_1 rfl rfl rfl (Nat.le_of_eq rfl) (by decide) (by decide) rfl rfl (by decide) (by decide) ?_
      rintro v hh48 ⟨rfl, he48⟩
      rw [he48]
      refine WP.castS (st' := [(.double (rateR (1 : Int32) x3.toInt64 x4.toInt64 x1.toInt64 x2.toInt64 t34))]) rfl ?_
      refine WP.dstore (pc' := 87) at_85 rfl (Ls' := #[.val (.int x0), .val (.int x1), .val (.int x2), .val (.int x3), .val (.int x4), .val (.long x5), .second, .val (.int (1 : Int32)), .val (.int (0 : Int32)), .val (.long t33), .second, .val (.long t34), .second, .val (.long t35), .second, .val (.ref b36), .val (.double (rateR (1 : Int32) x3.toInt64 x4.toInt64 x1.toInt64 x2.toInt64 t34)), .second, .unset, .unset, .unset, .unset, .unset]) rfl ?_
      refine WP.iload (pc' := 89) at_87 rfl rfl ?_
      have hc89 : ¬ (1 : Int32) = (0 : Int32) := by decide
      refine WP.ifc_eq (pc1 := 102) (pc2 := 92) at_89 (by decide) (by decide) rfl (fun k => absurd k hc89) (fun _ => ?_)
      refine WP.iload (pc' := 94) at_92 rfl rfl ?_
      refine WP.iloadN (pc' := 95) at_94 rfl rfl ?_
      refine WP.icmp_ge (pc1 := 102) (pc2 := 98) at_95 (by decide) (by decide) rfl ?_ ?_
      · intro hc95
        refine WP.iconst (pc' := 103) at_102 rfl (z := 0) rfl ?_
        refine WP.istore (pc' := 105) at_103 rfl (Ls' := #[.val (.int x0), .val (.int x1), .val (.int x2), .val (.int x3), .val (.int x4), .val (.long x5), .second, .val (.int (1 : Int32)), .val (.int (0 : Int32)), .val (.long t33), .second, .val (.long t34), .second, .val (.long t35), .second, .val (.ref b36), .val (.double (rateR (1 : Int32) x3.toInt64 x4.toInt64 x1.toInt64 x2.toInt64 t34)), .second, .val (.int (0 : Int32)), .unset, .unset, .unset, .unset]) rfl ?_
        refine WP.iload (pc' := 107) at_105 rfl rfl ?_
        have hc107 : (0 : Int32) = (0 : Int32) := by decide
        refine WP.ifc_eq (pc1 := 126) (pc2 := 110) at_107 (by decide) (by decide) rfl (fun _ => ?_) (fun k => absurd hc107 k)
        refine WP.iload (pc' := 128) at_126 rfl rfl ?_
        refine WP.i2l (pc' := 129) at_128 rfl ?_
        refine WP.iloadN (pc' := 130) at_129 rfl rfl ?_
        refine WP.i2l (pc' := 131) at_130 rfl ?_
        refine WP.lsub (pc' := 132) at_131 rfl ?_
        refine WP.lstore (pc' := 134) at_132 rfl (Ls' := #[.val (.int x0), .val (.int x1), .val (.int x2), .val (.int x3), .val (.int x4), .val (.long x5), .second, .val (.int (1 : Int32)), .val (.int (0 : Int32)), .val (.long t33), .second, .val (.long t34), .second, .val (.long t35), .second, .val (.ref b36), .val (.double (rateR (1 : Int32) x3.toInt64 x4.toInt64 x1.toInt64 x2.toInt64 t34)), .second, .val (.int (0 : Int32)), .val (.long ((x4.toInt64) - (x3.toInt64))), .second, .unset, .unset]) rfl ?_
        refine WP.iload (pc' := 136) at_134 rfl rfl ?_
        have hc136 : (0 : Int32) = (0 : Int32) := by decide
        refine WP.ifc_eq (pc1 := 160) (pc2 := 139) at_136 (by decide) (by decide) rfl (fun _ => ?_) (fun k => absurd hc136 k)
        refine WP.lload (pc' := 162) at_160 rfl rfl ?_
        refine WP.l2d (pc' := 163) at_162 rfl (v := FP.l2d ((x4.toInt64) - (x3.toInt64))) rfl ?_
        refine WP.lload (pc' := 165) at_163 rfl rfl ?_
        refine WP.l2d (pc' := 166) at_165 rfl (v := FP.l2d t34) rfl ?_
        refine WP.ddiv (pc' := 167) at_166 rfl (v := (FP.ddiv (FP.l2d ((x4.toInt64) - (x3.toInt64))) (FP.l2d t34))) (nn_div hkk.1) rfl ?_
        refine WP.dstore (pc' := 169) at_167 rfl (Ls' := #[.val (.int x0), .val (.int x1), .val (.int x2), .val (.int x3), .val (.int x4), .val (.long x5), .second, .val (.int (1 : Int32)), .val (.int (0 : Int32)), .val (.long t33), .second, .val (.long t34), .second, .val (.long t35), .second, .val (.ref b36), .val (.double (rateR (1 : Int32) x3.toInt64 x4.toInt64 x1.toInt64 x2.toInt64 t34)), .second, .val (.int (0 : Int32)), .val (.long ((x4.toInt64) - (x3.toInt64))), .second, .val (.double (FP.ddiv (FP.l2d ((x4.toInt64) - (x3.toInt64))) (FP.l2d t34))), .second]) rfl ?_
        refine WP.dload (pc' := 171) at_169 rfl rfl ?_
        refine WP.dload (pc' := 173) at_171 rfl rfl ?_
        have hg : (rateR (1 : Int32) x3.toInt64 x4.toInt64 x1.toInt64 x2.toInt64 t34) = (FP.ddiv (FP.l2d ((x4.toInt64) - (x3.toInt64))) (FP.l2d t34)) := rate_0 (fun z => hc95 (lt64.mp z.2))
        refine WP.dcmp (pc' := 174) at_173 rfl (v := (0 : Int32)) (dcmpV_eq hg (by rw [hg]; exact nn_div hkk.1) .l) ?_
        have hc174 : (0 : Int32) = (0 : Int32) := by decide
        refine WP.ifc_ne (pc1 := 181) (pc2 := 177) at_174 (by decide) (by decide) rfl (fun k => absurd hc174 k) (fun _ => ?_)
        refine WP.iconst (pc' := 178) at_177 rfl (z := 1) rfl ?_
        refine WP.goto (pc' := 182) at_178 (by decide) (by decide) ?_
        refine WP.nret (t := .boolean) at_182 rfl (by simp) rfl (by decide) (by decide) rfl
      · intro hc95
        refine WP.iconst (pc' := 99) at_98 rfl (z := 1) rfl ?_
        refine WP.goto (pc' := 103) at_99 (by decide) (by decide) ?_
        refine WP.istore (pc' := 105) at_103 rfl (Ls' := #[.val (.int x0), .val (.int x1), .val (.int x2), .val (.int x3), .val (.int x4), .val (.long x5), .second, .val (.int (1 : Int32)), .val (.int (0 : Int32)), .val (.long t33), .second, .val (.long t34), .second, .val (.long t35), .second, .val (.ref b36), .val (.double (rateR (1 : Int32) x3.toInt64 x4.toInt64 x1.toInt64 x2.toInt64 t34)), .second, .val (.int (1 : Int32)), .unset, .unset, .unset, .unset]) rfl ?_
        refine WP.iload (pc' := 107) at_105 rfl rfl ?_
        have hc107 : ¬ (1 : Int32) = (0 : Int32) := by decide
        refine WP.ifc_eq (pc1 := 126) (pc2 := 110) at_107 (by decide) (by decide) rfl (fun k => absurd k hc107) (fun _ => ?_)
        refine WP.iloadN (pc' := 111) at_110 rfl rfl ?_
        refine WP.i2l (pc' := 112) at_111 rfl ?_
        refine WP.iloadN (pc' := 113) at_112 rfl rfl ?_
        refine WP.i2l (pc' := 114) at_113 rfl ?_
        refine WP.lsub (pc' := 115) at_114 rfl ?_
        refine WP.lconst (pc' := 116) at_115 rfl (z := 1) rfl ?_
        refine WP.ladd (pc' := 117) at_116 rfl ?_
        refine WP.iload (pc' := 119) at_117 rfl rfl ?_
        refine WP.i2l (pc' := 120) at_119 rfl ?_
        refine WP.ladd (pc' := 121) at_120 rfl ?_
        refine WP.lstore (pc' := 123) at_121 rfl (Ls' := #[.val (.int x0), .val (.int x1), .val (.int x2), .val (.int x3), .val (.int x4), .val (.long x5), .second, .val (.int (1 : Int32)), .val (.int (0 : Int32)), .val (.long t33), .second, .val (.long t34), .second, .val (.long t35), .second, .val (.ref b36), .val (.double (rateR (1 : Int32) x3.toInt64 x4.toInt64 x1.toInt64 x2.toInt64 t34)), .second, .val (.int (1 : Int32)), .val (.long ((((x1.toInt64) - (x3.toInt64)) + (1 : Int64)) + (x4.toInt64))), .second, .unset, .unset]) rfl ?_
        refine WP.goto (pc' := 134) at_123 (by decide) (by decide) ?_
        refine WP.iload (pc' := 136) at_134 rfl rfl ?_
        have hc136 : ¬ (1 : Int32) = (0 : Int32) := by decide
        refine WP.ifc_eq (pc1 := 160) (pc2 := 139) at_136 (by decide) (by decide) rfl (fun k => absurd k hc136) (fun _ => ?_)
        refine WP.iloadN (pc' := 140) at_139 rfl rfl ?_
        refine WP.ifc_le (pc1 := 160) (pc2 := 143) at_140 (by decide) (by decide) rfl ?_ ?_
        · intro hc140
          refine WP.lload (pc' := 162) at_160 rfl rfl ?_
          refine WP.l2d (pc' := 163) at_162 rfl (v := FP.l2d ((((x1.toInt64) - (x3.toInt64)) + (1 : Int64)) + (x4.toInt64))) rfl ?_
          refine WP.lload (pc' := 165) at_163 rfl rfl ?_
          refine WP.l2d (pc' := 166) at_165 rfl (v := FP.l2d t34) rfl ?_
          refine WP.ddiv (pc' := 167) at_166 rfl (v := (FP.ddiv (FP.l2d ((((x1.toInt64) - (x3.toInt64)) + (1 : Int64)) + (x4.toInt64))) (FP.l2d t34))) (nn_div hkk.1) rfl ?_
          refine WP.dstore (pc' := 169) at_167 rfl (Ls' := #[.val (.int x0), .val (.int x1), .val (.int x2), .val (.int x3), .val (.int x4), .val (.long x5), .second, .val (.int (1 : Int32)), .val (.int (0 : Int32)), .val (.long t33), .second, .val (.long t34), .second, .val (.long t35), .second, .val (.ref b36), .val (.double (rateR (1 : Int32) x3.toInt64 x4.toInt64 x1.toInt64 x2.toInt64 t34)), .second, .val (.int (1 : Int32)), .val (.long ((((x1.toInt64) - (x3.toInt64)) + (1 : Int64)) + (x4.toInt64))), .second, .val (.double (FP.ddiv (FP.l2d ((((x1.toInt64) - (x3.toInt64)) + (1 : Int64)) + (x4.toInt64))) (FP.l2d t34))), .second]) rfl ?_
          refine WP.dload (pc' := 171) at_169 rfl rfl ?_
          refine WP.dload (pc' := 173) at_171 rfl rfl ?_
          have hg : (rateR (1 : Int32) x3.toInt64 x4.toInt64 x1.toInt64 x2.toInt64 t34) = (FP.ddiv (FP.l2d ((((x1.toInt64) - (x3.toInt64)) + (1 : Int64)) + (x4.toInt64))) (FP.l2d t34)) := rate_1 ⟨by decide, lt64.mpr hc95⟩ (fun z => hc140 (gt0.mp z.1))
          refine WP.dcmp (pc' := 174) at_173 rfl (v := (0 : Int32)) (dcmpV_eq hg (by rw [hg]; exact nn_div hkk.1) .l) ?_
          have hc174 : (0 : Int32) = (0 : Int32) := by decide
          refine WP.ifc_ne (pc1 := 181) (pc2 := 177) at_174 (by decide) (by decide) rfl (fun k => absurd hc174 k) (fun _ => ?_)
          refine WP.iconst (pc' := 178) at_177 rfl (z := 1) rfl ?_
          refine WP.goto (pc' := 182) at_178 (by decide) (by decide) ?_
          refine WP.nret (t := .boolean) at_182 rfl (by simp) rfl (by decide) (by decide) rfl
        · intro hc140
          refine WP.lload (pc' := 145) at_143 rfl rfl ?_
          refine WP.iloadN (pc' := 146) at_145 rfl rfl ?_
          refine WP.i2l (pc' := 147) at_146 rfl ?_
          refine WP.lload (pc' := 149) at_147 rfl rfl ?_
          refine WP.lmul (pc' := 150) at_149 rfl ?_
          refine WP.lcmp_le (pc' := 151) (pc1 := 160) (pc2 := 154) at_150 rfl at_151 (by decide) (by decide) rfl ?_ ?_
          · intro hc150
            refine WP.lload (pc' := 162) at_160 rfl rfl ?_
            refine WP.l2d (pc' := 163) at_162 rfl (v := FP.l2d ((((x1.toInt64) - (x3.toInt64)) + (1 : Int64)) + (x4.toInt64))) rfl ?_
            refine WP.lload (pc' := 165) at_163 rfl rfl ?_
            refine WP.l2d (pc' := 166) at_165 rfl (v := FP.l2d t34) rfl ?_
            refine WP.ddiv (pc' := 167) at_166 rfl (v := (FP.ddiv (FP.l2d ((((x1.toInt64) - (x3.toInt64)) + (1 : Int64)) + (x4.toInt64))) (FP.l2d t34))) (nn_div hkk.1) rfl ?_
            refine WP.dstore (pc' := 169) at_167 rfl (Ls' := #[.val (.int x0), .val (.int x1), .val (.int x2), .val (.int x3), .val (.int x4), .val (.long x5), .second, .val (.int (1 : Int32)), .val (.int (0 : Int32)), .val (.long t33), .second, .val (.long t34), .second, .val (.long t35), .second, .val (.ref b36), .val (.double (rateR (1 : Int32) x3.toInt64 x4.toInt64 x1.toInt64 x2.toInt64 t34)), .second, .val (.int (1 : Int32)), .val (.long ((((x1.toInt64) - (x3.toInt64)) + (1 : Int64)) + (x4.toInt64))), .second, .val (.double (FP.ddiv (FP.l2d ((((x1.toInt64) - (x3.toInt64)) + (1 : Int64)) + (x4.toInt64))) (FP.l2d t34))), .second]) rfl ?_
            refine WP.dload (pc' := 171) at_169 rfl rfl ?_
            refine WP.dload (pc' := 173) at_171 rfl rfl ?_
            have hg : (rateR (1 : Int32) x3.toInt64 x4.toInt64 x1.toInt64 x2.toInt64 t34) = (FP.ddiv (FP.l2d ((((x1.toInt64) - (x3.toInt64)) + (1 : Int64)) + (x4.toInt64))) (FP.l2d t34)) := rate_1 ⟨by decide, lt64.mpr hc95⟩ (fun z => hc150 ((mul_lt (i32 x2) hkk.1 hkk.2).mpr z.2))
            refine WP.dcmp (pc' := 174) at_173 rfl (v := (0 : Int32)) (dcmpV_eq hg (by rw [hg]; exact nn_div hkk.1) .l) ?_
            have hc174 : (0 : Int32) = (0 : Int32) := by decide
            refine WP.ifc_ne (pc1 := 181) (pc2 := 177) at_174 (by decide) (by decide) rfl (fun k => absurd hc174 k) (fun _ => ?_)
            refine WP.iconst (pc' := 178) at_177 rfl (z := 1) rfl ?_
            refine WP.goto (pc' := 182) at_178 (by decide) (by decide) ?_
            refine WP.nret (t := .boolean) at_182 rfl (by simp) rfl (by decide) (by decide) rfl
          · intro hc150
            refine WP.dconst0 (pc' := 155) at_154 rfl (v := FP.dconst0) rfl ?_
            refine WP.dstore (pc' := 157) at_155 rfl (Ls' := #[.val (.int x0), .val (.int x1), .val (.int x2), .val (.int x3), .val (.int x4), .val (.long x5), .second, .val (.int (1 : Int32)), .val (.int (0 : Int32)), .val (.long t33), .second, .val (.long t34), .second, .val (.long t35), .second, .val (.ref b36), .val (.double (rateR (1 : Int32) x3.toInt64 x4.toInt64 x1.toInt64 x2.toInt64 t34)), .second, .val (.int (1 : Int32)), .val (.long ((((x1.toInt64) - (x3.toInt64)) + (1 : Int64)) + (x4.toInt64))), .second, .val (.double FP.dconst0), .second]) rfl ?_
            refine WP.goto (pc' := 169) at_157 (by decide) (by decide) ?_
            refine WP.dload (pc' := 171) at_169 rfl rfl ?_
            refine WP.dload (pc' := 173) at_171 rfl rfl ?_
            have hg : (rateR (1 : Int32) x3.toInt64 x4.toInt64 x1.toInt64 x2.toInt64 t34) = FP.dconst0 := rate_2 ⟨by decide, lt64.mpr hc95⟩ ⟨gt0.mpr hc140, (mul_lt (i32 x2) hkk.1 hkk.2).mp hc150⟩
            refine WP.dcmp (pc' := 174) at_173 rfl (v := (0 : Int32)) (dcmpV_eq hg (by rw [hg]; exact nn_w dc0) .l) ?_
            have hc174 : (0 : Int32) = (0 : Int32) := by decide
            refine WP.ifc_ne (pc1 := 181) (pc2 := 177) at_174 (by decide) (by decide) rfl (fun k => absurd hc174 k) (fun _ => ?_)
            refine WP.iconst (pc' := 178) at_177 rfl (z := 1) rfl ?_
            refine WP.goto (pc' := 182) at_178 (by decide) (by decide) ?_
            refine WP.nret (t := .boolean) at_182 rfl (by simp) rfl (by decide) (by decide) rfl
    · intro hc16
      refine WP.iconst (pc' := 20) at_19 rfl (z := 1) rfl ?_
      refine WP.goto (pc' := 24) at_20 (by decide) (by decide) ?_
      refine WP.istore (pc' := 26) at_24 rfl (Ls' := #[.val (.int x0), .val (.int x1), .val (.int x2), .val (.int x3), .val (.int x4), .val (.long x5), .second, .val (.int (1 : Int32)), .val (.int (1 : Int32)), .unset, .unset, .unset, .unset, .unset, .unset, .unset, .unset, .unset, .unset, .unset, .unset, .unset, .unset]) rfl ?_
      refine WP.lload (pc' := 28) at_26 rfl rfl ?_
      refine WP.bipush (pc' := 30) at_28 rfl (z := 22) rfl ?_
      refine WP.lshr (pc' := 31) at_30 rfl ?_
      generalize ht49 : (x5 >>> ((22 : Int32) &&& 0x3f).toInt64) = t49
      refine WP.lstore (pc' := 33) at_31 rfl (Ls' := #[.val (.int x0), .val (.int x1), .val (.int x2), .val (.int x3), .val (.int x4), .val (.long x5), .second, .val (.int (1 : Int32)), .val (.int (1 : Int32)), .val (.long t49), .second, .unset, .unset, .unset, .unset, .unset, .unset, .unset, .unset, .unset, .unset, .unset, .unset]) rfl ?_
      refine WP.lload (pc' := 35) at_33 rfl rfl ?_
      refine WP.ldc2J (pc' := 38) at_35 rfl (wd0 hw) ?_
      refine WP.land (pc' := 39) at_38 rfl ?_
      refine WP.lconst (pc' := 40) at_39 rfl (z := 1) rfl ?_
      refine WP.ladd (pc' := 41) at_40 rfl ?_
      generalize ht50 : ((x5 &&& (1048575 : Int64)) + (1 : Int64)) = t50
      refine WP.lstore (pc' := 43) at_41 rfl (Ls' := #[.val (.int x0), .val (.int x1), .val (.int x2), .val (.int x3), .val (.int x4), .val (.long x5), .second, .val (.int (1 : Int32)), .val (.int (1 : Int32)), .val (.long t49), .second, .val (.long t50), .second, .unset, .unset, .unset, .unset, .unset, .unset, .unset, .unset, .unset, .unset]) rfl ?_
      refine WP.lload (pc' := 45) at_43 rfl rfl ?_
      refine WP.lload (pc' := 47) at_45 rfl rfl ?_
      refine WP.ldc2J (pc' := 50) at_47 rfl (wd1 hw) ?_
      refine WP.lmul (pc' := 51) at_50 rfl ?_
      refine WP.ladd (pc' := 52) at_51 rfl ?_
      generalize ht51 : (t49 + (t50 * (1000 : Int64))) = t51
      refine WP.lstore (pc' := 54) at_52 rfl (Ls' := #[.val (.int x0), .val (.int x1), .val (.int x2), .val (.int x3), .val (.int x4), .val (.long x5), .second, .val (.int (1 : Int32)), .val (.int (1 : Int32)), .val (.long t49), .second, .val (.long t50), .second, .val (.long t51), .second, .unset, .unset, .unset, .unset, .unset, .unset, .unset, .unset]) rfl ?_
      have hfr := frv x5
      rw [ht49] at hfr
      have hkk := kv x5
      rw [ht50] at hkk
      have hto := tov hfr hkk
      rw [ht51] at hto
      have bfr : B53 t49 := ⟨by omega, by omega⟩
      have bto : B53 t51 := ⟨by omega, by omega⟩
      refine WP.newO (cl' := 1) (sl' := 4) (pc' := 57) at_54 rfl (wd2 hw) (wd3 hw) (wd4 hw) rfl rfl (by decide) (by decide) ?_
      intro h52 b52 g52 E52 A52 D52
      have ge53 : n0 ≤ b52 := by rw [g52]; exact Z0
      have O54 := O0.ext E52
      have Z55 : n0 ≤ h52.size := Nat.le_trans Z0 E52.1
      have F56 : Fld Z h52 b52 "com/example/takt/takt/server/RateOptions" "counter" "Z" (.int (0 : Int32)) := D52 (Or.inr (wd12 hw)) (ty := .boolean) (by decide)
      have F57 : Fld Z h52 b52 "com/example/takt/takt/server/RateOptions" "counterMax" "D" (.double (0 : UInt64)) := D52 (Or.inr (wd14 hw)) (ty := .double) (by decide)
      have F58 : Fld Z h52 b52 "com/example/takt/takt/server/RateOptions" "resetValue" "D" (.double (0 : UInt64)) := D52 (Or.inr (wd16 hw)) (ty := .double) (by decide)
      have F59 : Fld Z h52 b52 "com/example/takt/takt/server/RateOptions" "dropResets" "Z" (.int (0 : Int32)) := D52 (Or.inr (wd18 hw)) (ty := .boolean) (by decide)
      refine WP.dup (pc' := 58) at_57 rfl rfl ?_
      refine WP.iload (pc' := 60) at_58 rfl rfl ?_
      refine WP.iloadN (pc' := 61) at_60 rfl rfl ?_
      refine WP.i2d (pc' := 62) at_61 rfl (v := FP.l2d x1.toInt64) (i2d_w _) ?_
      refine WP.iloadN (pc' := 63) at_62 rfl rfl ?_
      refine WP.i2d (pc' := 64) at_63 rfl (v := FP.l2d x2.toInt64) (i2d_w _) ?_
      refine WP.iload (pc' := 66) at_64 rfl rfl ?_
      refine WP.callI (a := b52) (argsL := [(.int (1 : Int32)), (.double (FP.l2d x1.toInt64)), (.double (FP.l2d x2.toInt64)), (.int (1 : Int32))]) (rest := [(.ref b52)]) (wd := 1) (cl' := 1) (sl' := 4) (pc' := 69) at_66 rfl rfl (wd5 hw) (wd6 hw) (wd4 hw) (wd7 hw) (by decide) (m_ini hw b52 (1 : Int32) (FP.l2d x1.toInt64) (FP.l2d x2.toInt64) (1 : Int32) h52 n0 ge53 A52 F56 F57 F58 F59 rfl rfl rfl rfl) pd_0 rfl rfl rfl (Nat.le_of_eq rfl) (by decide) (by decide) rfl rfl (by decide) (by decide) ?_
      rintro v h60 ⟨rfl, K60, E60, Fcounter_60, FcounterMax_60, FresetValue_60⟩
      have E61 := A52.keep K60
      have O62 := O54.keep K60 (allS ge53 all0)
      have Z63 : n0 ≤ h60.size := Nat.le_trans Z55 K60.1
      refine WP.castS (st' := [(.ref b52)]) rfl ?_
      refine WP.astore (pc' := 71) at_69 rfl rfl (Ls' := #[.val (.int x0), .val (.int x1), .val (.int x2), .val (.int x3), .val (.int x4), .val (.long x5), .second, .val (.int (1 : Int32)), .val (.int (1 : Int32)), .val (.long t49), .second, .val (.long t50), .second, .val (.long t51), .second, .val (.ref b52), .unset, .unset, .unset, .unset, .unset, .unset, .unset]) rfl ?_
      refine WP.aload (pc' := 73) at_71 rfl rfl rfl ?_
      refine WP.lload (pc' := 75) at_73 rfl rfl ?_
      refine WP.iloadN (pc' := 76) at_75 rfl rfl ?_
      refine WP.i2d (pc' := 77) at_76 rfl (v := FP.l2d x3.toInt64) (i2d_w _) ?_
      refine WP.lload (pc' := 79) at_77 rfl rfl ?_
      refine WP.iload (pc' := 81) at_79 rfl rfl ?_
      refine WP.i2d (pc' := 82) at_81 rfl (v := FP.l2d x4.toInt64) (i2d_w _) ?_
      refine WP.callV (a := b52) (K := "com/example/takt/takt/server/RateOptions") (argsL := [(.long t49), (.double (FP.l2d x3.toInt64)), (.long t51), (.double (FP.l2d x4.toInt64))]) (rest := []) (wd := 0) (cl' := 1) (sl' := 4) (pc' := 85) at_82 rfl (wd19 hw) (wd20 hw) (nfS (wd22 hw) rfl) (wd22 hw) (wd21 hw) (wd4 hw) (wd23 hw) (by decide) E60 (m_rate hw b52 t49 t51 h60 n0 (1 : Int32) x3.toInt64 x4.toInt64 x1.toInt64 x2.toInt64 t50 E60 Fcounter_60 FcounterMax_60 FresetValue_60 (i32 x3) (i32 x4) (i32 x1) (i32 x2) hkk.1 hkk.2 bfr bto hto) pd_1 rfl rfl rfl (Nat.le_of_eq rfl) (by decide) (by decide) rfl rfl (by decide) (by decide) ?_
      rintro v hh64 ⟨rfl, he64⟩
      rw [he64]
      refine WP.castS (st' := [(.double (rateR (1 : Int32) x3.toInt64 x4.toInt64 x1.toInt64 x2.toInt64 t50))]) rfl ?_
      refine WP.dstore (pc' := 87) at_85 rfl (Ls' := #[.val (.int x0), .val (.int x1), .val (.int x2), .val (.int x3), .val (.int x4), .val (.long x5), .second, .val (.int (1 : Int32)), .val (.int (1 : Int32)), .val (.long t49), .second, .val (.long t50), .second, .val (.long t51), .second, .val (.ref b52), .val (.double (rateR (1 : Int32) x3.toInt64 x4.toInt64 x1.toInt64 x2.toInt64 t50)), .second, .unset, .unset, .unset, .unset, .unset]) rfl ?_
      refine WP.iload (pc' := 89) at_87 rfl rfl ?_
      have hc89 : ¬ (1 : Int32) = (0 : Int32) := by decide
      refine WP.ifc_eq (pc1 := 102) (pc2 := 92) at_89 (by decide) (by decide) rfl (fun k => absurd k hc89) (fun _ => ?_)
      refine WP.iload (pc' := 94) at_92 rfl rfl ?_
      refine WP.iloadN (pc' := 95) at_94 rfl rfl ?_
      refine WP.icmp_ge (pc1 := 102) (pc2 := 98) at_95 (by decide) (by decide) rfl ?_ ?_
      · intro hc95
        refine WP.iconst (pc' := 103) at_102 rfl (z := 0) rfl ?_
        refine WP.istore (pc' := 105) at_103 rfl (Ls' := #[.val (.int x0), .val (.int x1), .val (.int x2), .val (.int x3), .val (.int x4), .val (.long x5), .second, .val (.int (1 : Int32)), .val (.int (1 : Int32)), .val (.long t49), .second, .val (.long t50), .second, .val (.long t51), .second, .val (.ref b52), .val (.double (rateR (1 : Int32) x3.toInt64 x4.toInt64 x1.toInt64 x2.toInt64 t50)), .second, .val (.int (0 : Int32)), .unset, .unset, .unset, .unset]) rfl ?_
        refine WP.iload (pc' := 107) at_105 rfl rfl ?_
        have hc107 : (0 : Int32) = (0 : Int32) := by decide
        refine WP.ifc_eq (pc1 := 126) (pc2 := 110) at_107 (by decide) (by decide) rfl (fun _ => ?_) (fun k => absurd hc107 k)
        refine WP.iload (pc' := 128) at_126 rfl rfl ?_
        refine WP.i2l (pc' := 129) at_128 rfl ?_
        refine WP.iloadN (pc' := 130) at_129 rfl rfl ?_
        refine WP.i2l (pc' := 131) at_130 rfl ?_
        refine WP.lsub (pc' := 132) at_131 rfl ?_
        refine WP.lstore (pc' := 134) at_132 rfl (Ls' := #[.val (.int x0), .val (.int x1), .val (.int x2), .val (.int x3), .val (.int x4), .val (.long x5), .second, .val (.int (1 : Int32)), .val (.int (1 : Int32)), .val (.long t49), .second, .val (.long t50), .second, .val (.long t51), .second, .val (.ref b52), .val (.double (rateR (1 : Int32) x3.toInt64 x4.toInt64 x1.toInt64 x2.toInt64 t50)), .second, .val (.int (0 : Int32)), .val (.long ((x4.toInt64) - (x3.toInt64))), .second, .unset, .unset]) rfl ?_
        refine WP.iload (pc' := 136) at_134 rfl rfl ?_
        have hc136 : (0 : Int32) = (0 : Int32) := by decide
        refine WP.ifc_eq (pc1 := 160) (pc2 := 139) at_136 (by decide) (by decide) rfl (fun _ => ?_) (fun k => absurd hc136 k)
        refine WP.lload (pc' := 162) at_160 rfl rfl ?_
        refine WP.l2d (pc' := 163) at_162 rfl (v := FP.l2d ((x4.toInt64) - (x3.toInt64))) rfl ?_
        refine WP.lload (pc' := 165) at_163 rfl rfl ?_
        refine WP.l2d (pc' := 166) at_165 rfl (v := FP.l2d t50) rfl ?_
        refine WP.ddiv (pc' := 167) at_166 rfl (v := (FP.ddiv (FP.l2d ((x4.toInt64) - (x3.toInt64))) (FP.l2d t50))) (nn_div hkk.1) rfl ?_
        refine WP.dstore (pc' := 169) at_167 rfl (Ls' := #[.val (.int x0), .val (.int x1), .val (.int x2), .val (.int x3), .val (.int x4), .val (.long x5), .second, .val (.int (1 : Int32)), .val (.int (1 : Int32)), .val (.long t49), .second, .val (.long t50), .second, .val (.long t51), .second, .val (.ref b52), .val (.double (rateR (1 : Int32) x3.toInt64 x4.toInt64 x1.toInt64 x2.toInt64 t50)), .second, .val (.int (0 : Int32)), .val (.long ((x4.toInt64) - (x3.toInt64))), .second, .val (.double (FP.ddiv (FP.l2d ((x4.toInt64) - (x3.toInt64))) (FP.l2d t50))), .second]) rfl ?_
        refine WP.dload (pc' := 171) at_169 rfl rfl ?_
        refine WP.dload (pc' := 173) at_171 rfl rfl ?_
        have hg : (rateR (1 : Int32) x3.toInt64 x4.toInt64 x1.toInt64 x2.toInt64 t50) = (FP.ddiv (FP.l2d ((x4.toInt64) - (x3.toInt64))) (FP.l2d t50)) := rate_0 (fun z => hc95 (lt64.mp z.2))
        refine WP.dcmp (pc' := 174) at_173 rfl (v := (0 : Int32)) (dcmpV_eq hg (by rw [hg]; exact nn_div hkk.1) .l) ?_
        have hc174 : (0 : Int32) = (0 : Int32) := by decide
        refine WP.ifc_ne (pc1 := 181) (pc2 := 177) at_174 (by decide) (by decide) rfl (fun k => absurd hc174 k) (fun _ => ?_)
        refine WP.iconst (pc' := 178) at_177 rfl (z := 1) rfl ?_
        refine WP.goto (pc' := 182) at_178 (by decide) (by decide) ?_
        refine WP.nret (t := .boolean) at_182 rfl (by simp) rfl (by decide) (by decide) rfl
      · intro hc95
        refine WP.iconst (pc' := 99) at_98 rfl (z := 1) rfl ?_
        refine WP.goto (pc' := 103) at_99 (by decide) (by decide) ?_
        refine WP.istore (pc' := 105) at_103 rfl (Ls' := #[.val (.int x0), .val (.int x1), .val (.int x2), .val (.int x3), .val (.int x4), .val (.long x5), .second, .val (.int (1 : Int32)), .val (.int (1 : Int32)), .val (.long t49), .second, .val (.long t50), .second, .val (.long t51), .second, .val (.ref b52), .val (.double (rateR (1 : Int32) x3.toInt64 x4.toInt64 x1.toInt64 x2.toInt64 t50)), .second, .val (.int (1 : Int32)), .unset, .unset, .unset, .unset]) rfl ?_
        refine WP.iload (pc' := 107) at_105 rfl rfl ?_
        have hc107 : ¬ (1 : Int32) = (0 : Int32) := by decide
        refine WP.ifc_eq (pc1 := 126) (pc2 := 110) at_107 (by decide) (by decide) rfl (fun k => absurd k hc107) (fun _ => ?_)
        refine WP.iloadN (pc' := 111) at_110 rfl rfl ?_
        refine WP.i2l (pc' := 112) at_111 rfl ?_
        refine WP.iloadN (pc' := 113) at_112 rfl rfl ?_
        refine WP.i2l (pc' := 114) at_113 rfl ?_
        refine WP.lsub (pc' := 115) at_114 rfl ?_
        refine WP.lconst (pc' := 116) at_115 rfl (z := 1) rfl ?_
        refine WP.ladd (pc' := 117) at_116 rfl ?_
        refine WP.iload (pc' := 119) at_117 rfl rfl ?_
        refine WP.i2l (pc' := 120) at_119 rfl ?_
        refine WP.ladd (pc' := 121) at_120 rfl ?_
        refine WP.lstore (pc' := 123) at_121 rfl (Ls' := #[.val (.int x0), .val (.int x1), .val (.int x2), .val (.int x3), .val (.int x4), .val (.long x5), .second, .val (.int (1 : Int32)), .val (.int (1 : Int32)), .val (.long t49), .second, .val (.long t50), .second, .val (.long t51), .second, .val (.ref b52), .val (.double (rateR (1 : Int32) x3.toInt64 x4.toInt64 x1.toInt64 x2.toInt64 t50)), .second, .val (.int (1 : Int32)), .val (.long ((((x1.toInt64) - (x3.toInt64)) + (1 : Int64)) + (x4.toInt64))), .second, .unset, .unset]) rfl ?_
        refine WP.goto (pc' := 134) at_123 (by decide) (by decide) ?_
        refine WP.iload (pc' := 136) at_134 rfl rfl ?_
        have hc136 : ¬ (1 : Int32) = (0 : Int32) := by decide
        refine WP.ifc_eq (pc1 := 160) (pc2 := 139) at_136 (by decide) (by decide) rfl (fun k => absurd k hc136) (fun _ => ?_)
        refine WP.iloadN (pc' := 140) at_139 rfl rfl ?_
        refine WP.ifc_le (pc1 := 160) (pc2 := 143) at_140 (by decide) (by decide) rfl ?_ ?_
        · intro hc140
          refine WP.lload (pc' := 162) at_160 rfl rfl ?_
          refine WP.l2d (pc' := 163) at_162 rfl (v := FP.l2d ((((x1.toInt64) - (x3.toInt64)) + (1 : Int64)) + (x4.toInt64))) rfl ?_
          refine WP.lload (pc' := 165) at_163 rfl rfl ?_
          refine WP.l2d (pc' := 166) at_165 rfl (v := FP.l2d t50) rfl ?_
          refine WP.ddiv (pc' := 167) at_166 rfl (v := (FP.ddiv (FP.l2d ((((x1.toInt64) - (x3.toInt64)) + (1 : Int64)) + (x4.toInt64))) (FP.l2d t50))) (nn_div hkk.1) rfl ?_
          refine WP.dstore (pc' := 169) at_167 rfl (Ls' := #[.val (.int x0), .val (.int x1), .val (.int x2), .val (.int x3), .val (.int x4), .val (.long x5), .second, .val (.int (1 : Int32)), .val (.int (1 : Int32)), .val (.long t49), .second, .val (.long t50), .second, .val (.long t51), .second, .val (.ref b52), .val (.double (rateR (1 : Int32) x3.toInt64 x4.toInt64 x1.toInt64 x2.toInt64 t50)), .second, .val (.int (1 : Int32)), .val (.long ((((x1.toInt64) - (x3.toInt64)) + (1 : Int64)) + (x4.toInt64))), .second, .val (.double (FP.ddiv (FP.l2d ((((x1.toInt64) - (x3.toInt64)) + (1 : Int64)) + (x4.toInt64))) (FP.l2d t50))), .second]) rfl ?_
          refine WP.dload (pc' := 171) at_169 rfl rfl ?_
          refine WP.dload (pc' := 173) at_171 rfl rfl ?_
          have hg : (rateR (1 : Int32) x3.toInt64 x4.toInt64 x1.toInt64 x2.toInt64 t50) = (FP.ddiv (FP.l2d ((((x1.toInt64) - (x3.toInt64)) + (1 : Int64)) + (x4.toInt64))) (FP.l2d t50)) := rate_1 ⟨by decide, lt64.mpr hc95⟩ (fun z => hc140 (gt0.mp z.1))
          refine WP.dcmp (pc' := 174) at_173 rfl (v := (0 : Int32)) (dcmpV_eq hg (by rw [hg]; exact nn_div hkk.1) .l) ?_
          have hc174 : (0 : Int32) = (0 : Int32) := by decide
          refine WP.ifc_ne (pc1 := 181) (pc2 := 177) at_174 (by decide) (by decide) rfl (fun k => absurd hc174 k) (fun _ => ?_)
          refine WP.iconst (pc' := 178) at_177 rfl (z := 1) rfl ?_
          refine WP.goto (pc' := 182) at_178 (by decide) (by decide) ?_
          refine WP.nret (t := .boolean) at_182 rfl (by simp) rfl (by decide) (by decide) rfl
        · intro hc140
          refine WP.lload (pc' := 145) at_143 rfl rfl ?_
          refine WP.iloadN (pc' := 146) at_145 rfl rfl ?_
          refine WP.i2l (pc' := 147) at_146 rfl ?_
          refine WP.lload (pc' := 149) at_147 rfl rfl ?_
          refine WP.lmul (pc' := 150) at_149 rfl ?_
          refine WP.lcmp_le (pc' := 151) (pc1 := 160) (pc2 := 154) at_150 rfl at_151 (by decide) (by decide) rfl ?_ ?_
          · intro hc150
            refine WP.lload (pc' := 162) at_160 rfl rfl ?_
            refine WP.l2d (pc' := 163) at_162 rfl (v := FP.l2d ((((x1.toInt64) - (x3.toInt64)) + (1 : Int64)) + (x4.toInt64))) rfl ?_
            refine WP.lload (pc' := 165) at_163 rfl rfl ?_
            refine WP.l2d (pc' := 166) at_165 rfl (v := FP.l2d t50) rfl ?_
            refine WP.ddiv (pc' := 167) at_166 rfl (v := (FP.ddiv (FP.l2d ((((x1.toInt64) - (x3.toInt64)) + (1 : Int64)) + (x4.toInt64))) (FP.l2d t50))) (nn_div hkk.1) rfl ?_
            refine WP.dstore (pc' := 169) at_167 rfl (Ls' := #[.val (.int x0), .val (.int x1), .val (.int x2), .val (.int x3), .val (.int x4), .val (.long x5), .second, .val (.int (1 : Int32)), .val (.int (1 : Int32)), .val (.long t49), .second, .val (.long t50), .second, .val (.long t51), .second, .val (.ref b52), .val (.double (rateR (1 : Int32) x3.toInt64 x4.toInt64 x1.toInt64 x2.toInt64 t50)), .second, .val (.int (1 : Int32)), .val (.long ((((x1.toInt64) - (x3.toInt64)) + (1 : Int64)) + (x4.toInt64))), .second, .val (.double (FP.ddiv (FP.l2d ((((x1.toInt64) - (x3.toInt64)) + (1 : Int64)) + (x4.toInt64))) (FP.l2d t50))), .second]) rfl ?_
            refine WP.dload (pc' := 171) at_169 rfl rfl ?_
            refine WP.dload (pc' := 173) at_171 rfl rfl ?_
            have hg : (rateR (1 : Int32) x3.toInt64 x4.toInt64 x1.toInt64 x2.toInt64 t50) = (FP.ddiv (FP.l2d ((((x1.toInt64) - (x3.toInt64)) + (1 : Int64)) + (x4.toInt64))) (FP.l2d t50)) := rate_1 ⟨by decide, lt64.mpr hc95⟩ (fun z => hc150 ((mul_lt (i32 x2) hkk.1 hkk.2).mpr z.2))
            refine WP.dcmp (pc' := 174) at_173 rfl (v := (0 : Int32)) (dcmpV_eq hg (by rw [hg]; exact nn_div hkk.1) .l) ?_
            have hc174 : (0 : Int32) = (0 : Int32) := by decide
            refine WP.ifc_ne (pc1 := 181) (pc2 := 177) at_174 (by decide) (by decide) rfl (fun k => absurd hc174 k) (fun _ => ?_)
            refine WP.iconst (pc' := 178) at_177 rfl (z := 1) rfl ?_
            refine WP.goto (pc' := 182) at_178 (by decide) (by decide) ?_
            refine WP.nret (t := .boolean) at_182 rfl (by simp) rfl (by decide) (by decide) rfl
          · intro hc150
            refine WP.dconst0 (pc' := 155) at_154 rfl (v := FP.dconst0) rfl ?_
            refine WP.dstore (pc' := 157) at_155 rfl (Ls' := #[.val (.int x0), .val (.int x1), .val (.int x2), .val (.int x3), .val (.int x4), .val (.long x5), .second, .val (.int (1 : Int32)), .val (.int (1 : Int32)), .val (.long t49), .second, .val (.long t50), .second, .val (.long t51), .second, .val (.ref b52), .val (.double (rateR (1 : Int32) x3.toInt64 x4.toInt64 x1.toInt64 x2.toInt64 t50)), .second, .val (.int (1 : Int32)), .val (.long ((((x1.toInt64) - (x3.toInt64)) + (1 : Int64)) + (x4.toInt64))), .second, .val (.double FP.dconst0), .second]) rfl ?_
            refine WP.goto (pc' := 169) at_157 (by decide) (by decide) ?_
            refine WP.dload (pc' := 171) at_169 rfl rfl ?_
            refine WP.dload (pc' := 173) at_171 rfl rfl ?_
            have hg : (rateR (1 : Int32) x3.toInt64 x4.toInt64 x1.toInt64 x2.toInt64 t50) = FP.dconst0 := rate_2 ⟨by decide, lt64.mpr hc95⟩ ⟨gt0.mpr hc140, (mul_lt (i32 x2) hkk.1 hkk.2).mp hc150⟩
            refine WP.dcmp (pc' := 174) at_173 rfl (v := (0 : Int32)) (dcmpV_eq hg (by rw [hg]; exact nn_w dc0) .l) ?_
            have hc174 : (0 : Int32) = (0 : Int32) := by decide
            refine WP.ifc_ne (pc1 := 181) (pc2 := 177) at_174 (by decide) (by decide) rfl (fun k => absurd hc174 k) (fun _ => ?_)
            refine WP.iconst (pc' := 178) at_177 rfl (z := 1) rfl ?_
            refine WP.goto (pc' := 182) at_178 (by decide) (by decide) ?_
            refine WP.nret (t := .boolean) at_182 rfl (by simp) rfl (by decide) (by decide) rfl
set_option maxRecDepth 65536 in
set_option maxHeartbeats 40000000 in
theorem comes_1 {Post : Tables → Env → Array Value → State → Outcome → State → Prop} (hpost : ∀ tb e args s v u, (limb_1_1.after args s (.returned v) u = true ∧ limb_1_2.after args s (.returned v) u = true ∧ True) → FrameEnd s (.returned v) u (Jvm.fieldLocs frame_1_writes args s ++ Jvm.arrayLocs frame_1_arrays args s ++ Jvm.staticLocs frame_1_statics s) 16 128 → Post tb e args s (.returned v) u) :
    ArmFor flags0 classFile x code maxLocals ret World_1 tables_1 room_1 Calls_1 rest_1 Pre_1 Post := by
  intro l hfl _ _ p e ha hc hk s m args below hf hA hF happ hP
  obtain ⟨hcalls, hrest, hpre⟩ := hP
  obtain ⟨-, -, -, hnamed, -, -, -, hat⟩ := (Spec.applies_iff hf).mp happ
  obtain ⟨hg, hn⟩ := and_e (Cond.before_iff.mp (show (Jvm.Cond.and given_1 narrow_1).before args s = true from hpre))
  obtain ⟨g1, g2⟩ := and_e hg
  obtain ⟨g3, g4⟩ := and_e g2
  obtain ⟨g5, g6⟩ := and_e g4
  obtain ⟨g7, g8⟩ := and_e g6
  obtain ⟨g9, g10⟩ := and_e g8
  obtain ⟨g11, g12⟩ := and_e g10
  obtain ⟨w0, w1, w2, w3, w4, w5, rfl⟩ : ∃ w0 w1 w2 w3 w4 w5 : Value, args = #[w0, w1, w2, w3, w4, w5] := by
    have hs : args.size = 6 := by simpa [Cond.value, given_1] using g1
    obtain ⟨L⟩ := args
    match L, hs with
    | [w0, w1, w2, w3, w4, w5], _ => exact ⟨w0, w1, w2, w3, w4, w5, rfl⟩
  have hw := fun d (hd : d ∈ tables_1) => atoms_spec (ws := Jvm.Cond.code x code maxLocals ret :: tables_1) hat d (List.mem_cons_of_mem _ hd)
  have hfit : Fit s := fun {y c} hc i hi => by
    obtain ⟨ha, rfl⟩ := Array.getElem?_eq_some_iff.mp hc
    have q := List.all_eq_true.mp ((Array.all_eq_true_iff_forall_mem.mp hF) _ (Array.getElem_mem ha)) i (List.mem_range.mpr hi)
    simpa [Array.getElem?_eq_getElem hi] using q
  obtain ⟨i0, ei0⟩ := is_v g3
  obtain rfl : w0 = (.int i0) := Option.some.inj ei0
  obtain ⟨i1, ei1⟩ := is_v g5
  obtain rfl : w1 = (.int i1) := Option.some.inj ei1
  obtain ⟨i2, ei2⟩ := is_v g7
  obtain rfl : w2 = (.int i2) := Option.some.inj ei2
  obtain ⟨i3, ei3⟩ := is_v g9
  obtain rfl : w3 = (.int i3) := Option.some.inj ei3
  obtain ⟨i4, ei4⟩ := is_v g11
  obtain rfl : w4 = (.int i4) := Option.some.inj ei4
  obtain ⟨i5, ei5⟩ := isL_v g12
  obtain rfl : w5 = (.long i5) := Option.some.inj ei5
  obtain ⟨n, o, h1, h2, h3, _, L, rfl, ⟨rfl, N⟩, hq⟩ := rm0 (Z := s) hw i0 i1 i2 i3 i4 i5 s.heap s.heap.size (Nat.le_refl _) (Old.start s) l tables_1 p e ha hc hk s m _ below hf ((Spec.applies_iff_loose hf).mp happ).1 ⟨rfl, State.Warmed39.refl s, rfl⟩ trivial
  refine ⟨n, _, h1, h2, h3, hpost _ _ _ _ _ _ ⟨Cond.after_iff.mpr rfl, Cond.after_iff.mpr (eq_i res_at (Term.int_eval (1)) rfl), trivial⟩ ⟨hq.1, hq.2.1, (hq.2.2.sift fun y hy => Or.inr (N y hy)).mono (by decide) (by decide)⟩⟩
theorem main_1_1 : Claimed_1_1 := comes_1 fun _ _ _ _ _ _ h hF => ⟨h.1, hF⟩
theorem main_1_2 : Claimed_1_2 := comes_1 fun _ _ _ _ _ _ h hF => ⟨h.2.1, hF⟩
end Jvm.Pilot.@@N@@
namespace Jvm.Pilot.@@N@@
open Jvm Jvm.ClassFile Sem Op Lib Jvm.Free Jvm.Stand Jvm.Pilot.@@N@@.Jvm.D
/-! MADE BY PROGRAM (witnessworld.py) out of the Statement's table words and the real class files: 9 classes; the members and pool entries that the words name. The judged class is class 1, her method 1. -/
namespace start1
open Jvm.ClassFile
def u (s : String) : CpInfo := .utf8 (stringToUtf16 s)
/-- a pool by its gaps: so many unusable entries, then the entry; so many at the end -/
def gap : Nat → List CpInfo → List CpInfo
  | 0, r => r
  | n + 1, r => .unusable :: gap n r
def poolList (es : List (Nat × CpInfo)) (last : Nat) : List CpInfo := es.foldr (fun e r => gap e.1 (e.2 :: r)) (gap last [])
def pool (es : List (Nat × CpInfo)) (last : Nat) : Array CpInfo := ⟨poolList es last⟩
def fileOf (pool : Array CpInfo) (this : Nat) (attrs : Array Attribute := #[]) (ms : Array MethodInfo := #[]) (fl : Nat := 33) (sup : Nat := 0) (ifs : Array Nat := #[]) (fds : Array FieldInfo := #[]) : ClassFile where
  minorVersion := 0
  majorVersion := 65
  constantPool := pool
  accessFlags := fl
  thisClass := this
  superClass := sup
  interfaces := ifs
  fields := fds
  methods := ms
  attributes := attrs
def plain (name : String) (sup : Option ClassId) : Class where
  name := name
  kind := .ordinary
  loader := none
  accessFlags := 33
  super := sup
  interfaces := #[]
  cf := none
  fields := #[]
  methods := #[]
  instanceTypes := #[]
  staticTypes := #[]
  resolved := #[]
  callSites := []
  init := .initialized
  statics := none
  mirror := none

def pool0 : Array CpInfo := pool [(5, u "<init>"), (0, u "()V"), (1, .class_ 10), (1, u "java/lang/Object")] 113

def k0c0 : Code := { maxStack := 0, maxLocals := 1, code := object_method_1_code, exceptionTable := #[], attributes := #[] }
def k0m0 : Method := { name := "<init>", desc := "()V", sig := { parameters := [], returnType := none }, accessFlags := 1, code := some k0c0 }
/-- java/lang/Object -/
def k0 : Class := { plain "java/lang/Object" none with
  accessFlags := 33
  interfaces := #[]
  cf := some (fileOf pool0 8 #[] #[{ accessFlags := 1, nameIndex := 5, descriptorIndex := 6, attributes := #[] }] 33 0 #[] #[])
  fields := #[]
  methods := #[k0m0]
  instanceTypes := #[]
  staticTypes := #[]
  resolved := Array.replicate 124 none
  statics := none }

def pool1 : Array CpInfo := pool [(2, .class_ 4), (1, u "java/lang/Object"), (0, u "<init>"), (0, u "()V"), (0, .long 1048575), (1, .long 1000), (1, .class_ 12), (0, u "com/example/takt/takt/server/RateOptions"), (0, .methodref 11 14), (0, .nameAndType 5 15), (0, u "(ZDDZ)V"), (0, .methodref 11 17), (0, .nameAndType 18 19), (0, u "rate"), (0, u "(JDJD)D"), (0, .class_ 21), (0, u "com/example/takt/takt/server/RateOptionsRatePinLaw"), (2, u "law"), (0, u "(IIIIIJ)Z")] 3

def k1m0 : Method := { name := "<init>", desc := "()V", sig := { parameters := [], returnType := none }, accessFlags := 1, code := none }
def k1c1 : Code := { maxStack := 9, maxLocals := 23, code := code, exceptionTable := #[], attributes := #[] }
def k1m1 : Method := { name := "law", desc := "(IIIIIJ)Z", sig := { parameters := [.int, .int, .int, .int, .int, .long], returnType := some .boolean }, accessFlags := 9, code := some k1c1 }
/-- com/example/takt/takt/server/RateOptionsRatePinLaw -/
def k1 : Class := { plain "com/example/takt/takt/server/RateOptionsRatePinLaw" (some 0) with
  accessFlags := 49
  interfaces := #[]
  cf := some (fileOf pool1 20 #[] #[{ accessFlags := 1, nameIndex := 5, descriptorIndex := 6, attributes := #[] }, { accessFlags := 9, nameIndex := 24, descriptorIndex := 25, attributes := #[] }] 49 2 #[] #[])
  fields := #[]
  methods := #[k1m0, k1m1]
  instanceTypes := #[]
  staticTypes := #[]
  resolved := Array.replicate 29 none
  statics := none }

def pool2 : Array CpInfo := pool [(1, .methodref 2 3), (0, .class_ 4), (0, .nameAndType 5 6), (0, u "java/lang/Object"), (0, u "<init>"), (0, u "()V"), (0, .fieldref 8 9), (0, .class_ 10), (0, .nameAndType 11 12), (0, u "com/example/takt/takt/server/RateOptions"), (0, u "counter"), (0, u "Z"), (0, .fieldref 8 14), (0, .nameAndType 15 16), (0, u "counterMax"), (0, u "D"), (0, .fieldref 8 18), (0, .nameAndType 19 16), (0, u "resetValue"), (0, .fieldref 8 21), (0, .nameAndType 22 12), (0, u "dropResets"), (0, .double 4652007308841189376), (5, u "(ZDDZ)V"), (2, u "FALLS_AS_THEY_ARE"), (0, u "Lcom/example/takt/takt/server/RateOptions;"), (0, u "COUNTER_MAX"), (6, u "rate"), (0, u "(JDJD)D")] 3

def k2c0 : Code := { maxStack := 3, maxLocals := 7, code := prog_43_method_1_code, exceptionTable := #[], attributes := #[] }
def k2m0 : Method := { name := "<init>", desc := "(ZDDZ)V", sig := { parameters := [.boolean, .double, .double, .boolean], returnType := none }, accessFlags := 0, code := some k2c0 }
def k2c1 : Code := { maxStack := 6, maxLocals := 14, code := prog_43_method_3_code, exceptionTable := #[], attributes := #[] }
def k2m1 : Method := { name := "rate", desc := "(JDJD)D", sig := { parameters := [.long, .double, .long, .double], returnType := some .double }, accessFlags := 0, code := some k2c1 }
/-- com/example/takt/takt/server/RateOptions -/
def k2 : Class := { plain "com/example/takt/takt/server/RateOptions" (some 0) with
  accessFlags := 32
  interfaces := #[]
  cf := some (fileOf pool2 8 #[] #[{ accessFlags := 0, nameIndex := 5, descriptorIndex := 29, attributes := #[] }, { accessFlags := 0, nameIndex := 41, descriptorIndex := 42, attributes := #[] }] 32 2 #[] #[{ accessFlags := 24, nameIndex := 34, descriptorIndex := 16, attributes := #[] }, { accessFlags := 24, nameIndex := 32, descriptorIndex := 33, attributes := #[] }, { accessFlags := 18, nameIndex := 11, descriptorIndex := 12, attributes := #[] }, { accessFlags := 18, nameIndex := 15, descriptorIndex := 16, attributes := #[] }, { accessFlags := 18, nameIndex := 19, descriptorIndex := 16, attributes := #[] }, { accessFlags := 18, nameIndex := 22, descriptorIndex := 12, attributes := #[] }])
  fields := #[{ name := "COUNTER_MAX", type := .double, accessFlags := 24, slot := 0, constantValue := 0 }, { name := "FALLS_AS_THEY_ARE", type := (.object "com/example/takt/takt/server/RateOptions"), accessFlags := 24, slot := 1, constantValue := 0 }, { name := "counter", type := .boolean, accessFlags := 18, slot := 0, constantValue := 0 }, { name := "counterMax", type := .double, accessFlags := 18, slot := 1, constantValue := 0 }, { name := "resetValue", type := .double, accessFlags := 18, slot := 2, constantValue := 0 }, { name := "dropResets", type := .boolean, accessFlags := 18, slot := 3, constantValue := 0 }]
  methods := #[k2m0, k2m1]
  instanceTypes := #[.boolean, .double, .double, .boolean]
  staticTypes := #[.double, (.object "com/example/takt/takt/server/RateOptions")]
  resolved := Array.replicate 46 none
  statics := none }

def pool3 : Array CpInfo := pool [(1, u "java/lang/Cloneable"), (0, .class_ 1), (0, u "java/lang/Object"), (0, .class_ 3)] 3

/-- java/lang/Cloneable -/
def k3 : Class := { plain "java/lang/Cloneable" (some 0) with
  accessFlags := 1537
  interfaces := #[]
  cf := some (fileOf pool3 2 #[] #[] 1537 4 #[] #[])
  fields := #[]
  methods := #[]
  instanceTypes := #[]
  staticTypes := #[]
  resolved := Array.replicate 8 none
  statics := none }

def pool4 : Array CpInfo := pool [(1, u "java/io/Serializable"), (0, .class_ 1), (0, u "java/lang/Object"), (0, .class_ 3)] 3

/-- java/io/Serializable -/
def k4 : Class := { plain "java/io/Serializable" (some 0) with
  accessFlags := 1537
  interfaces := #[]
  cf := some (fileOf pool4 2 #[] #[] 1537 4 #[] #[])
  fields := #[]
  methods := #[]
  instanceTypes := #[]
  staticTypes := #[]
  resolved := Array.replicate 8 none
  statics := none }

/-- the primitive byte -/
def k5 : Class := { plain "byte" none with kind := .primitive 'B', accessFlags := 0x411 }
/-- [B -/
def k6 : Class := { plain "[B" (some 0) with kind := .array 5 .byte, interfaces := #[3, 4], accessFlags := 1041 }

/-- the primitive int -/
def k7 : Class := { plain "int" none with kind := .primitive 'I', accessFlags := 0x411 }
/-- [I -/
def k8 : Class := { plain "[I" (some 0) with kind := .array 7 .int, interfaces := #[3, 4], accessFlags := 1041 }

def heap : Heap := #[]
def classes : Array Class := #[k0, k1, k2, k3, k4, k5, k6, k7, k8]
def interned : List (Array UInt16 × Addr) := []
def slotsUsed : Nat := 0
def theMethod : MethodId := ⟨1, 1⟩
def args0 : Array Value := #[.int 5, .int 5, .int 5, .int 5, .int 5, .long 5]
def aboutOver (below : List Frame) : State where
  vm := { classes := classes, interned := interned.toArray }
  heap := heap
  slotsUsed := slotsUsed
  threads := #[{ frames := .invoking theMethod args0 :: below }]
def below0 : List Frame := [.native { method := ⟨0, 0⟩, args := #[] }]
def about1 : State := aboutOver below0
def p0 : Program := .bare "" "" ""
def e0 : Env := launch0.env 0 0 0
theorem w_frames : about1.frames = Frame.invoking theMethod args0 :: below0 := rfl
set_option maxRecDepth 65536 in
theorem w_args : argsFit about1.vm theMethod args0 = true := by decide +kernel
set_option maxRecDepth 65536 in
theorem w_heap : heapFits about1 = true := by decide +kernel
set_option maxRecDepth 65536 in
theorem w_runnable : about1.curStatus? = some .runnable := by decide +kernel
set_option maxRecDepth 65536 in
theorem w_alone : about1.alone = true := by decide +kernel
set_option maxRecDepth 65536 in
theorem w_named : about1.methodNamed? x = some theMethod := by decide +kernel
set_option maxRecDepth 65536 in
theorem w_hears : about1.hears theMethod below0 = true := by decide +kernel
set_option maxRecDepth 65536 in
theorem w_ripe : about1.ripe theMethod args0 below0 = true := by decide +kernel
theorem w_running : about1.status = .running := rfl
set_option maxRecDepth 65536 in
theorem w_room : about1.hasRoom e0.platform room_1 = true :=
  launch0.hasRoom_least _ room_1 (by decide +kernel) (by decide +kernel) (by decide +kernel) (by decide +kernel) (by decide +kernel) (by decide +kernel)
theorem allAtoms_all (ts : List Jvm.Cond) (a : Array Jvm.Value) (st : Jvm.State) : (allAtoms ts).before a st = ts.all (fun c => c.before a st) := by
  induction ts with
  | nil => rfl
  | cons c t ih =>
    show (Jvm.Cond.and c (allAtoms t)).before a st = _
    rw [Jvm.Cond.before_and, ih, List.all_cons]
def words1 : List Jvm.Cond := Jvm.Cond.code x code maxLocals ret :: tables_1
/-- a 'code' word, met by the world's own term for the bytes: nothing is compared byte by byte -/
theorem code_word {y : MethodName} {bytes : ByteArray} {mx : Nat} {rt : Option FieldType} {a : Array Value} {s : State} {m : MethodId} {meth : Method} {c : Code} (h1 : s.methodNamed? y = some m) (h2 : s.vm.method? m = some meth) (h3 : meth.code = some c) (h4 : c.code = bytes)
    (h5 : (c.maxLocals == mx && c.exceptionTable.isEmpty && decide (c.maxStack ≤ mostOperands) && decide (meth.sig.returnType = rt) && !meth.locks && decide (parseMethodDescriptor y.desc = some meth.sig)) = true) : (Jvm.Cond.code y bytes mx rt).before a s = true := by
  simp only [Bool.and_eq_true, beq_iff_eq, Bool.not_eq_true', decide_eq_true_eq] at h5
  obtain ⟨⟨⟨⟨⟨g1, g2⟩, g3⟩, g4⟩, g5⟩, g6⟩ := h5
  simp [Cond.before, Cond.holds, Cond.value, h1, h2, h3, h4, g1, g2, g3, g4, g5, g6]
def isCode : Jvm.Cond → Bool
  | .code _ _ _ _ => true
  | _ => false
theorem all_split {L : List Jvm.Cond} {P : Jvm.Cond → Bool} (h1 : L.all (fun c => isCode c || P c) = true) (h2 : ∀ c ∈ L.filter isCode, P c = true) : L.all P = true := by
  refine List.all_eq_true.mpr fun c hc => ?_
  have h := List.all_eq_true.mp h1 c hc
  rcases Bool.eq_false_or_eq_true (isCode c) with hi | hi
  · exact h2 c (List.mem_filter.mpr ⟨hc, hi⟩)
  · simpa [hi] using h
set_option maxRecDepth 65536 in
theorem w_c0 : (Jvm.Cond.code x code maxLocals ret).before args0 about1 = true := code_word (m := ⟨1, 1⟩) (meth := k1m1) (c := k1c1) (by decide +kernel) rfl rfl rfl (by decide +kernel)
set_option maxRecDepth 65536 in
theorem w_c1 : (Jvm.Cond.code ({ cls := "com/example/takt/takt/server/RateOptions", name := "<init>", desc := "(ZDDZ)V" } : Jvm.MethodName) prog_43_method_1_code (7 : Nat) (Option.none : Option Jvm.ClassFile.FieldType)).before args0 about1 = true := code_word (m := ⟨2, 0⟩) (meth := k2m0) (c := k2c0) (by decide +kernel) rfl rfl rfl (by decide +kernel)
set_option maxRecDepth 65536 in
theorem w_c2 : (Jvm.Cond.code ({ cls := "java/lang/Object", name := "<init>", desc := "()V" } : Jvm.MethodName) object_method_1_code (1 : Nat) (Option.none : Option Jvm.ClassFile.FieldType)).before args0 about1 = true := code_word (m := ⟨0, 0⟩) (meth := k0m0) (c := k0c0) (by decide +kernel) rfl rfl rfl (by decide +kernel)
set_option maxRecDepth 65536 in
theorem w_c3 : (Jvm.Cond.code ({ cls := "com/example/takt/takt/server/RateOptions", name := "rate", desc := "(JDJD)D" } : Jvm.MethodName) prog_43_method_3_code (14 : Nat) (Option.some Jvm.ClassFile.FieldType.double)).before args0 about1 = true := code_word (m := ⟨2, 1⟩) (meth := k2m1) (c := k2c1) (by decide +kernel) rfl rfl rfl (by decide +kernel)
def codes1 : List Jvm.Cond := [Jvm.Cond.code x code maxLocals ret, Jvm.Cond.code ({ cls := "com/example/takt/takt/server/RateOptions", name := "<init>", desc := "(ZDDZ)V" } : Jvm.MethodName) prog_43_method_1_code (7 : Nat) (Option.none : Option Jvm.ClassFile.FieldType), Jvm.Cond.code ({ cls := "java/lang/Object", name := "<init>", desc := "()V" } : Jvm.MethodName) object_method_1_code (1 : Nat) (Option.none : Option Jvm.ClassFile.FieldType), Jvm.Cond.code ({ cls := "com/example/takt/takt/server/RateOptions", name := "rate", desc := "(JDJD)D" } : Jvm.MethodName) prog_43_method_3_code (14 : Nat) (Option.some Jvm.ClassFile.FieldType.double)]
set_option maxRecDepth 65536 in
theorem codes_eq : words1.filter isCode = codes1 := rfl
theorem w_codes : ∀ c ∈ words1.filter isCode, c.before args0 about1 = true := by
  rw [codes_eq]
  intro c hc
  simp only [codes1, List.mem_cons, List.not_mem_nil, or_false] at hc
  rcases hc with rfl | rfl | rfl | rfl
  · exact w_c0
  · exact w_c1
  · exact w_c2
  · exact w_c3
set_option maxRecDepth 65536 in
theorem w_t1 : (words1.take 24).all (fun c => isCode c || c.before args0 about1) = true := by decide +kernel
set_option maxRecDepth 65536 in
theorem w_t2 : (words1.drop 24).all (fun c => isCode c || c.before args0 about1) = true := by decide +kernel
theorem w_tables : (allAtoms (Jvm.Cond.code x code maxLocals ret :: tables_1)).before args0 about1 = true := by
  rw [allAtoms_all]
  show words1.all (fun c => c.before args0 about1) = true
  refine all_split ?_ w_codes
  rw [← List.take_append_drop 24 words1, List.all_append, w_t1, w_t2]
  rfl
set_option maxRecDepth 65536 in
theorem w_case : (Jvm.Cond.and given_1 narrow_1).before args0 about1 = true := by decide +kernel
theorem w_applies : (headSpec (Jvm.Cond.code x code maxLocals ret :: tables_1) room_1).applies x e0.platform about1 = true :=
  (Spec.applies_iff w_frames).mpr ⟨w_running, w_runnable, w_alone, w_named, w_hears, w_ripe, w_room, w_tables⟩
theorem atStart : AtStart classFile x code maxLocals ret World_1 tables_1 room_1 Calls_1 rest_1 Pre_1 launch0 p0 e0 about1 theMethod args0 below0 :=
  ⟨lists_1, trivial, launch0.admits_env _ _ _, launch0.least_env, fairChoices_fair.cas, fairChoices_fair.clock, w_frames, w_args, w_heap, w_applies, trivial, trivial, w_case⟩
end start1
theorem witness_1 : WitnessClaimed_1 := ⟨start1.p0, start1.e0, start1.about1, start1.theMethod, start1.args0, start1.below0, start1.atStart⟩
end Jvm.Pilot.@@N@@
