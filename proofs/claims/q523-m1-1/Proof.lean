import JvmDerived
import JvmDerived.Pilot.@@N@@Statement
import JvmDerived.Pilot.@@N@@Code
set_option linter.unusedVariables false
set_option linter.unusedSimpArgs false

namespace Jvm.OwnW
open Sem ClassFile Op Lib Jvm.Stand Jvm.Free Jvm.LawKit Jvm.RoadKit
/-- the instruction i stands at pc, n bytes long; the next one stands at nx -/
def Ins (code : ByteArray) (pc : Nat) (i : Instr) (n nx : Nat) : Prop := decode code pc = .ok (i, n) ∧ pc + n = nx
/-- a jump by o from pc leads to t -/
def Jmp (pc : Nat) (o : Int) (t : Nat) : Prop := 0 ≤ (pc : Int) + o ∧ ((pc : Int) + o).toNat = t
instance {pc : Nat} {o : Int} {t : Nat} : Decidable (Jmp pc o t) := inferInstanceAs (Decidable (_ ∧ _))
/-- what is fixed through a body's walk -/
def Ctx (p : Program) (s : State) (m : MethodId) (meth : Method) (c : Code) (Z : State) (own nm : String) (code : ByteArray) (ml : Nat) (ret : Option FieldType) : Prop :=
  p.tables.exec = Jvm.exec ∧ Z.Warmed39 s.vm ∧ c.code = code ∧ c.maxLocals = ml ∧ s.vm.findClass own = some m.cls ∧ meth.sig.returnType = ret ∧ meth.locks = false ∧ meth.name = nm
/-- what is carried unseen: the tables since the start; the constants that are held; D: arrays and Strings of our own, which no constant names -/
def Hid (w : Bool) (Z : State) (EL : List (String × Nat)) (D : List Addr) (s : State) (vm0 : Vm) (h : Heap) : Prop :=
  (if w = true then ∃ k0, s.Since vm0 k0 ∧ k0 ≤ h.size else vm0 = s.vm) ∧ (∃ a0, EW Z a0 EL) ∧ CHr Z EL s.vm s.heap vm0 h ∧ ∀ x ∈ D, x < h.size ∧ Safe Z EL vm0 h x
def En (w : Bool) (s : State) (o : Outcome) (t : State) (L : List Loc) (k n : Nat) : Prop := if w = true then ReturnedEndW s o t L k n else FrameEnd s o t L k n
/-- how a body ends -/
def Done (w : Bool) (Z : State) (EL : List (String × Nat)) (n0 : Nat) (R : Room) (Q : Option Value → Heap → List Addr → Prop) (s : State) (o : Outcome) (t : State) : Prop :=
  ∃ v L D', o = .returned v ∧ Q v t.heap D' ∧ Old Z n0 t.heap ∧ Fr n0 L ∧ (CHr Z EL s.vm s.heap t.vm t.heap ∧ ∀ x ∈ D', x < t.heap.size ∧ Safe Z EL t.vm t.heap x) ∧ En w s o t L R.cells R.slots
/-- from pc, with these locals, this stack and this heap, the body comes to an end that Q allows -/
def Runs (w : Bool) (l : Launch) (Z : State) (EL : List (String × Nat)) (n0 : Nat) (own nm : String) (code : ByteArray) (ml : Nat) (ret : Option FieldType) (R : Room) (Q : Option Value → Heap → List Addr → Prop) (D : List Addr) (h : Heap) (kc ks pc : Nat) (ls : Array Slot) (st : List Value) : Prop :=
  ∀ (p : Program) (e : Env) (s : State) (vm0 : Vm) (m : MethodId) (args : Array Value) (below : List Frame) (meth : Method) (c : Code) (T : State) (locs : List Loc),
    Ctx p (s.setVm vm0) m meth c Z own nm code ml ret → Stand p l e R (s.setVm vm0) m args below meth c T locs kc ks → T.heap = h → Fr n0 locs → Old Z n0 h → Hid w Z EL D s vm0 h →
    ∃ s₂ o, Steps p.tables e below (T.setTop (mkF m pc ls st)) s₂ ∧ s₂.status = .running ∧ Ended s₂ below o ∧ Done w Z EL n0 R Q s o s₂
/-- a method's contract -/
def Con (w : Bool) (l : Launch) (Z : State) (EL : List (String × Nat)) (n0 : Nat) (y : MethodName) (code : ByteArray) (ml : Nat) (ret : Option FieldType) (R : Room) (as' : Array Value) (D : List Addr) (h : Heap) (Q : Option Value → Heap → List Addr → Prop) : Prop :=
  ∀ ws : List Jvm.Cond, MetFree l y (head1 (Jvm.Cond.code y code ml ret :: ws) R) (fun a U => a = as' ∧ Z.Warmed39 U.vm ∧ U.heap = h ∧ Old Z n0 h ∧ (∃ a0, EW Z a0 EL) ∧ CHv Z EL U.vm h ∧ ∀ x ∈ D, x < h.size ∧ Safe Z EL U.vm h x) (fun _ _ _ _ _ => True) (fun _ U o U' => Done w Z EL n0 R Q U o U')
section W
variable {w : Bool} {l : Launch} {Z : State} {EL : List (String × Nat)} {n0 : Nat} {own nm : String} {code : ByteArray} {ml : Nat} {ret : Option FieldType} {R : Room} {Q : Option Value → Heap → List Addr → Prop} {D : List Addr} {h : Heap} {kc ks pc pc' : Nat} {ls ls' : Array Slot} {st st' rest : List Value} {a0 : Array Value}
theorem Con.of_runs {y : MethodName} {as' : Array Value} (hp : plainFor y = true) (he : ∀ m, entryFrame m as' ml = mkF m 0 ls []) (K : Runs w l Z EL n0 y.cls y.name code ml ret R Q D h 0 0 0 ls []) : Con w l Z EL n0 y code ml ret R as' D h Q := by
  intro ws
  refine MetFree.of_bodySF hp hisR ?_
  intro p e s m args below meth c s₁ Bd hml0 hP hK
  obtain ⟨rfl, hZ, hh, hO, hE, hC, hD⟩ := hP
  have hnm := (name_of_methodNamed Bd.named Bd.method).1
  have hown : s.vm.findClass y.cls = some m.cls := findClass_of_methodNamed Bd.named
  have X0 : Stand p l e R s m args below meth c s₁ [] 0 0 := Stand.of_body Bd
  have e0 : s₁.heap = h := by rw [← hh, Bd.state]; rfl
  obtain ⟨s₂, o, S, r1, r2, r3⟩ := K p e s s.vm m args below meth c s₁ [] ⟨Bd.exec, hZ, Bd.bytes, hml0, hown, Bd.returns, Bd.notSynchronized, hnm⟩ X0 e0 (Fr.nil n0) hO
    ⟨by split; exact ⟨0, (State.WarmedH.refl s).since 0, Nat.zero_le _⟩; rfl, hE, by rw [← hh] at hC ⊢; exact CHr.refl hC, hD⟩
  exact ⟨s₂, o, castTop (he m) S, r1, r2, r3⟩
theorem Runs.plain (K : Runs w l Z EL n0 own nm code ml ret R Q D h kc ks pc' ls' st')
    (f : ∀ (p : Program) (e : Env) (m : MethodId) (below : List Frame) (c : Code) (T target : State), p.tables.exec = Jvm.exec → c.code = code → At T m c below → Steps p.tables e below (T.setTop (mkF m pc' ls' st')) target → Steps p.tables e below (T.setTop (mkF m pc ls st)) target) : Runs w l Z EL n0 own nm code ml ret R Q D h kc ks pc ls st := by
  intro p e s vm0 m args below meth c T locs C X eT N O H
  obtain ⟨s₂, o, S, r⟩ := K p e s vm0 m args below meth c T locs C X eT N O H
  exact ⟨s₂, o, f p e m below c T s₂ C.1 C.2.2.1 X.here S, r⟩
/-- a step whose law moves the tables alone -/
theorem Runs.warm (K : Runs w l Z EL n0 own nm code ml ret R Q D h kc ks pc' ls' st')
    (f : ∀ (p : Program) (e : Env) (s : State) (m : MethodId) (args : Array Value) (below : List Frame) (meth : Method) (c : Code) (T : State) (locs : List Loc), Ctx p s m meth c Z own nm code ml ret → Stand p l e R s m args below meth c T locs kc ks → T.heap = h → Old Z n0 h →
      ∃ T', Stand p l e R s m args below meth c T' locs kc ks ∧ T'.heap = h ∧ ∀ target, Steps p.tables e below (T'.setTop (mkF m pc' ls' st')) target → Steps p.tables e below (T.setTop (mkF m pc ls st)) target) : Runs w l Z EL n0 own nm code ml ret R Q D h kc ks pc ls st := by
  intro p e s vm0 m args below meth c T locs C X eT N O H
  obtain ⟨T', X', e', S'⟩ := f p e _ m args below meth c T locs C X eT O
  obtain ⟨s₂, o, S, r⟩ := K p e s vm0 m args below meth c T' locs C X' e' N O H
  exact ⟨s₂, o, S' _ S, r⟩
theorem Runs.old (K : Old Z n0 h → Runs w l Z EL n0 own nm code ml ret R Q D h kc ks pc ls st) : Runs w l Z EL n0 own nm code ml ret R Q D h kc ks pc ls st :=
  fun p e s vm0 m args below meth c T locs C X eT N O H => K O p e s vm0 m args below meth c T locs C X eT N O H
theorem Runs.weak {D1 : List Addr} (hs : ∀ x ∈ D1, x ∈ D) (K : Runs w l Z EL n0 own nm code ml ret R Q D1 h kc ks pc ls st) : Runs w l Z EL n0 own nm code ml ret R Q D h kc ks pc ls st :=
  fun p e s vm0 m args below meth c T locs C X eT N O H => K p e s vm0 m args below meth c T locs C X eT N O ⟨H.1, H.2.1, H.2.2.1, fun x hx => H.2.2.2 x (hs x hx)⟩
/-- fewer cells, fewer slots made: at most more -/
theorem Runs.mono {kc' ks' : Nat} (h1 : kc ≤ kc') (h2 : ks ≤ ks') (K : Runs w l Z EL n0 own nm code ml ret R Q D h kc' ks' pc ls st) : Runs w l Z EL n0 own nm code ml ret R Q D h kc ks pc ls st :=
  fun p e s vm0 m args below meth c T locs C X eT N O H => K p e s vm0 m args below meth c T locs C (X.mono h1 h2) eT N O H

theorem Runs.iloadN {k : Fin 4} {v : Int32} (hd : Ins code pc (.iload_n k) 1 pc') (hl : ls[k.val]? = some (.val (.int v))) (K : Runs w l Z EL n0 own nm code ml ret R Q D h kc ks pc' ls (.int v :: st)) : Runs w l Z EL n0 own nm code ml ret R Q D h kc ks pc ls st := by
  obtain ⟨hd, rfl⟩ := hd
  exact K.plain fun p e m below c T t hx hb X S => XS.iloadN (g := mkF m pc ls st) X hx rfl (Jvm.hb hb hd) hl S
theorem Runs.iload {k : Nat} {v : Int32} (hd : Ins code pc (.iload k) 2 pc') (hl : ls[k]? = some (.val (.int v))) (K : Runs w l Z EL n0 own nm code ml ret R Q D h kc ks pc' ls (.int v :: st)) : Runs w l Z EL n0 own nm code ml ret R Q D h kc ks pc ls st := by
  obtain ⟨hd, rfl⟩ := hd
  exact K.plain fun p e m below c T t hx hb X S => XS.iload (g := mkF m pc ls st) X hx rfl (Jvm.hb hb hd) hl S
theorem Runs.istoreN {k : Fin 4} {x : Int32} (hd : Ins code pc (.istore_n k) 1 pc') (hl : storeLocals ls k.val (.int x) = some ls') (K : Runs w l Z EL n0 own nm code ml ret R Q D h kc ks pc' ls' rest) : Runs w l Z EL n0 own nm code ml ret R Q D h kc ks pc ls (.int x :: rest) := by
  obtain ⟨hd, rfl⟩ := hd
  exact K.plain fun p e m below c T t hx hb X S => XS.istoreN (g := mkF m pc ls (.int x :: rest)) X hx rfl (Jvm.hb hb hd) rfl hl S
theorem Runs.istore {k : Nat} {x : Int32} (hd : Ins code pc (.istore k) 2 pc') (hl : storeLocals ls k (.int x) = some ls') (K : Runs w l Z EL n0 own nm code ml ret R Q D h kc ks pc' ls' rest) : Runs w l Z EL n0 own nm code ml ret R Q D h kc ks pc ls (.int x :: rest) := by
  obtain ⟨hd, rfl⟩ := hd
  exact K.plain fun p e m below c T t hx hb X S => XS.istore (g := mkF m pc ls (.int x :: rest)) X hx rfl (Jvm.hb hb hd) rfl hl S
theorem Runs.lloadN {k : Fin 4} {v : Int64} (hd : Ins code pc (.lload_n k) 1 pc') (hl : ls[k.val]? = some (.val (.long v))) (K : Runs w l Z EL n0 own nm code ml ret R Q D h kc ks pc' ls (.long v :: st)) : Runs w l Z EL n0 own nm code ml ret R Q D h kc ks pc ls st := by
  obtain ⟨hd, rfl⟩ := hd
  exact K.plain fun p e m below c T t hx hb X S => XT.lloadN (g := mkF m pc ls st) X hx rfl (Jvm.hb hb hd) hl S
theorem Runs.lload {k : Nat} {v : Int64} (hd : Ins code pc (.lload k) 2 pc') (hl : ls[k]? = some (.val (.long v))) (K : Runs w l Z EL n0 own nm code ml ret R Q D h kc ks pc' ls (.long v :: st)) : Runs w l Z EL n0 own nm code ml ret R Q D h kc ks pc ls st := by
  obtain ⟨hd, rfl⟩ := hd
  exact K.plain fun p e m below c T t hx hb X S => XT.lload (g := mkF m pc ls st) X hx rfl (Jvm.hb hb hd) hl S
theorem Runs.lstoreN {k : Fin 4} {x : Int64} (hd : Ins code pc (.lstore_n k) 1 pc') (hl : storeLocals ls k.val (.long x) = some ls') (K : Runs w l Z EL n0 own nm code ml ret R Q D h kc ks pc' ls' rest) : Runs w l Z EL n0 own nm code ml ret R Q D h kc ks pc ls (.long x :: rest) := by
  obtain ⟨hd, rfl⟩ := hd
  exact K.plain fun p e m below c T t hx hb X S => XT.lstoreN (g := mkF m pc ls (.long x :: rest)) X hx rfl (Jvm.hb hb hd) rfl hl S
theorem Runs.lstore {k : Nat} {x : Int64} (hd : Ins code pc (.lstore k) 2 pc') (hl : storeLocals ls k (.long x) = some ls') (K : Runs w l Z EL n0 own nm code ml ret R Q D h kc ks pc' ls' rest) : Runs w l Z EL n0 own nm code ml ret R Q D h kc ks pc ls (.long x :: rest) := by
  obtain ⟨hd, rfl⟩ := hd
  exact K.plain fun p e m below c T t hx hb X S => XT.lstore (g := mkF m pc ls (.long x :: rest)) X hx rfl (Jvm.hb hb hd) rfl hl S
theorem Runs.aloadN {k : Fin 4} {v : Value} (hd : Ins code pc (.aload_n k) 1 pc') (hl : ls[k.val]? = some (.val v)) (hv : v.isRef = true) (K : Runs w l Z EL n0 own nm code ml ret R Q D h kc ks pc' ls (v :: st)) : Runs w l Z EL n0 own nm code ml ret R Q D h kc ks pc ls st := by
  obtain ⟨hd, rfl⟩ := hd
  exact K.plain fun p e m below c T t hx hb X S => XS.aloadN (g := mkF m pc ls st) X hx rfl (Jvm.hb hb hd) hl hv S
theorem Runs.aload {k : Nat} {v : Value} (hd : Ins code pc (.aload k) 2 pc') (hl : ls[k]? = some (.val v)) (hv : v.isRef = true) (K : Runs w l Z EL n0 own nm code ml ret R Q D h kc ks pc' ls (v :: st)) : Runs w l Z EL n0 own nm code ml ret R Q D h kc ks pc ls st := by
  obtain ⟨hd, rfl⟩ := hd
  exact K.plain fun p e m below c T t hx hb X S => XS.aload (g := mkF m pc ls st) X hx rfl (Jvm.hb hb hd) hl hv S
theorem Runs.astoreN {k : Fin 4} {x : Value} (hd : Ins code pc (.astore_n k) 1 pc') (hv : x.isRef = true) (hl : storeLocals ls k.val x = some ls') (K : Runs w l Z EL n0 own nm code ml ret R Q D h kc ks pc' ls' rest) : Runs w l Z EL n0 own nm code ml ret R Q D h kc ks pc ls (x :: rest) := by
  obtain ⟨hd, rfl⟩ := hd
  exact K.plain fun p e m below c T t hx hb X S => XS.astoreN (g := mkF m pc ls (x :: rest)) X hx rfl (Jvm.hb hb hd) rfl hv hl S
theorem Runs.astore {k : Nat} {x : Value} (hd : Ins code pc (.astore k) 2 pc') (hv : x.isRef = true) (hl : storeLocals ls k x = some ls') (K : Runs w l Z EL n0 own nm code ml ret R Q D h kc ks pc' ls' rest) : Runs w l Z EL n0 own nm code ml ret R Q D h kc ks pc ls (x :: rest) := by
  obtain ⟨hd, rfl⟩ := hd
  exact K.plain fun p e m below c T t hx hb X S => XS.astore (g := mkF m pc ls (x :: rest)) X hx rfl (Jvm.hb hb hd) rfl hv hl S
theorem Runs.iconst {i : Int} {v : Int32} (hd : Ins code pc (.iconst i) 1 pc') (hz : Int32.ofInt i = v) (K : Runs w l Z EL n0 own nm code ml ret R Q D h kc ks pc' ls (.int v :: st)) : Runs w l Z EL n0 own nm code ml ret R Q D h kc ks pc ls st := by
  obtain ⟨hd, rfl⟩ := hd
  subst hz
  exact K.plain fun p e m below c T t hx hb X S => XS.iconst (g := mkF m pc ls st) X hx rfl (Jvm.hb hb hd) S
theorem Runs.bipush {i : Int} {v : Int32} (hd : Ins code pc (.bipush i) 2 pc') (hz : (Int8.ofInt i).toInt32 = v) (K : Runs w l Z EL n0 own nm code ml ret R Q D h kc ks pc' ls (.int v :: st)) : Runs w l Z EL n0 own nm code ml ret R Q D h kc ks pc ls st := by
  obtain ⟨hd, rfl⟩ := hd
  subst hz
  exact K.plain fun p e m below c T t hx hb X S => XS.bipush (g := mkF m pc ls st) X hx rfl (Jvm.hb hb hd) S
theorem Runs.sipush {i : Int} {v : Int32} (hd : Ins code pc (.sipush i) 3 pc') (hz : (Int16.ofInt i).toInt32 = v) (K : Runs w l Z EL n0 own nm code ml ret R Q D h kc ks pc' ls (.int v :: st)) : Runs w l Z EL n0 own nm code ml ret R Q D h kc ks pc ls st := by
  obtain ⟨hd, rfl⟩ := hd
  subst hz
  exact K.plain fun p e m below c T t hx hb X S => XS.sipush (g := mkF m pc ls st) X hx rfl (Jvm.hb hb hd) S
theorem Runs.lconst {k : Fin 2} {v : Int64} (hd : Ins code pc (.lconst k) 1 pc') (hz : Int64.ofNat k = v) (K : Runs w l Z EL n0 own nm code ml ret R Q D h kc ks pc' ls (.long v :: st)) : Runs w l Z EL n0 own nm code ml ret R Q D h kc ks pc ls st := by
  obtain ⟨hd, rfl⟩ := hd
  subst hz
  exact K.plain fun p e m below c T t hx hb X S => XT.lconst (g := mkF m pc ls st) X hx rfl (Jvm.hb hb hd) S
theorem Runs.aconstNull  (hd : Ins code pc (.aconst_null) 1 pc')  (K : Runs w l Z EL n0 own nm code ml ret R Q D h kc ks pc' ls (.null :: st)) : Runs w l Z EL n0 own nm code ml ret R Q D h kc ks pc ls st := by
  obtain ⟨hd, rfl⟩ := hd
  exact K.plain fun p e m below c T t hx hb X S => XS.aconstNull (g := mkF m pc ls st) X hx rfl (Jvm.hb hb hd) S
theorem Runs.iadd {x y z : Int32} (hd : Ins code pc (.iadd) 1 pc') (hz : x + y = z) (K : Runs w l Z EL n0 own nm code ml ret R Q D h kc ks pc' ls (.int z :: rest)) : Runs w l Z EL n0 own nm code ml ret R Q D h kc ks pc ls (.int y :: .int x :: rest) := by
  obtain ⟨hd, rfl⟩ := hd
  subst hz
  exact K.plain fun p e m below c T t hx hb X S => XS.iadd (g := mkF m pc ls (.int y :: .int x :: rest)) X hx rfl (Jvm.hb hb hd) rfl S
theorem Runs.isub {x y z : Int32} (hd : Ins code pc (.isub) 1 pc') (hz : x - y = z) (K : Runs w l Z EL n0 own nm code ml ret R Q D h kc ks pc' ls (.int z :: rest)) : Runs w l Z EL n0 own nm code ml ret R Q D h kc ks pc ls (.int y :: .int x :: rest) := by
  obtain ⟨hd, rfl⟩ := hd
  subst hz
  exact K.plain fun p e m below c T t hx hb X S => XS.isub (g := mkF m pc ls (.int y :: .int x :: rest)) X hx rfl (Jvm.hb hb hd) rfl S
theorem Runs.imul {x y z : Int32} (hd : Ins code pc (.imul) 1 pc') (hz : x * y = z) (K : Runs w l Z EL n0 own nm code ml ret R Q D h kc ks pc' ls (.int z :: rest)) : Runs w l Z EL n0 own nm code ml ret R Q D h kc ks pc ls (.int y :: .int x :: rest) := by
  obtain ⟨hd, rfl⟩ := hd
  subst hz
  exact K.plain fun p e m below c T t hx hb X S => XS.imul (g := mkF m pc ls (.int y :: .int x :: rest)) X hx rfl (Jvm.hb hb hd) rfl S
theorem Runs.iand {x y z : Int32} (hd : Ins code pc (.iand) 1 pc') (hz : x &&& y = z) (K : Runs w l Z EL n0 own nm code ml ret R Q D h kc ks pc' ls (.int z :: rest)) : Runs w l Z EL n0 own nm code ml ret R Q D h kc ks pc ls (.int y :: .int x :: rest) := by
  obtain ⟨hd, rfl⟩ := hd
  subst hz
  exact K.plain fun p e m below c T t hx hb X S => XS.iand (g := mkF m pc ls (.int y :: .int x :: rest)) X hx rfl (Jvm.hb hb hd) rfl S
theorem Runs.ior {x y z : Int32} (hd : Ins code pc (.ior) 1 pc') (hz : x ||| y = z) (K : Runs w l Z EL n0 own nm code ml ret R Q D h kc ks pc' ls (.int z :: rest)) : Runs w l Z EL n0 own nm code ml ret R Q D h kc ks pc ls (.int y :: .int x :: rest) := by
  obtain ⟨hd, rfl⟩ := hd
  subst hz
  exact K.plain fun p e m below c T t hx hb X S => XT.ior (g := mkF m pc ls (.int y :: .int x :: rest)) X hx rfl (Jvm.hb hb hd) rfl S
theorem Runs.ixor {x y z : Int32} (hd : Ins code pc (.ixor) 1 pc') (hz : x ^^^ y = z) (K : Runs w l Z EL n0 own nm code ml ret R Q D h kc ks pc' ls (.int z :: rest)) : Runs w l Z EL n0 own nm code ml ret R Q D h kc ks pc ls (.int y :: .int x :: rest) := by
  obtain ⟨hd, rfl⟩ := hd
  subst hz
  exact K.plain fun p e m below c T t hx hb X S => XT.ixor (g := mkF m pc ls (.int y :: .int x :: rest)) X hx rfl (Jvm.hb hb hd) rfl S
theorem Runs.ishl {x y z : Int32} (hd : Ins code pc (.ishl) 1 pc') (hz : x <<< (y &&& 31) = z) (K : Runs w l Z EL n0 own nm code ml ret R Q D h kc ks pc' ls (.int z :: rest)) : Runs w l Z EL n0 own nm code ml ret R Q D h kc ks pc ls (.int y :: .int x :: rest) := by
  obtain ⟨hd, rfl⟩ := hd
  subst hz
  exact K.plain fun p e m below c T t hx hb X S => XT.ishl (g := mkF m pc ls (.int y :: .int x :: rest)) X hx rfl (Jvm.hb hb hd) rfl S
theorem Runs.ishr {x y z : Int32} (hd : Ins code pc (.ishr) 1 pc') (hz : x >>> (y &&& 31) = z) (K : Runs w l Z EL n0 own nm code ml ret R Q D h kc ks pc' ls (.int z :: rest)) : Runs w l Z EL n0 own nm code ml ret R Q D h kc ks pc ls (.int y :: .int x :: rest) := by
  obtain ⟨hd, rfl⟩ := hd
  subst hz
  exact K.plain fun p e m below c T t hx hb X S => XT.ishr (g := mkF m pc ls (.int y :: .int x :: rest)) X hx rfl (Jvm.hb hb hd) rfl S
theorem Runs.iushr {x y z : Int32} (hd : Ins code pc (.iushr) 1 pc') (hz : XT.ushr x y = z) (K : Runs w l Z EL n0 own nm code ml ret R Q D h kc ks pc' ls (.int z :: rest)) : Runs w l Z EL n0 own nm code ml ret R Q D h kc ks pc ls (.int y :: .int x :: rest) := by
  obtain ⟨hd, rfl⟩ := hd
  subst hz
  exact K.plain fun p e m below c T t hx hb X S => XT.iushr (g := mkF m pc ls (.int y :: .int x :: rest)) X hx rfl (Jvm.hb hb hd) rfl S
theorem Runs.ladd {x y z : Int64} (hd : Ins code pc (.ladd) 1 pc') (hz : x + y = z) (K : Runs w l Z EL n0 own nm code ml ret R Q D h kc ks pc' ls (.long z :: rest)) : Runs w l Z EL n0 own nm code ml ret R Q D h kc ks pc ls (.long y :: .long x :: rest) := by
  obtain ⟨hd, rfl⟩ := hd
  subst hz
  exact K.plain fun p e m below c T t hx hb X S => XT.ladd (g := mkF m pc ls (.long y :: .long x :: rest)) X hx rfl (Jvm.hb hb hd) rfl S
theorem Runs.lsub {x y z : Int64} (hd : Ins code pc (.lsub) 1 pc') (hz : x - y = z) (K : Runs w l Z EL n0 own nm code ml ret R Q D h kc ks pc' ls (.long z :: rest)) : Runs w l Z EL n0 own nm code ml ret R Q D h kc ks pc ls (.long y :: .long x :: rest) := by
  obtain ⟨hd, rfl⟩ := hd
  subst hz
  exact K.plain fun p e m below c T t hx hb X S => XT.lsub (g := mkF m pc ls (.long y :: .long x :: rest)) X hx rfl (Jvm.hb hb hd) rfl S
theorem Runs.lmul {x y z : Int64} (hd : Ins code pc (.lmul) 1 pc') (hz : x * y = z) (K : Runs w l Z EL n0 own nm code ml ret R Q D h kc ks pc' ls (.long z :: rest)) : Runs w l Z EL n0 own nm code ml ret R Q D h kc ks pc ls (.long y :: .long x :: rest) := by
  obtain ⟨hd, rfl⟩ := hd
  subst hz
  exact K.plain fun p e m below c T t hx hb X S => XT.lmul (g := mkF m pc ls (.long y :: .long x :: rest)) X hx rfl (Jvm.hb hb hd) rfl S
theorem Runs.land {x y z : Int64} (hd : Ins code pc (.land) 1 pc') (hz : x &&& y = z) (K : Runs w l Z EL n0 own nm code ml ret R Q D h kc ks pc' ls (.long z :: rest)) : Runs w l Z EL n0 own nm code ml ret R Q D h kc ks pc ls (.long y :: .long x :: rest) := by
  obtain ⟨hd, rfl⟩ := hd
  subst hz
  exact K.plain fun p e m below c T t hx hb X S => XT.land (g := mkF m pc ls (.long y :: .long x :: rest)) X hx rfl (Jvm.hb hb hd) rfl S
theorem Runs.lor {x y z : Int64} (hd : Ins code pc (.lor) 1 pc') (hz : x ||| y = z) (K : Runs w l Z EL n0 own nm code ml ret R Q D h kc ks pc' ls (.long z :: rest)) : Runs w l Z EL n0 own nm code ml ret R Q D h kc ks pc ls (.long y :: .long x :: rest) := by
  obtain ⟨hd, rfl⟩ := hd
  subst hz
  exact K.plain fun p e m below c T t hx hb X S => XT.lor (g := mkF m pc ls (.long y :: .long x :: rest)) X hx rfl (Jvm.hb hb hd) rfl S
theorem Runs.lxor {x y z : Int64} (hd : Ins code pc (.lxor) 1 pc') (hz : x ^^^ y = z) (K : Runs w l Z EL n0 own nm code ml ret R Q D h kc ks pc' ls (.long z :: rest)) : Runs w l Z EL n0 own nm code ml ret R Q D h kc ks pc ls (.long y :: .long x :: rest) := by
  obtain ⟨hd, rfl⟩ := hd
  subst hz
  exact K.plain fun p e m below c T t hx hb X S => XT.lxor (g := mkF m pc ls (.long y :: .long x :: rest)) X hx rfl (Jvm.hb hb hd) rfl S
theorem Runs.irem {x y z : Int32} (hd : Ins code pc (.irem) 1 pc') (hy : y ≠ 0) (hz : x % y = z) (K : Runs w l Z EL n0 own nm code ml ret R Q D h kc ks pc' ls (.int z :: rest)) : Runs w l Z EL n0 own nm code ml ret R Q D h kc ks pc ls (.int y :: .int x :: rest) := by
  obtain ⟨hd, rfl⟩ := hd
  subst hz
  exact K.plain fun p e m below c T t hx hb X S => XS.irem (g := mkF m pc ls (.int y :: .int x :: rest)) X hx rfl (Jvm.hb hb hd) rfl hy (by rw [show x - x / y * y = x % y from irem_eq_mod x y]; exact S)
theorem Runs.idiv {x y z : Int32} (hd : Ins code pc (.idiv) 1 pc') (hy : y ≠ 0) (hz : x / y = z) (K : Runs w l Z EL n0 own nm code ml ret R Q D h kc ks pc' ls (.int z :: rest)) : Runs w l Z EL n0 own nm code ml ret R Q D h kc ks pc ls (.int y :: .int x :: rest) := by
  obtain ⟨hd, rfl⟩ := hd
  subst hz
  exact K.plain fun p e m below c T t hx hb X S => XS.idiv (g := mkF m pc ls (.int y :: .int x :: rest)) X hx rfl (Jvm.hb hb hd) rfl hy S
theorem Runs.lcmp {x y : Int64} {z : Int32} (hd : Ins code pc (.lcmp) 1 pc') (hz : XT.cmpL x y = z) (K : Runs w l Z EL n0 own nm code ml ret R Q D h kc ks pc' ls (.int z :: rest)) : Runs w l Z EL n0 own nm code ml ret R Q D h kc ks pc ls (.long y :: .long x :: rest) := by
  obtain ⟨hd, rfl⟩ := hd
  subst hz
  exact K.plain fun p e m below c T t hx hb X S => XT.lcmp (g := mkF m pc ls (.long y :: .long x :: rest)) X hx rfl (Jvm.hb hb hd) rfl S
theorem Runs.ineg {x : Int32} {z : Int32} (hd : Ins code pc (.ineg) 1 pc') (hz : -x = z) (K : Runs w l Z EL n0 own nm code ml ret R Q D h kc ks pc' ls (.int z :: rest)) : Runs w l Z EL n0 own nm code ml ret R Q D h kc ks pc ls (.int x :: rest) := by
  obtain ⟨hd, rfl⟩ := hd
  subst hz
  exact K.plain fun p e m below c T t hx hb X S => XS.ineg (g := mkF m pc ls (.int x :: rest)) X hx rfl (Jvm.hb hb hd) rfl S
theorem Runs.i2l {x : Int32} {z : Int64} (hd : Ins code pc (.i2l) 1 pc') (hz : x.toInt64 = z) (K : Runs w l Z EL n0 own nm code ml ret R Q D h kc ks pc' ls (.long z :: rest)) : Runs w l Z EL n0 own nm code ml ret R Q D h kc ks pc ls (.int x :: rest) := by
  obtain ⟨hd, rfl⟩ := hd
  subst hz
  exact K.plain fun p e m below c T t hx hb X S => XT.i2l (g := mkF m pc ls (.int x :: rest)) X hx rfl (Jvm.hb hb hd) rfl S
theorem Runs.l2i {x : Int64} {z : Int32} (hd : Ins code pc (.l2i) 1 pc') (hz : x.toInt32 = z) (K : Runs w l Z EL n0 own nm code ml ret R Q D h kc ks pc' ls (.int z :: rest)) : Runs w l Z EL n0 own nm code ml ret R Q D h kc ks pc ls (.long x :: rest) := by
  obtain ⟨hd, rfl⟩ := hd
  subst hz
  exact K.plain fun p e m below c T t hx hb X S => XT.l2i (g := mkF m pc ls (.long x :: rest)) X hx rfl (Jvm.hb hb hd) rfl S
theorem Runs.i2b {x : Int32} {z : Int32} (hd : Ins code pc (.i2b) 1 pc') (hz : x.toInt8.toInt32 = z) (K : Runs w l Z EL n0 own nm code ml ret R Q D h kc ks pc' ls (.int z :: rest)) : Runs w l Z EL n0 own nm code ml ret R Q D h kc ks pc ls (.int x :: rest) := by
  obtain ⟨hd, rfl⟩ := hd
  subst hz
  exact K.plain fun p e m below c T t hx hb X S => XT.i2b (g := mkF m pc ls (.int x :: rest)) X hx rfl (Jvm.hb hb hd) rfl S
theorem Runs.i2c {x : Int32} {z : Int32} (hd : Ins code pc (.i2c) 1 pc') (hz : x.toUInt32.toUInt16.toUInt32.toInt32 = z) (K : Runs w l Z EL n0 own nm code ml ret R Q D h kc ks pc' ls (.int z :: rest)) : Runs w l Z EL n0 own nm code ml ret R Q D h kc ks pc ls (.int x :: rest) := by
  obtain ⟨hd, rfl⟩ := hd
  subst hz
  exact K.plain fun p e m below c T t hx hb X S => XT.i2c (g := mkF m pc ls (.int x :: rest)) X hx rfl (Jvm.hb hb hd) rfl S
theorem Runs.i2s {x : Int32} {z : Int32} (hd : Ins code pc (.i2s) 1 pc') (hz : x.toInt16.toInt32 = z) (K : Runs w l Z EL n0 own nm code ml ret R Q D h kc ks pc' ls (.int z :: rest)) : Runs w l Z EL n0 own nm code ml ret R Q D h kc ks pc ls (.int x :: rest) := by
  obtain ⟨hd, rfl⟩ := hd
  subst hz
  exact K.plain fun p e m below c T t hx hb X S => XT.i2s (g := mkF m pc ls (.int x :: rest)) X hx rfl (Jvm.hb hb hd) rfl S
theorem Runs.lneg {x : Int64} {z : Int64} (hd : Ins code pc (.lneg) 1 pc') (hz : -x = z) (K : Runs w l Z EL n0 own nm code ml ret R Q D h kc ks pc' ls (.long z :: rest)) : Runs w l Z EL n0 own nm code ml ret R Q D h kc ks pc ls (.long x :: rest) := by
  obtain ⟨hd, rfl⟩ := hd
  subst hz
  exact K.plain fun p e m below c T t hx hb X S => XT.lneg (g := mkF m pc ls (.long x :: rest)) X hx rfl (Jvm.hb hb hd) rfl S
theorem Runs.iinc {k : Nat} {cst : Int} {x z : Int32} (hd : Ins code pc (.iinc k cst) 3 pc') (hl : ls[k]? = some (.val (.int x))) (hz : x + Int32.ofInt cst = z) (hl' : storeLocals ls k (.int z) = some ls') (K : Runs w l Z EL n0 own nm code ml ret R Q D h kc ks pc' ls' st) : Runs w l Z EL n0 own nm code ml ret R Q D h kc ks pc ls st := by
  obtain ⟨hd, rfl⟩ := hd
  subst hz
  exact K.plain fun p e m below c T t hx hb X S => XS.iinc (g := mkF m pc ls st) X hx rfl (Jvm.hb hb hd) hl hl' S
theorem Runs.dup {x : Value} (hd : Ins code pc (.dup) 1 pc') (hc : x.category = 1) (K : Runs w l Z EL n0 own nm code ml ret R Q D h kc ks pc' ls (x :: x :: rest)) : Runs w l Z EL n0 own nm code ml ret R Q D h kc ks pc ls (x :: rest) := by
  obtain ⟨hd, rfl⟩ := hd
  exact K.plain fun p e m below c T t hx hb X S => XS.dup (g := mkF m pc ls (x :: rest)) X hx rfl (Jvm.hb hb hd) rfl hc S
theorem Runs.pop {x : Value} (hd : Ins code pc (.pop) 1 pc') (hc : x.category = 1) (K : Runs w l Z EL n0 own nm code ml ret R Q D h kc ks pc' ls rest) : Runs w l Z EL n0 own nm code ml ret R Q D h kc ks pc ls (x :: rest) := by
  obtain ⟨hd, rfl⟩ := hd
  exact K.plain fun p e m below c T t hx hb X S => XT.pop (g := mkF m pc ls (x :: rest)) X hx rfl (Jvm.hb hb hd) rfl hc S
theorem Runs.dupX1 {x y : Value} (hd : Ins code pc (.dup_x1) 1 pc') (hc : x.category = 1) (hc' : y.category = 1) (K : Runs w l Z EL n0 own nm code ml ret R Q D h kc ks pc' ls (x :: y :: x :: rest)) : Runs w l Z EL n0 own nm code ml ret R Q D h kc ks pc ls (x :: y :: rest) := by
  obtain ⟨hd, rfl⟩ := hd
  exact K.plain fun p e m below c T t hx hb X S => XT.dupX1 (g := mkF m pc ls (x :: y :: rest)) X hx rfl (Jvm.hb hb hd) rfl hc hc' S
theorem Runs.dup2 {x y : Value} (hd : Ins code pc (.dup2) 1 pc') (hc : x.category = 1) (hc' : y.category = 1) (K : Runs w l Z EL n0 own nm code ml ret R Q D h kc ks pc' ls (x :: y :: x :: y :: rest)) : Runs w l Z EL n0 own nm code ml ret R Q D h kc ks pc ls (x :: y :: rest) := by
  obtain ⟨hd, rfl⟩ := hd
  exact K.plain fun p e m below c T t hx hb X S => XT.dup2 (g := mkF m pc ls (x :: y :: rest)) X hx rfl (Jvm.hb hb hd) rfl hc hc' S
theorem Runs.goto  {o : Int} {t nx : Nat} (hd : Ins code pc (.goto o) 3 nx) (hj : Jmp pc o t)  (K : Runs w l Z EL n0 own nm code ml ret R Q D h kc ks t ls st) : Runs w l Z EL n0 own nm code ml ret R Q D h kc ks pc ls st :=
  K.plain fun p e m below c T tg hx hb X S => XS.goto (g := mkF m pc ls st) X hx rfl (pc0 := pc) rfl (Jvm.hb hb hd.1) hj.1 hj.2 S
theorem Runs.ifY {cd : ClassFile.Cond} {x : Int32} {o : Int} {t nx : Nat} (hd : Ins code pc (.ifCond cd o) 3 nx) (hj : Jmp pc o t) (hc : if_icmp.holds cd x 0 = true) (K : Runs w l Z EL n0 own nm code ml ret R Q D h kc ks t ls rest) : Runs w l Z EL n0 own nm code ml ret R Q D h kc ks pc ls (.int x :: rest) :=
  K.plain fun p e m below c T tg hx hb X S => XS.ifYes (g := mkF m pc ls (.int x :: rest)) X hx rfl (pc0 := pc) rfl (Jvm.hb hb hd.1) rfl ((if0 cd x).trans hc) hj.1 hj.2 S
theorem Runs.icY {cd : ClassFile.Cond} {x y : Int32} {o : Int} {t nx : Nat} (hd : Ins code pc (.if_icmp cd o) 3 nx) (hj : Jmp pc o t) (hc : if_icmp.holds cd x y = true) (K : Runs w l Z EL n0 own nm code ml ret R Q D h kc ks t ls rest) : Runs w l Z EL n0 own nm code ml ret R Q D h kc ks pc ls (.int y :: .int x :: rest) :=
  K.plain fun p e m below c T tg hx hb X S => XS.icmpYes (g := mkF m pc ls (.int y :: .int x :: rest)) X hx rfl (pc0 := pc) rfl (Jvm.hb hb hd.1) rfl hc hj.1 hj.2 S
theorem Runs.nullY  {o : Int} {t nx : Nat} (hd : Ins code pc (.ifnull o) 3 nx) (hj : Jmp pc o t)  (K : Runs w l Z EL n0 own nm code ml ret R Q D h kc ks t ls rest) : Runs w l Z EL n0 own nm code ml ret R Q D h kc ks pc ls (.null :: rest) :=
  K.plain fun p e m below c T tg hx hb X S => XS.ifnullYes (g := mkF m pc ls (.null :: rest)) X hx rfl (pc0 := pc) rfl (Jvm.hb hb hd.1) rfl hj.1 hj.2 S
theorem Runs.nnullY {b : Addr} {o : Int} {t nx : Nat} (hd : Ins code pc (.ifnonnull o) 3 nx) (hj : Jmp pc o t)  (K : Runs w l Z EL n0 own nm code ml ret R Q D h kc ks t ls rest) : Runs w l Z EL n0 own nm code ml ret R Q D h kc ks pc ls (.ref b :: rest) :=
  K.plain fun p e m below c T tg hx hb X S => XT.ifnonnullYes (g := mkF m pc ls (.ref b :: rest)) X hx rfl (pc0 := pc) rfl (Jvm.hb hb hd.1) rfl hj.1 hj.2 S
theorem Runs.acY {cd : ClassFile.ACond} {x y : Value} {o : Int} {t nx : Nat} (hd : Ins code pc (.if_acmp cd o) 3 nx) (hj : Jmp pc o t) (hx' : x.isRef = true) (hy' : y.isRef = true) (hc : XT.acmp cd x y = true) (K : Runs w l Z EL n0 own nm code ml ret R Q D h kc ks t ls rest) : Runs w l Z EL n0 own nm code ml ret R Q D h kc ks pc ls (y :: x :: rest) :=
  K.plain fun p e m below c T tg hx hb X S => XT.acmpYes (g := mkF m pc ls (y :: x :: rest)) X hx rfl (pc0 := pc) rfl (Jvm.hb hb hd.1) rfl hx' hy' hc hj.1 hj.2 S
theorem Runs.ifN {cd : ClassFile.Cond} {o : Int} {x : Int32} (hd : Ins code pc (.ifCond cd o) 3 pc') (hc : if_icmp.holds cd x 0 = false) (K : Runs w l Z EL n0 own nm code ml ret R Q D h kc ks pc' ls rest) : Runs w l Z EL n0 own nm code ml ret R Q D h kc ks pc ls (.int x :: rest) := by
  obtain ⟨hd, rfl⟩ := hd
  exact K.plain fun p e m below c T t hx hb X S => XS.ifNo (g := mkF m pc ls (.int x :: rest)) X hx rfl (Jvm.hb hb hd) rfl ((if0 cd x).trans hc) S
theorem Runs.icN {cd : ClassFile.Cond} {o : Int} {x y : Int32} (hd : Ins code pc (.if_icmp cd o) 3 pc') (hc : if_icmp.holds cd x y = false) (K : Runs w l Z EL n0 own nm code ml ret R Q D h kc ks pc' ls rest) : Runs w l Z EL n0 own nm code ml ret R Q D h kc ks pc ls (.int y :: .int x :: rest) := by
  obtain ⟨hd, rfl⟩ := hd
  exact K.plain fun p e m below c T t hx hb X S => XS.icmpNo (g := mkF m pc ls (.int y :: .int x :: rest)) X hx rfl (Jvm.hb hb hd) rfl hc S
theorem Runs.nullN {o : Int} {b : Addr} (hd : Ins code pc (.ifnull o) 3 pc')  (K : Runs w l Z EL n0 own nm code ml ret R Q D h kc ks pc' ls rest) : Runs w l Z EL n0 own nm code ml ret R Q D h kc ks pc ls (.ref b :: rest) := by
  obtain ⟨hd, rfl⟩ := hd
  exact K.plain fun p e m below c T t hx hb X S => XS.ifnullNo (g := mkF m pc ls (.ref b :: rest)) X hx rfl (Jvm.hb hb hd) rfl S
theorem Runs.nnullN {o : Int} (hd : Ins code pc (.ifnonnull o) 3 pc')  (K : Runs w l Z EL n0 own nm code ml ret R Q D h kc ks pc' ls rest) : Runs w l Z EL n0 own nm code ml ret R Q D h kc ks pc ls (.null :: rest) := by
  obtain ⟨hd, rfl⟩ := hd
  exact K.plain fun p e m below c T t hx hb X S => XT.ifnonnullNo (g := mkF m pc ls (.null :: rest)) X hx rfl (Jvm.hb hb hd) rfl S
theorem Runs.acN {cd : ClassFile.ACond} {o : Int} {x y : Value} (hd : Ins code pc (.if_acmp cd o) 3 pc') (hx' : x.isRef = true) (hy' : y.isRef = true) (hc : XT.acmp cd x y = false) (K : Runs w l Z EL n0 own nm code ml ret R Q D h kc ks pc' ls rest) : Runs w l Z EL n0 own nm code ml ret R Q D h kc ks pc ls (y :: x :: rest) := by
  obtain ⟨hd, rfl⟩ := hd
  exact K.plain fun p e m below c T t hx hb X S => XT.acmpNo (g := mkF m pc ls (y :: x :: rest)) X hx rfl (Jvm.hb hb hd) rfl hx' hy' hc S

/-! the returns -/
theorem Runs.leave {v : Option Value} (hv : ret = none → v = none)
    (f : ∀ (p : Program) (e : Env) (s : State) (m : MethodId) (args : Array Value) (below : List Frame) (meth : Method) (c : Code) (T : State) (locs : List Loc), Ctx p s m meth c Z own nm code ml ret → Stand p l e R s m args below meth c T locs kc ks → ∀ fs : List Frame,
      (∀ (f : JFrame) (acts : List Action), f.method = m → f.locked = none → f.entered = [] → (doReturn e (T.setTop f) acts v).1 = T.setFrames fs) → Steps p.tables e below (T.setTop (mkF m pc ls st)) (T.setFrames fs))
    (hc : kc ≤ R.cells) (hk : ks ≤ R.slots) (hQ : Q v h D) : Runs w l Z EL n0 own nm code ml ret R Q D h kc ks pc ls st := by
  intro p e s vm0 m args below meth c T locs C X eT N O H
  have hlk : meth.locks = false := C.2.2.2.2.2.2.1
  have hr : meth.sig.returnType = ret := C.2.2.2.2.2.1
  obtain ⟨H1, ⟨a0, H2⟩, H3, H4⟩ := H
  have A := CHv.at X C.2.1 H2 H3.1
  have hs : ∀ x ∈ D, x < h.size ∧ Safe Z EL T.vm h x := fun x hx => ⟨(H4 x hx).1, A.safe (H4 x hx).1 (H4 x hx).2⟩
  have A' := H3.trans A
  subst eT
  cases w
  · have e1 : vm0 = s.vm := H1
    subst e1
    obtain ⟨fs, h1, h2, h3, h4, h5⟩ := X.leave (v := v) (fun q => hv (hr ▸ q)) hlk
    exact ⟨_, _, f p e _ m args below meth c T locs C X fs h1, h2, h3, v, locs, D, rfl, hQ, O, N, ⟨A', hs⟩, ⟨v, rfl⟩, h4, h5.mono hc hk⟩
  · obtain ⟨k0, hS, hk0⟩ := H1
    obtain ⟨fs, h1, h2, h3, ⟨g1, g2, g3, g4⟩⟩ := X.leaveW hS hk0 (v := v) (fun q => hv (hr ▸ q)) hlk
    exact ⟨_, _, f p e _ m args below meth c T locs C X fs h1, h2, h3, v, locs, D, rfl, hQ, O, N, ⟨A', hs⟩, g1, g2, g3, g4.mono hc hk⟩
theorem Runs.retV {nx : Nat} (hd : Ins code pc .return_ 1 nx) (hr : ret = none) (hc : kc ≤ R.cells) (hk : ks ≤ R.slots) (hQ : Q none h D) : Runs w l Z EL n0 own nm code ml ret R Q D h kc ks pc ls [] :=
  Runs.leave (v := none) (fun _ => rfl) (fun p e s m args below meth c T locs C X fs hl => X.returnOut C.1 (C.2.2.2.2.2.1.trans hr) (Jvm.hb C.2.2.1 hd.1) hl) hc hk hQ
theorem Runs.retI {nx : Nat} {t : FieldType} {x z : Int32} (hd : Ins code pc .ireturn 1 nx) (hr : ret = some t) (ht : t = .int ∨ t = .boolean ∨ t = .byte ∨ t = .char ∨ t = .short) (hn : narrow t (.int x) = .int z) (hc : kc ≤ R.cells) (hk : ks ≤ R.slots) (hQ : Q (some (.int z)) h D) : Runs w l Z EL n0 own nm code ml ret R Q D h kc ks pc ls [.int x] :=
  Runs.leave (v := some (.int z)) (fun q => by rw [hr] at q; cases q) (fun p e s m args below meth c T locs C X fs hl => by
    have hm' : T.vm.method? m = some meth := X.method'
    have hx := C.1
    have hd' := Jvm.hb C.2.2.1 hd.1
    have hret : meth.sig.returnType = some t := C.2.2.2.2.2.1.trans hr
    show Steps p.tables e below (T.setTop { method := m, pc := pc, locals := ls, stack := [_], locked := none }) _
    rcases ht with rfl | rfl | rfl | rfl | rfl
    all_goals
      jvm_step X.here [X.here.top, hx, hd', hm', hret, hn]
      first | (intro acts; rw [hl _ acts rfl rfl rfl]) | rw [hl _ _ rfl rfl rfl]
      exact Steps.refl _) hc hk hQ
theorem Runs.retA {nx : Nat} {t : FieldType} {x : Value} (hd : Ins code pc .areturn 1 nx) (hr : ret = some t) (ht : t.isReference = true) (hx : x.isRef = true) (hc : kc ≤ R.cells) (hk : ks ≤ R.slots) (hQ : Q (some x) h D) : Runs w l Z EL n0 own nm code ml ret R Q D h kc ks pc ls [x] :=
  Runs.leave (v := some x) (fun q => by rw [hr] at q; cases q) (fun p e s m args below meth c T locs C X fs hl =>
    RoadKit.retOut X C.1 (C.2.2.2.2.2.1.trans hr) (by cases x <;> first | rfl | (simp [Value.isRef] at hx; done) | (cases t <;> first | rfl | (simp [FieldType.isReference] at ht; done))) (Or.inr (Or.inr (Or.inr (Or.inr ⟨rfl, ht, hx⟩)))) (Jvm.hb C.2.2.1 hd.1) hl) hc hk hQ
theorem Runs.retJ {nx : Nat} {x : Int64} (hd : Ins code pc .lreturn 1 nx) (hr : ret = some .long) (hc : kc ≤ R.cells) (hk : ks ≤ R.slots) (hQ : Q (some (.long x)) h D) : Runs w l Z EL n0 own nm code ml ret R Q D h kc ks pc ls [.long x] :=
  Runs.leave (v := some (.long x)) (fun q => by rw [hr] at q; cases q) (fun p e s m args below meth c T locs C X fs hl =>
    RoadKit.retOut X C.1 (C.2.2.2.2.2.1.trans hr) rfl (Or.inr (Or.inl ⟨rfl, rfl, x, rfl⟩)) (Jvm.hb C.2.2.1 hd.1) hl) hc hk hQ
/-! statics, fields, constants -/
theorem Runs.getS {R0 O n d : String} {index : Nat} {v : Value} (hd : Ins code pc (.getstatic index) 3 pc') (wl : (Cond.fieldLink own index R0 n d).before a0 Z = true) (via : Via Z R0 O n d) (F : Sta Z Z.heap O n d v) (K : Runs w l Z EL n0 own nm code ml ret R Q D h kc ks pc' ls (v :: st)) : Runs w l Z EL n0 own nm code ml ret R Q D h kc ks pc ls st := by
  obtain ⟨hd, rfl⟩ := hd
  exact K.warm fun p e s m args below meth c T locs C X eT O => RoadKit.getS (host := "") X C.1 C.2.1 C.2.2.2.2.1 wl via eT (F.ext O.2) (g := mkF m pc ls st) rfl (Jvm.hb C.2.2.1 hd)
theorem Runs.getSN {R0 O n d host : String} {index : Nat} {v : Value} (hd : Ins code pc (.getstatic index) 3 pc') (wl : (Cond.fieldLinkNest own index R0 n d host).before a0 Z = true) (via : Via Z R0 O n d) (F : Sta Z Z.heap O n d v) (K : Runs w l Z EL n0 own nm code ml ret R Q D h kc ks pc' ls (v :: st)) : Runs w l Z EL n0 own nm code ml ret R Q D h kc ks pc ls st := by
  obtain ⟨hd, rfl⟩ := hd
  exact K.warm fun p e s m args below meth c T locs C X eT O => RoadKit.getS2 (host := host) X C.1 C.2.1 C.2.2.2.2.1 (Or.inr wl) via eT (F.ext O.2) (g := mkF m pc ls st) rfl (Jvm.hb C.2.2.1 hd)
theorem Runs.getF {R0 O n d host : String} {index : Nat} {a : Addr} {v : Value} (hd : Ins code pc (.getfield index) 3 pc') (wl : (Cond.fieldLink own index R0 n d).before a0 Z = true ∨ (Cond.fieldLinkNest own index R0 n d host).before a0 Z = true) (via : Via Z R0 O n d) (F : Fld Z h a O n d v) (K : Runs w l Z EL n0 own nm code ml ret R Q D h kc ks pc' ls (v :: rest)) : Runs w l Z EL n0 own nm code ml ret R Q D h kc ks pc ls (.ref a :: rest) := by
  obtain ⟨hd, rfl⟩ := hd
  exact K.warm fun p e s m args below meth c T locs C X eT O => RoadKit.getF X C.1 C.2.1 C.2.2.2.2.1 wl via eT F (g := mkF m pc ls (.ref a :: rest)) rfl rfl (Jvm.hb C.2.2.1 hd)
theorem Runs.ldcI {index : Nat} {v : Int32} (hd : Ins code pc (.ldc index) 2 pc') (wl : (Cond.constant own index v).before a0 Z = true) (K : Runs w l Z EL n0 own nm code ml ret R Q D h kc ks pc' ls (.int v :: st)) : Runs w l Z EL n0 own nm code ml ret R Q D h kc ks pc ls st := by
  obtain ⟨hd, rfl⟩ := hd
  exact K.warm fun p e s m args below meth c T locs C X eT O => ⟨T, X, eT, fun t S => X.ldcI C.1 C.2.2.2.2.1 (mv C.2.1 wl) (g := mkF m pc ls st) rfl (Jvm.hb C.2.2.1 hd) S⟩
theorem Runs.ldcJ {index : Nat} {v : Int64} (hd : Ins code pc (.ldc2_w index) 3 pc') (wl : (Cond.constantLong own index v).before a0 Z = true) (K : Runs w l Z EL n0 own nm code ml ret R Q D h kc ks pc' ls (.long v :: st)) : Runs w l Z EL n0 own nm code ml ret R Q D h kc ks pc ls st := by
  obtain ⟨hd, rfl⟩ := hd
  exact K.warm fun p e s m args below meth c T locs C X eT O => ⟨T, X, eT, fun t S => X.ldc2J C.1 C.2.2.2.2.1 (mv C.2.1 wl) (g := mkF m pc ls st) rfl (Jvm.hb C.2.2.1 hd) S⟩
end W


/-! objects, arrays -/
abbrev FV := String × String × String × Value
def FV.key (f : FV) : String × String × String := (f.1, f.2.1, f.2.2.1)
/-- the object at a is exactly a C; its fields fs hold what they say -/
def Obj (Z : State) (h : Heap) (a : Addr) (C : String) (fs : List FV) : Prop := Exa Z h a C ∧ ∀ f ∈ fs, Fld Z h a f.1 f.2.1 f.2.2.1 f.2.2.2
/-- the fields of a C, at their first values -/
def LayD (Z : State) (a0 : Array Value) (C : String) (dl : List FV) : Prop := (∀ f ∈ dl, Laid Z a0 C f.1 f.2.1 f.2.2.1 ∧ ∃ t, parseFieldDescriptor f.2.2.1 = some t ∧ defaultValue t = f.2.2.2) ∧ (dl.map fun f => f.2.1).Nodup
section H
variable {Z : State} {h h' : Heap} {a b : Addr} {C : String} {fs dl : List FV} {ws : List Addr} {a0 : Array Value}
theorem Obj.fld {i : Nat} {o n d : String} {v : Value} (O : Obj Z h a C fs) (hi : fs[i]? = some (o, n, d, v)) : Fld Z h a o n d v := O.2 _ (List.mem_of_getElem? hi)
theorem Obj.keep (O : Obj Z h a C fs) (K : Keep h h' ws) (q : a ∉ ws) : Obj Z h' a C fs := ⟨O.1.keep K, fun f hf => (O.2 f hf).keep K q⟩
theorem Obj.ext (O : Obj Z h a C fs) (E : Ext h h') : Obj Z h' a C fs := ⟨O.1.ext E, fun f hf => (O.2 f hf).ext E⟩
theorem Obj.lt (O : Obj Z h a C fs) : a < h.size := O.1.lt
theorem Obj.sub {gs : List FV} (O : Obj Z h a C fs) (q : ∀ f ∈ gs, f ∈ fs) : Obj Z h a C gs := ⟨O.1, fun f hf => O.2 f (q f hf)⟩
theorem keepE (E : Ext h h') : Keep h h' ws := (Keep.refl h ws).ext E
theorem Keep.sub {ws' : List Addr} (K : Keep h h' ws) (q : ∀ x ∈ ws, x ∈ ws') : Keep h h' ws' := ⟨K.1, fun x c e r => K.2.1 x c e fun z => r (q x z), K.2.2⟩
theorem nodup_key : ∀ {dl : List FV} {i j : Nat} {f g : FV}, (dl.map fun f => f.2.1).Nodup → dl[i]? = some f → dl[j]? = some g → i ≠ j → f.2.1 ≠ g.2.1 := by
  intro dl i j f g hn hi hj hij he
  obtain ⟨h1, e1⟩ := List.getElem?_eq_some_iff.mp hi
  obtain ⟨h2, e2⟩ := List.getElem?_eq_some_iff.mp hj
  have hp := List.pairwise_iff_getElem.mp hn
  rcases Nat.lt_or_gt_of_ne hij with q | q
  · exact hp i j (by simpa using h1) (by simpa using h2) q (by simp only [List.getElem_map, e1, e2]; exact he)
  · exact hp j i (by simpa using h2) (by simpa using h1) q (by simp only [List.getElem_map, e1, e2]; exact he.symm)
theorem Obj.put {i : Nat} {o n d : String} {old v : Value} (O : Obj Z h a C fs) (hi : fs[i]? = some (o, n, d, old)) (L : LayD Z a0 C dl) (hk : fs.map FV.key = dl.map FV.key) (W : Wr h h' a (RoadKit.slotOf Z o n d) v) : Obj Z h' a C (fs.set i (o, n, d, v)) := by
  refine ⟨O.1.wr W, fun f hf => ?_⟩
  obtain ⟨j, hj⟩ := List.mem_iff_getElem?.mp hf
  by_cases e : i = j
  · subst e
    rw [List.getElem?_set_self (by exact (List.getElem?_eq_some_iff.mp hi).1)] at hj
    cases hj
    exact (O.fld hi).same W
  · rw [List.getElem?_set_ne e] at hj
    obtain ⟨o', n', d', v'⟩ := f
    have F := O.fld hj
    have key : ∀ {k : Nat} {g : FV}, fs[k]? = some g → ∃ g' : FV, dl[k]? = some g' ∧ g'.key = g.key := fun {k g} q => by
      have q' : (fs.map FV.key)[k]? = some g.key := by simp [q]
      rw [hk, List.getElem?_map] at q'
      cases hd : dl[k]? with
      | none => simp [hd] at q'
      | some g' => exact ⟨g', rfl, by simpa [hd] using q'⟩
    obtain ⟨f1, q1, k1⟩ := key hi
    obtain ⟨f2, q2, k2⟩ := key hj
    have hne := nodup_key L.2 q1 q2 e
    obtain ⟨L1, t1, p1, -⟩ := L.1 f1 (List.mem_of_getElem? q1)
    obtain ⟨L2, t2, p2, -⟩ := L.1 f2 (List.mem_of_getElem? q2)
    simp only [FV.key, Prod.mk.injEq] at k1 k2
    obtain ⟨a1, b1, c1⟩ := k1
    obtain ⟨a2, b2, c2⟩ := k2
    rw [a1, b1, c1] at L1; rw [a2, b2, c2] at L2; rw [c1] at p1; rw [c2] at p2
    exact F.other W (Or.inr (slot_ne L2 L1 (by rw [← b1, ← b2]; exact fun z => hne z.symm) p2 p1))
end H
section W2
variable {w : Bool} {l : Launch} {Z : State} {EL : List (String × Nat)} {n0 : Nat} {own nm : String} {code : ByteArray} {ml : Nat} {ret : Option FieldType} {R : Room} {Q : Option Value → Heap → List Addr → Prop} {D : List Addr} {h h' : Heap} {kc ks pc pc' : Nat} {ls ls' : Array Slot} {st st' rest : List Value} {a0 : Array Value} {s : State} {vm0 : Vm}
theorem Hid.keep {ws : List Addr} (H : Hid w Z EL D s vm0 h) (K : Keep h h' ws) (q : ∀ x ∈ ws, Safe Z EL vm0 h x) : Hid w Z EL D s vm0 h' := by
  obtain ⟨H1, H2, H3, H4⟩ := H
  refine ⟨?_, H2, H3.trans (CHr.keep K q H3.1), fun x hx => ⟨Nat.lt_of_lt_of_le (H4 x hx).1 K.1, (H4 x hx).2.keep K q H3.1⟩⟩
  split
  · rename_i e; rw [if_pos e] at H1; obtain ⟨k0, g1, g2⟩ := H1; exact ⟨k0, g1, Nat.le_trans g2 K.1⟩
  · rename_i e; rw [if_neg e] at H1; exact H1
theorem Hid.more {b : Addr} (H : Hid w Z EL D s vm0 h) (E : Ext h h') (hb : h.size ≤ b) (hb' : b < h'.size) : Hid w Z EL (b :: D) s vm0 h' := by
  have H' := H.keep (keepE (ws := []) E) (fun x q => nomatch q)
  refine ⟨H'.1, H'.2.1, H'.2.2.1, fun x hx => ?_⟩
  rcases List.mem_cons.mp hx with rfl | hx
  · exact ⟨hb', (Safe.new hb).ext E H.2.2.1.1⟩
  · exact H'.2.2.2 x hx
/-- a step that writes one old place, or none -/
theorem Runs.write {ws : List Addr} {P : Heap → Prop} (hg : ∀ x ∈ ws, n0 ≤ x) (hs : ∀ vm0 : Vm, Z.vm.Alike vm0 → (∀ x ∈ D, Safe Z EL vm0 h x) → ∀ x ∈ ws, Safe Z EL vm0 h x)
    (K : ∀ h', Keep h h' ws → P h' → Runs w l Z EL n0 own nm code ml ret R Q D h' kc ks pc' ls' st')
    (f : ∀ (p : Program) (e : Env) (s : State) (m : MethodId) (args : Array Value) (below : List Frame) (meth : Method) (c : Code) (T : State) (locs : List Loc), Ctx p s m meth c Z own nm code ml ret → Stand p l e R s m args below meth c T locs kc ks → T.heap = h → Old Z n0 h → Fr n0 locs →
      ∃ T' locs', Stand p l e R s m args below meth c T' locs' kc ks ∧ Fr n0 locs' ∧ Keep h T'.heap ws ∧ P T'.heap ∧ ∀ target, Steps p.tables e below (T'.setTop (mkF m pc' ls' st')) target → Steps p.tables e below (T.setTop (mkF m pc ls st)) target) : Runs w l Z EL n0 own nm code ml ret R Q D h kc ks pc ls st := by
  intro p e s vm0 m args below meth c T locs C X eT N O H
  obtain ⟨T', locs', X', N', K', P', S'⟩ := f p e _ m args below meth c T locs C X eT O N
  obtain ⟨s₂, o, S, r⟩ := K _ K' P' p e s vm0 m args below meth c T' locs' C X' rfl N' (O.keep K' hg) (H.keep K' (hs vm0 C.2.1.alike (fun x hx => (H.2.2.2 x hx).2)))
  exact ⟨s₂, o, S' _ S, r⟩
theorem safeC {a : Addr} {C : String} (E : Exa Z h a C) (hs : a ∈ D ∨ (C ≠ "java/lang/String" ∧ C ≠ "[B")) : ∀ vm0 : Vm, Z.vm.Alike vm0 → (∀ x ∈ D, Safe Z EL vm0 h x) → ∀ x ∈ [a], Safe Z EL vm0 h x := fun vm0 hal hD x hx => by
  cases List.mem_singleton.mp hx
  rcases hs with hs | hs
  · exact hD _ hs
  · exact Safe.exa hal E hs.1 hs.2
theorem safeA {a : Addr} {k : ClassId} {ty : FieldType} {z : Int32} {vs : List Value} {d : Value} (A : Arv Z h a k ty z vs d) (hs : a ∈ D ∨ ty ≠ .byte) : ∀ vm0 : Vm, Z.vm.Alike vm0 → (∀ x ∈ D, Safe Z EL vm0 h x) → ∀ x ∈ [a], Safe Z EL vm0 h x := fun vm0 hal hD x hx => by
  cases List.mem_singleton.mp hx
  rcases hs with hs | hs
  · exact hD _ hs
  · exact Safe.arv hal A hs
theorem one_ge {a : Addr} (hg : n0 ≤ a) : ∀ x ∈ [a], n0 ≤ x := fun x hx => by cases List.mem_singleton.mp hx; exact hg
theorem Runs.putF {R0 O n d host C : String} {index kk i : Nat} {ty : FieldType} {a : Addr} {v old : Value} {fs dl : List FV} (hd : Ins code pc (.putfield index) 3 pc') (wl : (Cond.fieldLink own index R0 n d).before a0 Z = true ∨ (Cond.fieldLinkNest own index R0 n d host).before a0 Z = true) (via : Via Z R0 O n d)
    (B : Obj Z h a C fs) (hi : fs[i]? = some (O, n, d, old)) (LD : LayD Z a0 C dl) (hk : fs.map FV.key = dl.map FV.key) (L : (Cond.lays C O n d).before a0 Z = true ∨ ((Cond.laysFinal C O n d).before a0 Z = true ∧ own = O ∧ nm = "<init>")) (wi : (Cond.instantiable C kk).before a0 Z = true)
    (hty : parseFieldDescriptor d = some ty) (hn : narrow ty v = v) (hf : fits ty v = true) (hg : n0 ≤ a) (hs : a ∈ D ∨ (C ≠ "java/lang/String" ∧ C ≠ "[B"))
    (K : ∀ h', Keep h h' [a] → Obj Z h' a C (fs.set i (O, n, d, v)) → Runs w l Z EL n0 own nm code ml ret R Q D h' kc ks pc' ls rest) : Runs w l Z EL n0 own nm code ml ret R Q D h kc ks pc ls (v :: .ref a :: rest) := by
  obtain ⟨hd, rfl⟩ := hd
  refine Runs.write (P := fun h' => Obj Z h' a C (fs.set i (O, n, d, v))) (one_ge hg) (safeC B.1 hs) K fun p e s m args below meth c T locs Cx X eT Ol N => ?_
  obtain ⟨T', h1, X', e1, W1, S1⟩ := RoadKit.putF X Cx.1 Cx.2.1 Cx.2.2.2.2.1 wl via eT (B.fld hi) B.1 (L.imp id fun q => ⟨q.1, q.2.1, Cx.2.2.2.2.2.2.2.trans q.2.2⟩) wi hty hn hf (g := mkF m pc ls (v :: .ref a :: rest)) rfl rfl (Jvm.hb Cx.2.2.1 hd)
  subst e1
  exact ⟨T', _, X', Fr.snoc X' N hg, Keep.of_wr W1, B.put hi LD hk W1, S1⟩
theorem Runs.newO {C : String} {index n : Nat} {dl : List FV} (hd : Ins code pc (.new index) 3 pc') (w1 : (Cond.classLink own index C).before a0 Z = true) (w2 : (Cond.instantiable C n).before a0 Z = true) (w3 : (Cond.initialized C).before a0 Z = true) (LD : LayD Z a0 C dl) (hc : kc + 1 ≤ R.cells) (hl : ks + n ≤ R.slots)
    (K : ∀ h' b, h.size ≤ b → n0 ≤ b → Keep h h' [] → Obj Z h' b C dl → Unt h' b → Runs w l Z EL n0 own nm code ml ret R Q (b :: D) h' (kc + 1) (ks + n) pc' ls (.ref b :: st)) : Runs w l Z EL n0 own nm code ml ret R Q D h kc ks pc ls st := by
  obtain ⟨hd, rfl⟩ := hd
  intro p e s vm0 m args below meth c T locs C' X eT N O H
  obtain ⟨T', h1, X', e1, E1, A1, D1, U1, S1⟩ := RoadKit.newO X C'.1 C'.2.1 C'.2.2.2.2.1 w1 w2 w3 eT (g := mkF m pc ls st) rfl (Jvm.hb C'.2.2.1 hd) hc hl
  subst e1
  have hO : n0 ≤ h.size := by rw [← O.1]; exact O.2.1
  obtain ⟨s₂, o, S, r⟩ := K _ h.size (Nat.le_refl _) hO (keepE E1) ⟨A1, fun f hf => by obtain ⟨L1, t, p1, d1⟩ := LD.1 f hf; rw [← d1]; exact D1 L1 p1⟩ U1 p e s vm0 m args below meth c T' locs C' X' rfl N (O.ext E1) (H.more E1 (Nat.le_refl _) A1.lt)
  exact ⟨s₂, o, S1 _ S, r⟩
theorem Runs.newP {aty : ArrayType} {n : Int32} {cap : Nat} {ad : String} (hd : Ins code pc (.newarray aty) 2 pc') (w1 : (Cond.arrayClass (newarray.typeOf aty)).before a0 Z = true) (hn : ¬ n < 0) (hcap : n.toNatClampNeg ≤ cap) (hb : cap * 8 ≤ 536870912) (hc : kc + 1 ≤ R.cells) (hl : ks + cap ≤ R.slots) (had : "[" ++ (newarray.typeOf aty).toString = ad)
    (K : ∀ h' b k, h.size ≤ b → n0 ≤ b → Keep h h' [] → Arv Z h' b k (newarray.typeOf aty) n [] (defaultValue (newarray.typeOf aty)) → Exa Z h' b ad → Runs w l Z EL n0 own nm code ml ret R Q (b :: D) h' (kc + 1) (ks + cap) pc' ls (.ref b :: rest)) : Runs w l Z EL n0 own nm code ml ret R Q D h kc ks pc ls (.int n :: rest) := by
  obtain ⟨hd, rfl⟩ := hd
  intro p e s vm0 m args below meth c T locs C' X eT N O H
  obtain ⟨T', h1, cA, X', e1, E1, A1, x1, S1⟩ := RoadKit.newPE X C'.1 C'.2.1 w1 eT (g := mkF m pc ls (.int n :: rest)) rfl (Jvm.hb C'.2.2.1 hd) rfl hn hcap hb hc hl had
  subst e1
  have hO : n0 ≤ h.size := by rw [← O.1]; exact O.2.1
  obtain ⟨s₂, o, S, r⟩ := K _ h.size cA (Nat.le_refl _) hO (keepE E1) (Arv.new A1 hn) x1 p e s vm0 m args below meth c T' locs C' X' rfl N (O.ext E1) (H.more E1 (Nat.le_refl _) x1.lt)
  exact ⟨s₂, o, S1 _ S, r⟩
theorem Runs.arrlen {a : Addr} {k : ClassId} {ty : FieldType} {z : Int32} {vs : List Value} {d : Value} (hd : Ins code pc .arraylength 1 pc') (A : Arv Z h a k ty z vs d) (K : Runs w l Z EL n0 own nm code ml ret R Q D h kc ks pc' ls (.int z :: rest)) : Runs w l Z EL n0 own nm code ml ret R Q D h kc ks pc ls (.ref a :: rest) := by
  obtain ⟨hd, rfl⟩ := hd
  obtain ⟨cl, A1, -, S1, q, -⟩ := A
  refine K.warm fun p e s m args below meth c T locs C X eT O => ⟨T, X, eT, fun t S => X.arraylength C.1 (by rw [eT]; exact A1.1) (State.isArrayOf_alike C.2.1.alike A1.2.1) (g := mkF m pc ls (.ref a :: rest)) rfl rfl (Jvm.hb C.2.2.1 hd) t ?_⟩
  rw [len_of S1 q]; exact S

theorem Runs.baload {a : Addr} {k : ClassId} {z j : Int32} {vs : List Value} {d v : Value} (hd : Ins code pc .baload 1 pc') (A : Arv Z h a k .byte z vs d) (hj : ¬ j < 0 ∧ j < z) (hv : vs.getD j.toNatClampNeg d = v) (K : Runs w l Z EL n0 own nm code ml ret R Q D h kc ks pc' ls (v :: rest)) : Runs w l Z EL n0 own nm code ml ret R Q D h kc ks pc ls (.int j :: .ref a :: rest) := by
  obtain ⟨hd, rfl⟩ := hd
  obtain ⟨cl, A1, -, S1, q, H1, -⟩ := A
  have hin := inb_of S1 hj
  exact K.warm fun p e s m args below meth c T locs C X eT O => ⟨T, X, eT, fun t S => X.baloadBytes C.1 (by rw [eT]; exact A1.1) (State.isArrayOf_alike C.2.1.alike A1.2.1) A1.2.2 hin (H1.at hin hv) (g := mkF m pc ls (.int j :: .ref a :: rest)) rfl rfl (Jvm.hb C.2.2.1 hd) t S⟩
theorem Runs.caload {a : Addr} {k : ClassId} {z j : Int32} {vs : List Value} {d v : Value} (hd : Ins code pc .caload 1 pc') (A : Arv Z h a k .char z vs d) (hj : ¬ j < 0 ∧ j < z) (hv : vs.getD j.toNatClampNeg d = v) (K : Runs w l Z EL n0 own nm code ml ret R Q D h kc ks pc' ls (v :: rest)) : Runs w l Z EL n0 own nm code ml ret R Q D h kc ks pc ls (.int j :: .ref a :: rest) := by
  obtain ⟨hd, rfl⟩ := hd
  obtain ⟨cl, A1, -, S1, q, H1, -⟩ := A
  have hin := inb_of S1 hj
  exact K.warm fun p e s m args below meth c T locs C X eT O => ⟨T, X, eT, fun t S => X.caload C.1 (by rw [eT]; exact A1.1) (State.isArrayOf_alike C.2.1.alike A1.2.1) A1.2.2 hin (H1.at hin hv) (g := mkF m pc ls (.int j :: .ref a :: rest)) rfl rfl (Jvm.hb C.2.2.1 hd) t S⟩
theorem Runs.iaload {a : Addr} {k : ClassId} {z j : Int32} {vs : List Value} {d v : Value} (hd : Ins code pc .iaload 1 pc') (A : Arv Z h a k .int z vs d) (hj : ¬ j < 0 ∧ j < z) (hv : vs.getD j.toNatClampNeg d = v) (K : Runs w l Z EL n0 own nm code ml ret R Q D h kc ks pc' ls (v :: rest)) : Runs w l Z EL n0 own nm code ml ret R Q D h kc ks pc ls (.int j :: .ref a :: rest) := by
  obtain ⟨hd, rfl⟩ := hd
  obtain ⟨cl, A1, -, S1, q, H1, -⟩ := A
  have hin := inb_of S1 hj
  exact K.warm fun p e s m args below meth c T locs C X eT O => ⟨T, X, eT, fun t S => X.iaload C.1 (by rw [eT]; exact A1.1) (State.isArrayOf_alike C.2.1.alike A1.2.1) A1.2.2 hin (H1.at hin hv) (g := mkF m pc ls (.int j :: .ref a :: rest)) rfl rfl (Jvm.hb C.2.2.1 hd) t S⟩
theorem Runs.aaload {a : Addr} {k : ClassId} {z j : Int32} {vs : List Value} {d v : Value} {ty : FieldType} (hd : Ins code pc .aaload 1 pc') (A : Arv Z h a k ty z vs d) (hty : ty.isReference = true) (hj : ¬ j < 0 ∧ j < z) (hv : vs.getD j.toNatClampNeg d = v) (K : Runs w l Z EL n0 own nm code ml ret R Q D h kc ks pc' ls (v :: rest)) : Runs w l Z EL n0 own nm code ml ret R Q D h kc ks pc ls (.int j :: .ref a :: rest) := by
  obtain ⟨hd, rfl⟩ := hd
  obtain ⟨cl, A1, -, S1, q, H1, -⟩ := A
  have hin := inb_of S1 hj
  exact K.warm fun p e s m args below meth c T locs C X eT O => ⟨T, X, eT, fun t S => X.aaload C.1 (by rw [eT]; exact A1.1) (State.isArrayOf_alike C.2.1.alike A1.2.1) hty A1.2.2 hin (H1.at hin hv) (g := mkF m pc ls (.int j :: .ref a :: rest)) rfl rfl (Jvm.hb C.2.2.1 hd) t S⟩
theorem Runs.bastore {a : Addr} {k : ClassId} {z j x y : Int32} {vs : List Value} {d : Value} {i : Nat} (hd : Ins code pc .bastore 1 pc') (A : Arv Z h a k .byte z vs d) (hj : ¬ j < 0 ∧ j < z) (hi : j.toNatClampNeg = i) (hil : i < vs.length) (hy : x.toInt8.toInt32 = y) (hg : n0 ≤ a) (hs : a ∈ D ∨ (.byte : FieldType) ≠ .byte) (K : ∀ h', Keep h h' [a] → Arv Z h' a k .byte z (vs.set i (.int y)) d → Runs w l Z EL n0 own nm code ml ret R Q D h' kc ks pc' ls rest) : Runs w l Z EL n0 own nm code ml ret R Q D h kc ks pc ls (.int x :: .int j :: .ref a :: rest) := by
  obtain ⟨hd, rfl⟩ := hd
  subst hy
  refine Runs.write (P := fun h' => Arv Z h' a k .byte z (vs.set i (.int (x.toInt8.toInt32))) d) (one_ge hg) (safeA A hs) K fun p e s m args below meth c T locs Cx X eT Ol N => ?_
  obtain ⟨cl, A1, q1, S1, q, H1, G1⟩ := A
  obtain ⟨T', h1, X', e1, W1, st1⟩ := RoadKit.stB X Cx.1 Cx.2.1 eT A1 (inb_of S1 hj) (g := mkF m pc ls (.int x :: .int j :: .ref a :: rest)) rfl rfl (Jvm.hb Cx.2.2.1 hd)
  subst e1
  exact ⟨T', _, X', Fr.snoc X' N hg, Keep.of_wr W1, Arv.set A1 q1 S1 q H1 G1 (fits_nar_byte x) W1 i hi hil, st1⟩
theorem Runs.castore {a : Addr} {k : ClassId} {z j x y : Int32} {vs : List Value} {d : Value} {i : Nat} (hd : Ins code pc .castore 1 pc') (A : Arv Z h a k .char z vs d) (hj : ¬ j < 0 ∧ j < z) (hi : j.toNatClampNeg = i) (hil : i < vs.length) (hy : nar .char x = y) (hg : n0 ≤ a) (hs : a ∈ D ∨ (.char : FieldType) ≠ .byte) (K : ∀ h', Keep h h' [a] → Arv Z h' a k .char z (vs.set i (.int y)) d → Runs w l Z EL n0 own nm code ml ret R Q D h' kc ks pc' ls rest) : Runs w l Z EL n0 own nm code ml ret R Q D h kc ks pc ls (.int x :: .int j :: .ref a :: rest) := by
  obtain ⟨hd, rfl⟩ := hd
  subst hy
  refine Runs.write (P := fun h' => Arv Z h' a k .char z (vs.set i (.int (nar .char x))) d) (one_ge hg) (safeA A hs) K fun p e s m args below meth c T locs Cx X eT Ol N => ?_
  obtain ⟨cl, A1, q1, S1, q, H1, G1⟩ := A
  obtain ⟨T', h1, X', e1, W1, st1⟩ := RoadKit.stC X Cx.1 Cx.2.1 eT A1 (inb_of S1 hj) (g := mkF m pc ls (.int x :: .int j :: .ref a :: rest)) rfl rfl (Jvm.hb Cx.2.2.1 hd)
  subst e1
  exact ⟨T', _, X', Fr.snoc X' N hg, Keep.of_wr W1, Arv.set A1 q1 S1 q H1 G1 (fits_nar_char x) W1 i hi hil, st1⟩
theorem Runs.iastore {a : Addr} {k : ClassId} {z j x y : Int32} {vs : List Value} {d : Value} {i : Nat} (hd : Ins code pc .iastore 1 pc') (A : Arv Z h a k .int z vs d) (hj : ¬ j < 0 ∧ j < z) (hi : j.toNatClampNeg = i) (hil : i < vs.length) (hy : x = y) (hg : n0 ≤ a) (hs : a ∈ D ∨ (.int : FieldType) ≠ .byte) (K : ∀ h', Keep h h' [a] → Arv Z h' a k .int z (vs.set i (.int y)) d → Runs w l Z EL n0 own nm code ml ret R Q D h' kc ks pc' ls rest) : Runs w l Z EL n0 own nm code ml ret R Q D h kc ks pc ls (.int x :: .int j :: .ref a :: rest) := by
  obtain ⟨hd, rfl⟩ := hd
  subst hy
  refine Runs.write (P := fun h' => Arv Z h' a k .int z (vs.set i (.int (x))) d) (one_ge hg) (safeA A hs) K fun p e s m args below meth c T locs Cx X eT Ol N => ?_
  obtain ⟨cl, A1, q1, S1, q, H1, G1⟩ := A
  obtain ⟨T', h1, X', e1, W1, st1⟩ := RoadKit.stI X Cx.1 Cx.2.1 eT A1 (inb_of S1 hj) (g := mkF m pc ls (.int x :: .int j :: .ref a :: rest)) rfl rfl (Jvm.hb Cx.2.2.1 hd)
  subst e1
  exact ⟨T', _, X', Fr.snoc X' N hg, Keep.of_wr W1, Arv.set A1 q1 S1 q H1 G1 (rfl) W1 i hi hil, st1⟩

theorem Runs.initO {idx W : Nat} {a : Addr} (hd : Ins code pc (.invokespecial idx) 3 pc') (w1 : (Cond.methodLink own idx Lib.objectInit).before a0 Z = true) (w2 : (Cond.instanceMethod Lib.objectInit).before a0 Z = true) (w3 : (Cond.code Lib.objectInit ⟨#[0xb1]⟩ 1 none).before a0 Z = true) (hls : ls.size = ml) (hf : 1 ≤ R.frames) (hW : (rest.map fun v => v.category).sum = W) (hl : W + 12 ≤ R.locals)
    (K : Runs w l Z EL n0 own nm code ml ret R Q D h kc ks pc' ls rest) : Runs w l Z EL n0 own nm code ml ret R Q D h kc ks pc ls (.ref a :: rest) := by
  obtain ⟨hd, rfl⟩ := hd
  exact K.warm fun p e s m args below meth c T locs C X eT O => RoadKit.initO X C.1 C.2.1 C.2.2.2.2.1 w1 w2 w3 eT (g := mkF m pc ls (.ref a :: rest)) rfl (by rw [C.2.2.2.1]; exact hls) rfl (Jvm.hb C.2.2.1 hd) hf (W := W) (by show 2 * 0 + _ ≤ _; omega) hl
end W2


/-! calls by a contract: no constant is interned (w = false) -/
section P
variable {l : Launch} {Z : State} {n0 : Nat} {own nm : String} {code : ByteArray} {ml : Nat} {ret : Option FieldType} {R : Room} {Q : Option Value → Heap → List Addr → Prop} {D : List Addr} {h : Heap} {kc ks pc pc' : Nat} {ls : Array Slot} {st rest : List Value} {a0 : Array Value}
theorem ch0 {vm : Vm} {h : Heap} : CHv Z [] vm h := fun p hp => by cases hp
theorem safe0 {vm : Vm} {h : Heap} {x : Addr} : Safe Z [] vm h x := fun ⟨p, hp, _⟩ => by cases hp
theorem chr0 {vm vm1 : Vm} {h h1 : Heap} (q : h.size ≤ h1.size) : CHr Z [] vm h vm1 h1 := ⟨ch0, q, fun _ ⟨p, hp, _⟩ => by cases hp⟩
theorem hid0 {s : State} {h : Heap} (q : s.heap.size ≤ h.size) (hD : ∀ x ∈ D, x < h.size) : Hid false Z [] D s s.vm h := ⟨rfl, ⟨#[], EW.nil⟩, chr0 q, fun x hx => ⟨hD x hx, safe0⟩⟩
/-- a callee's contract as what the call laws ask -/
theorem Con.back {p : Program} {e : Env} {s : State} {args : Array Value} {below : List Frame} {y : MethodName} {bytes : ByteArray} {maxL : Nat} {rt : Option FieldType} {rm : Room} {as' : Array Value} {Q' : Option Value → Heap → List Addr → Prop} {len W : Nat}
    (H : Con false l Z [] n0 y bytes maxL rt rm as' D h Q') (hO : Old Z n0 h) (hD : ∀ x ∈ D, x < h.size) (hZ : Z.Warmed39 s.vm) (wc : (Cond.code y bytes maxL rt).before a0 Z = true) (wz : (Cond.initialized y.cls).before a0 Z = true) (hf : rm.frames + 1 ≤ R.frames) (hl : W + (maxL + 11) + rm.locals ≤ R.locals) :
    Back l R p e below s args y len W (fun A a => a = as' ∧ A.U.heap = h ∧ A.cells + rm.cells ≤ R.cells ∧ A.slots + rm.slots ≤ R.slots)
      (fun A _ v B => ∃ L D', Q' v B.U.heap D' ∧ Old Z n0 B.U.heap ∧ Fr n0 L ∧ h.size ≤ B.U.heap.size ∧ (∀ x ∈ D', x < B.U.heap.size) ∧ B.locs = A.locs ++ L ∧ B.cells = A.cells + rm.cells ∧ B.slots = A.slots + rm.slots) :=
  Back.of_free (bytes := bytes) (maxL := maxL) (ret := rt) (E := fun _ first o t L k n => k = rm.cells ∧ n = rm.slots ∧ ∃ v D', o = .returned v ∧ Q' v t.heap D' ∧ Old Z n0 t.heap ∧ Fr n0 L ∧ first.heap.size ≤ t.heap.size ∧ ∀ x ∈ D', x < t.heap.size) (H []) hf hl
    (fun m meth c A a Y hp => have hU : Z.Warmed39 A.U.vm := wtrans hZ Y.warmed
      ⟨by show (Cond.and _ .tt).before a A.U = true; rw [Cond.before_and, mv hU wc]; rfl, mv hU wc, mv hU wz, hp.2.2.1, hp.2.2.2⟩)
    (fun m meth c A a g mk Y hp => ⟨hp.1, wtrans hZ Y.warmed, hp.2.1, hO, ⟨#[], EW.nil⟩, ch0, fun x hx => ⟨hD x hx, safe0⟩⟩) (fun _ _ _ _ _ _ _ _ _ => trivial)
    (fun _ _ _ _ ⟨v, L, D', h1, h2, h3, h4, h5, h6⟩ => ⟨L, _, _, h6, rfl, rfl, v, D', h1, h2, h3, h4, h5.1.2.1, fun x hx => (h5.2 x hx).1⟩)
    (fun m meth c A a g mk v t L k n Y hp _ _ ⟨e1, e2, v', D', e3, e4, e5, e6, e7, e8⟩ => by
      cases e3; subst e1 e2
      exact ⟨L, D', e4, e5, e6, by rw [← hp.2.1]; exact e7, e8, rfl, rfl, rfl⟩)
/-- the walk goes on behind a call -/
theorem goOn {p : Program} {e : Env} {s : State} {m : MethodId} {args : Array Value} {below : List Frame} {meth : Method} {c : Code} {T : State} {locs : List Loc} {Q' : Option Value → Heap → List Addr → Prop} {kc' ks' : Nat}
    (K : ∀ v h' D', Q' v h' D' → h.size ≤ h'.size → Runs false l Z [] n0 own nm code ml ret R Q (D' ++ D) h' kc' ks' pc' ls (v.toList ++ rest))
    (C : Ctx p s m meth c Z own nm code ml ret) (hs : s.heap.size ≤ h.size) (hD : ∀ x ∈ D, x < h.size) (N : Fr n0 locs) {v : Option Value} {B : Pt} (X : Stand p l e R s m args below meth c B.U B.locs B.cells B.slots)
    (P : ∃ L D', Q' v B.U.heap D' ∧ Old Z n0 B.U.heap ∧ Fr n0 L ∧ h.size ≤ B.U.heap.size ∧ (∀ x ∈ D', x < B.U.heap.size) ∧ B.locs = locs ++ L ∧ B.cells = kc' ∧ B.slots = ks')
    (S : ∀ target, Steps p.tables e below (B.U.setTop (mkF m pc' ls (v.toList ++ rest))) target → Steps p.tables e below (T.setTop (mkF m pc ls st)) target) :
    ∃ s₂ o, Steps p.tables e below (T.setTop (mkF m pc ls st)) s₂ ∧ s₂.status = .running ∧ Ended s₂ below o ∧ Done false Z [] n0 R Q s o s₂ := by
  obtain ⟨L, D', h1, h2, h3, h4, h5, h6, h7, h8⟩ := P
  obtain ⟨U, Ls, kk, nn⟩ := B
  dsimp only [Pt.U, Pt.locs, Pt.cells, Pt.slots] at *
  subst h6 h7 h8
  obtain ⟨s₂, o, S₂, r⟩ := K v U.heap D' h1 h4 p e s s.vm m args below meth c U _ C X rfl (N.app h3) h2 (hid0 (Nat.le_trans hs h4) (fun x hx => (List.mem_append.mp hx).elim (h5 x) (fun q => Nat.lt_of_lt_of_le (hD x q) h4)))
  exact ⟨s₂, o, S _ S₂, r⟩
theorem Runs.callS {y : MethodName} {index : Nat} {bytes : ByteArray} {maxL : Nat} {rt : Option FieldType} {rm : Room} {argsL : List Value} {Q' : Option Value → Heap → List Addr → Prop} {W : Nat} {ps : List FieldType} {rr : Option FieldType}
    (hd : Ins code pc (.invokestatic index) 3 pc') (w1 : (Cond.methodLink own index y).before a0 Z = true) (w2 : (Cond.static y).before a0 Z = true) (w3 : (Cond.initialized y.cls).before a0 Z = true) (w4 : (Cond.code y bytes maxL rt).before a0 Z = true) (hy : y.cls ≠ "java/lang/invoke/MethodHandle" ∧ y.cls ≠ "java/lang/invoke/VarHandle")
    (pd : parseMethodDescriptor y.desc = some ⟨ps, rr⟩) (hn : argsL.length = ps.length) (hls : ls.size = ml) (hst : st = argsL.reverse ++ rest) (hW : (rest.map fun v => v.category).sum = W) (hf : rm.frames + 1 ≤ R.frames) (hl : W + (maxL + 11) + rm.locals ≤ R.locals) (hc : kc + rm.cells ≤ R.cells) (hs : ks + rm.slots ≤ R.slots)
    {D0 : List Addr} (hD0 : ∀ x ∈ D0, x ∈ D) (H : Con false l Z [] n0 y bytes maxL rt rm argsL.toArray D0 h Q')
    (K : ∀ v h' D', Q' v h' D' → h.size ≤ h'.size → Runs false l Z [] n0 own nm code ml ret R Q (D' ++ D) h' (kc + rm.cells) (ks + rm.slots) pc' ls (v.toList ++ rest)) : Runs false l Z [] n0 own nm code ml ret R Q D h kc ks pc ls st := by
  obtain ⟨hd, rfl⟩ := hd
  intro p e s vm0 m args below meth c T locs C X eT N O Hd
  obtain ⟨e1, -, H3, H4⟩ := Hd
  have e1 : vm0 = s.vm := e1
  subst e1
  have hD : ∀ x ∈ D, x < h.size := fun x hx => (H4 x hx).1
  have C' : Ctx p s m meth c Z own nm code ml ret := C
  have X' : Stand p l e R s m args below meth c T locs kc ks := X
  obtain ⟨v, vm₁, B, -, XB, P, S⟩ := Jvm.LawKit.callS X' C'.1 (y := y) C'.2.2.2.2.1 (mvT C'.2.1 w1) (mvT C'.2.1 w2) (mvT C'.2.1 w3) (mvT C'.2.1 w4) hy (H.back (W := W) O (fun x hx => hD x (hD0 x hx)) C'.2.1 w4 w3 hf hl) (g := mkF m pc ls st) rfl (by rw [C'.2.2.2.1]; exact hls) (argsL := argsL) (rest := rest) (lenOf pd hn) hst (by show 2 * 0 + _ ≤ _; omega) (Jvm.hb C'.2.2.1 hd) (fun _ _ => ⟨rfl, eT, hc, hs⟩)
  exact goOn K C' H3.2.1 hD N XB P S
theorem Runs.callV {y z : MethodName} {index : Nat} {CC : String} {bytes : ByteArray} {maxL : Nat} {rt : Option FieldType} {rm : Room} {b : Addr} {argsL : List Value} {Q' : Option Value → Heap → List Addr → Prop} {W : Nat} {ps : List FieldType} {rr : Option FieldType}
    (hd : Ins code pc (.invokevirtual index) 3 pc') (w1 : (Cond.methodLink own index y).before a0 Z = true) (w2 : (Cond.declares y).before a0 Z = true) (nf : ∀ s : State, Z.Warmed39 s.vm → NotFace s y) (w3 : (Cond.selects CC y z).before a0 Z = true) (w4 : (Cond.instanceMethod z).before a0 Z = true) (w5 : (Cond.code z bytes maxL rt).before a0 Z = true) (w6 : (Cond.initialized z.cls).before a0 Z = true) (hy : y.cls ≠ "java/lang/invoke/MethodHandle" ∧ y.cls ≠ "java/lang/invoke/VarHandle")
    (E : Exa Z h b CC) (pd : parseMethodDescriptor y.desc = some ⟨ps, rr⟩) (hn : argsL.length = ps.length) (hls : ls.size = ml) (hst : st = argsL.reverse ++ .ref b :: rest) (hW : (rest.map fun v => v.category).sum = W) (hf : rm.frames + 1 ≤ R.frames) (hl : W + (maxL + 11) + rm.locals ≤ R.locals) (hc : kc + rm.cells ≤ R.cells) (hs : ks + rm.slots ≤ R.slots)
    {D0 : List Addr} (hD0 : ∀ x ∈ D0, x ∈ D) (H : Con false l Z [] n0 z bytes maxL rt rm (.ref b :: argsL).toArray D0 h Q')
    (K : ∀ v h' D', Q' v h' D' → h.size ≤ h'.size → Runs false l Z [] n0 own nm code ml ret R Q (D' ++ D) h' (kc + rm.cells) (ks + rm.slots) pc' ls (v.toList ++ rest)) : Runs false l Z [] n0 own nm code ml ret R Q D h kc ks pc ls st := by
  obtain ⟨hd, rfl⟩ := hd
  intro p e s vm0 m args below meth c T locs C X eT N O Hd
  obtain ⟨e1, -, H3, H4⟩ := Hd
  have e1 : vm0 = s.vm := e1
  subst e1
  have hD : ∀ x ∈ D, x < h.size := fun x hx => (H4 x hx).1
  have C' : Ctx p s m meth c Z own nm code ml ret := C
  have X' : Stand p l e R s m args below meth c T locs kc ks := X
  obtain ⟨cB, kB, q1, -, q3⟩ := isOf C'.2.1 eT E
  obtain ⟨v, vm₁, B, -, XB, P, S⟩ := X'.virtualBack C'.1 (y := y) (z := z) C'.2.2.2.2.1 (mvT C'.2.1 w1) (mvT C'.2.1 w2) (nf s C'.2.1) (mvT C'.2.1 w3) (mvT C'.2.1 w4) hy (H.back (W := W) O (fun x hx => hD x (hD0 x hx)) C'.2.1 w5 w6 hf hl) q1 q3 (g := mkF m pc ls st) rfl (by rw [C'.2.2.2.1]; exact hls) (Steps.refl _) (argsL := argsL) (rest := rest) (lenOf pd hn) hst (by show 2 * 0 + _ ≤ _; omega) (Jvm.hb C'.2.2.1 hd) (fun _ _ => ⟨rfl, eT, hc, hs⟩)
  exact goOn K C' H3.2.1 hD N XB P (fun t k => S.trans k)
theorem Runs.callC {y : MethodName} {index : Nat} {bytes : ByteArray} {maxL : Nat} {rm : Room} {b : Addr} {argsL : List Value} {Q' : Option Value → Heap → List Addr → Prop} {W : Nat} {ps : List FieldType} {rr : Option FieldType}
    (hd : Ins code pc (.invokespecial index) 3 pc') (hi : y.name = "<init>") (w1 : (Cond.methodLink own index y).before a0 Z = true) (w2 : (Cond.instanceMethod y).before a0 Z = true) (w3 : (Cond.code y bytes maxL none).before a0 Z = true) (w4 : (Cond.initialized y.cls).before a0 Z = true) (hy : y.cls ≠ "java/lang/invoke/MethodHandle" ∧ y.cls ≠ "java/lang/invoke/VarHandle")
    (pd : parseMethodDescriptor y.desc = some ⟨ps, rr⟩) (hn : argsL.length = ps.length) (hls : ls.size = ml) (hst : st = argsL.reverse ++ .ref b :: rest) (hW : (rest.map fun v => v.category).sum = W) (hf : rm.frames + 1 ≤ R.frames) (hl : W + (maxL + 11) + rm.locals ≤ R.locals) (hc : kc + rm.cells ≤ R.cells) (hs : ks + rm.slots ≤ R.slots)
    {D0 : List Addr} (hD0 : ∀ x ∈ D0, x ∈ D) (H : Con false l Z [] n0 y bytes maxL none rm (.ref b :: argsL).toArray D0 h Q')
    (K : ∀ v h' D', Q' v h' D' → h.size ≤ h'.size → Runs false l Z [] n0 own nm code ml ret R Q (D' ++ D) h' (kc + rm.cells) (ks + rm.slots) pc' ls (v.toList ++ rest)) : Runs false l Z [] n0 own nm code ml ret R Q D h kc ks pc ls st := by
  obtain ⟨hd, rfl⟩ := hd
  intro p e s vm0 m args below meth c T locs C X eT N O Hd
  obtain ⟨e1, -, H3, H4⟩ := Hd
  have e1 : vm0 = s.vm := e1
  subst e1
  have hD : ∀ x ∈ D, x < h.size := fun x hx => (H4 x hx).1
  have C' : Ctx p s m meth c Z own nm code ml ret := C
  have X' : Stand p l e R s m args below meth c T locs kc ks := X
  obtain ⟨v, vm₁, B, -, XB, P, S⟩ := X'.specialBack C'.1 (y := y) hi C'.2.2.2.2.1 (mvT C'.2.1 w1) (mvT C'.2.1 w2) (mvT C'.2.1 w3) hy (H.back (W := W) O (fun x hx => hD x (hD0 x hx)) C'.2.1 w3 w4 hf hl) (g := mkF m pc ls st) rfl (by rw [C'.2.2.2.1]; exact hls) (Steps.refl _) (a := b) (argsL := argsL) (rest := rest) (lenOf pd hn) hst (by show 2 * 0 + _ ≤ _; omega) (Jvm.hb C'.2.2.1 hd) (fun _ _ => ⟨rfl, eT, hc, hs⟩)
  exact goOn K C' H3.2.1 hD N XB P (fun t k => S.trans k)
end P


/-! the wide walk (w = true): constants of strings may come to be interned -/
section Wd
variable {l : Launch} {Z : State} {EL : List (String × Nat)} {n0 : Nat} {own nm : String} {code : ByteArray} {ml : Nat} {ret : Option FieldType} {R : Room} {Q : Option Value → Heap → List Addr → Prop} {D : List Addr} {h : Heap} {kc ks pc pc' : Nat} {ls : Array Slot} {st rest : List Value} {a0 : Array Value}
theorem Ctx.later {p : Program} {s : State} {vm0 vm1 : Vm} {n : Nat} {m : MethodId} {meth : Method} {c : Code} (C : Ctx p (s.setVm vm0) m meth c Z own nm code ml ret) (h1 : (s.setVm vm0).Since vm1 n) : Ctx p (s.setVm vm1) m meth c Z own nm code ml ret :=
  ⟨C.1, State.Warmed39.trans (t := s.setVm vm0) C.2.1 h1.1, C.2.2.1, C.2.2.2.1, by rw [show (s.setVm vm1).vm = vm1 from rfl, h1.1.alike.findClass]; exact C.2.2.2.2.1, C.2.2.2.2.2⟩
theorem Con.backW {p : Program} {e : Env} {s : State} {vm0 : Vm} {args : Array Value} {below : List Frame} {y : MethodName} {bytes : ByteArray} {maxL : Nat} {rt : Option FieldType} {rm : Room} {as' : Array Value} {D0 : List Addr} {Q' : Option Value → Heap → List Addr → Prop} {len W : Nat}
    (H : Con true l Z EL n0 y bytes maxL rt rm as' D0 h Q') (hO : Old Z n0 h) (hE : ∃ a0, EW Z a0 EL) (hC : CHv Z EL vm0 h) (hD : ∀ x ∈ D0, x < h.size ∧ Safe Z EL vm0 h x) (hZ : Z.Warmed39 vm0) (wc : (Cond.code y bytes maxL rt).before a0 Z = true) (wz : (Cond.initialized y.cls).before a0 Z = true) (hf : rm.frames + 1 ≤ R.frames) (hl : W + (maxL + 11) + rm.locals ≤ R.locals) :
    BackS l R p e below (s.setVm vm0) args y len W (fun A a => a = as' ∧ A.U.heap = h ∧ A.cells + rm.cells ≤ R.cells ∧ A.slots + rm.slots ≤ R.slots)
      (fun A _ v B => ∃ L D', Q' v B.U.heap D' ∧ Old Z n0 B.U.heap ∧ Fr n0 L ∧ CHr Z EL vm0 h B.U.vm B.U.heap ∧ (∀ x ∈ D', x < B.U.heap.size ∧ Safe Z EL B.U.vm B.U.heap x) ∧ B.locs = A.locs ++ L ∧ B.cells = A.cells + rm.cells ∧ B.slots = A.slots + rm.slots) := by
  obtain ⟨a1, hE1⟩ := id hE
  exact BackS.of_freeW (bytes := bytes) (maxL := maxL) (ret := rt) (E := fun _ first o t L k n => k = rm.cells ∧ n = rm.slots ∧ ∃ v D', o = .returned v ∧ Q' v t.heap D' ∧ Old Z n0 t.heap ∧ Fr n0 L ∧ CHr Z EL first.vm first.heap t.vm t.heap ∧ ∀ x ∈ D', x < t.heap.size ∧ Safe Z EL t.vm t.heap x) (H []) hf hl
    (fun m meth c A a Y hp => have hU : Z.Warmed39 A.U.vm := wtrans (s := s.setVm vm0) hZ Y.warmed
      ⟨by show (Cond.and _ .tt).before a A.U = true; rw [Cond.before_and, mv hU wc]; rfl, mv hU wc, mv hU wz, hp.2.2.1, hp.2.2.2⟩)
    (fun m meth c A a g mk Y hp => ⟨hp.1, wtrans (s := s.setVm vm0) hZ Y.warmed, hp.2.1, hO, hE, (CHv.at Y hZ hE1 hC).1, fun x hx => ⟨(hD x hx).1, (CHv.at Y hZ hE1 hC).safe (hD x hx).1 (hD x hx).2⟩⟩) (fun _ _ _ _ _ _ _ _ _ => trivial)
    (fun _ _ _ _ ⟨v, L, D', h1, h2, h3, h4, h5, h6⟩ => ⟨L, _, _, h6, rfl, rfl, v, D', h1, h2, h3, h4, h5.1, h5.2⟩)
    (fun m meth c A a g mk v t L k n Y hp _ _ ⟨e1, e2, v', D', e3, e4, e5, e6, e7, e8⟩ => by
      cases e3; subst e1 e2
      refine ⟨L, D', e4, e5, e6, (CHv.at Y hZ hE1 hC).trans ?_, e8, rfl, rfl, rfl⟩
      rw [← hp.2.1]; exact e7)
theorem goOnW {p : Program} {e : Env} {s : State} {vm0 : Vm} {m : MethodId} {args : Array Value} {below : List Frame} {meth : Method} {c : Code} {T : State} {locs : List Loc} {Q' : Option Value → Heap → List Addr → Prop} {kc' ks' : Nat}
    (K : ∀ v h' D', Q' v h' D' → h.size ≤ h'.size → Runs true l Z EL n0 own nm code ml ret R Q (D' ++ D) h' kc' ks' pc' ls (v.toList ++ rest))
    (C : Ctx p (s.setVm vm0) m meth c Z own nm code ml ret) (H : Hid true Z EL D s vm0 h) (N : Fr n0 locs) {v : Option Value} {B : Pt} (X : Stand p l e R ((s.setVm vm0).setVm B.U.vm) m args below meth c B.U B.locs B.cells B.slots)
    (hS : (s.setVm vm0).Since B.U.vm B.U.heap.size)
    (P : ∃ L D', Q' v B.U.heap D' ∧ Old Z n0 B.U.heap ∧ Fr n0 L ∧ CHr Z EL vm0 h B.U.vm B.U.heap ∧ (∀ x ∈ D', x < B.U.heap.size ∧ Safe Z EL B.U.vm B.U.heap x) ∧ B.locs = locs ++ L ∧ B.cells = kc' ∧ B.slots = ks')
    (S : Steps p.tables e below (T.setTop (mkF m pc ls st)) (B.U.setTop (mkF m pc' ls (v.toList ++ rest)))) :
    ∃ s₂ o, Steps p.tables e below (T.setTop (mkF m pc ls st)) s₂ ∧ s₂.status = .running ∧ Ended s₂ below o ∧ Done true Z EL n0 R Q s o s₂ := by
  obtain ⟨L, D', h1, h2, h3, h4, h5, h6, h7, h8⟩ := P
  obtain ⟨U, Ls, kk, nn⟩ := B
  dsimp only [Pt.U, Pt.locs, Pt.cells, Pt.slots] at *
  subst h6 h7 h8
  obtain ⟨H1, H2, H3, H4⟩ := H
  obtain ⟨k0, g1, g2⟩ : ∃ k0, s.Since vm0 k0 ∧ k0 ≤ h.size := H1
  have hsz : h.size ≤ U.heap.size := h4.2.1
  have C1 : Ctx p (s.setVm U.vm) m meth c Z own nm code ml ret := C.later hS
  have X1 : Stand p l e R (s.setVm U.vm) m args below meth c U (locs ++ L) kk nn := X
  have HN : Hid true Z EL (D' ++ D) s U.vm U.heap := ⟨⟨U.heap.size, g1.trans hS (Nat.le_trans g2 hsz), Nat.le_refl _⟩, H2, H3.trans h4, fun x hx => by
    rcases List.mem_append.mp hx with q | q
    · exact h5 x q
    · exact ⟨Nat.lt_of_lt_of_le (H4 x q).1 hsz, h4.safe (H4 x q).1 (H4 x q).2⟩⟩
  obtain ⟨s₂, o, S₂, r⟩ := K v U.heap D' h1 hsz p e s U.vm m args below meth c U _ C1 X1 rfl (N.app h3) h2 HN
  exact ⟨s₂, o, S.trans S₂, r⟩
theorem Runs.callSW {y : MethodName} {index : Nat} {bytes : ByteArray} {maxL : Nat} {rt : Option FieldType} {rm : Room} {argsL : List Value} {Q' : Option Value → Heap → List Addr → Prop} {W : Nat} {ps : List FieldType} {rr : Option FieldType}
    (hd : Ins code pc (.invokestatic index) 3 pc') (w1 : (Cond.methodLink own index y).before a0 Z = true) (w2 : (Cond.static y).before a0 Z = true) (w3 : (Cond.initialized y.cls).before a0 Z = true) (w4 : (Cond.code y bytes maxL rt).before a0 Z = true) (hy : y.cls ≠ "java/lang/invoke/MethodHandle" ∧ y.cls ≠ "java/lang/invoke/VarHandle")
    (pd : parseMethodDescriptor y.desc = some ⟨ps, rr⟩) (hn : argsL.length = ps.length) (hls : ls.size = ml) (hst : st = argsL.reverse ++ rest) (hW : (rest.map fun v => v.category).sum = W) (hf : rm.frames + 1 ≤ R.frames) (hl : W + (maxL + 11) + rm.locals ≤ R.locals) (hc : kc + rm.cells ≤ R.cells) (hs : ks + rm.slots ≤ R.slots)
    {D0 : List Addr} (hD0 : ∀ x ∈ D0, x ∈ D) (H : Con true l Z EL n0 y bytes maxL rt rm argsL.toArray D0 h Q')
    (K : ∀ v h' D', Q' v h' D' → h.size ≤ h'.size → Runs true l Z EL n0 own nm code ml ret R Q (D' ++ D) h' (kc + rm.cells) (ks + rm.slots) pc' ls (v.toList ++ rest)) : Runs true l Z EL n0 own nm code ml ret R Q D h kc ks pc ls st := by
  obtain ⟨hd, rfl⟩ := hd
  intro p e s vm0 m args below meth c T locs C X eT N O Hd
  obtain ⟨v, vm₁, B, -, XB, hS, -, P, S⟩ := callSS X C.1 (y := y) C.2.2.2.2.1 (mvT C.2.1 w1) (mvT C.2.1 w2) (mvT C.2.1 w3) (mvT C.2.1 w4) hy (H.backW (W := W) O Hd.2.1 Hd.2.2.1.1 (fun x hx => Hd.2.2.2 x (hD0 x hx)) C.2.1 w4 w3 hf hl) (g := mkF m pc ls st) rfl (by rw [C.2.2.2.1]; exact hls) (argsL := argsL) (rest := rest) (lenOf pd hn) hst (by show 2 * 0 + _ ≤ _; omega) (Jvm.hb C.2.2.1 hd) (fun _ _ => ⟨rfl, eT, hc, hs⟩)
  exact goOnW K C Hd N XB hS P S
theorem Runs.callVW {y z : MethodName} {index : Nat} {CC : String} {bytes : ByteArray} {maxL : Nat} {rt : Option FieldType} {rm : Room} {b : Addr} {argsL : List Value} {Q' : Option Value → Heap → List Addr → Prop} {W : Nat} {ps : List FieldType} {rr : Option FieldType}
    (hd : Ins code pc (.invokevirtual index) 3 pc') (w1 : (Cond.methodLink own index y).before a0 Z = true) (w2 : (Cond.declares y).before a0 Z = true) (nf : ∀ s : State, Z.Warmed39 s.vm → NotFace s y) (w3 : (Cond.selects CC y z).before a0 Z = true) (w4 : (Cond.instanceMethod z).before a0 Z = true) (w5 : (Cond.code z bytes maxL rt).before a0 Z = true) (w6 : (Cond.initialized z.cls).before a0 Z = true) (hy : y.cls ≠ "java/lang/invoke/MethodHandle" ∧ y.cls ≠ "java/lang/invoke/VarHandle")
    (E : Exa Z h b CC) (pd : parseMethodDescriptor y.desc = some ⟨ps, rr⟩) (hn : argsL.length = ps.length) (hls : ls.size = ml) (hst : st = argsL.reverse ++ .ref b :: rest) (hW : (rest.map fun v => v.category).sum = W) (hf : rm.frames + 1 ≤ R.frames) (hl : W + (maxL + 11) + rm.locals ≤ R.locals) (hc : kc + rm.cells ≤ R.cells) (hs : ks + rm.slots ≤ R.slots)
    {D0 : List Addr} (hD0 : ∀ x ∈ D0, x ∈ D) (H : Con true l Z EL n0 z bytes maxL rt rm (.ref b :: argsL).toArray D0 h Q')
    (K : ∀ v h' D', Q' v h' D' → h.size ≤ h'.size → Runs true l Z EL n0 own nm code ml ret R Q (D' ++ D) h' (kc + rm.cells) (ks + rm.slots) pc' ls (v.toList ++ rest)) : Runs true l Z EL n0 own nm code ml ret R Q D h kc ks pc ls st := by
  obtain ⟨hd, rfl⟩ := hd
  intro p e s vm0 m args below meth c T locs C X eT N O Hd
  obtain ⟨cB, kB, q1, -, q3⟩ := isOf C.2.1 eT E
  obtain ⟨v, vm₁, B, -, XB, hS, -, P, S⟩ := X.virtualBackS C.1 (y := y) (z := z) C.2.2.2.2.1 (mvT C.2.1 w1) (mvT C.2.1 w2) (nf _ C.2.1) (mvT C.2.1 w3) (mvT C.2.1 w4) hy (H.backW (W := W) O Hd.2.1 Hd.2.2.1.1 (fun x hx => Hd.2.2.2 x (hD0 x hx)) C.2.1 w5 w6 hf hl) q1 q3 (g := mkF m pc ls st) rfl (by rw [C.2.2.2.1]; exact hls) (Steps.refl _) (argsL := argsL) (rest := rest) (lenOf pd hn) hst (by show 2 * 0 + _ ≤ _; omega) (Jvm.hb C.2.2.1 hd) (fun _ _ => ⟨rfl, eT, hc, hs⟩)
  exact goOnW K C Hd N XB hS P S
theorem Runs.callCW {y : MethodName} {index : Nat} {bytes : ByteArray} {maxL : Nat} {rm : Room} {b : Addr} {argsL : List Value} {Q' : Option Value → Heap → List Addr → Prop} {W : Nat} {ps : List FieldType} {rr : Option FieldType}
    (hd : Ins code pc (.invokespecial index) 3 pc') (hi : y.name = "<init>") (w1 : (Cond.methodLink own index y).before a0 Z = true) (w2 : (Cond.instanceMethod y).before a0 Z = true) (w3 : (Cond.code y bytes maxL none).before a0 Z = true) (w4 : (Cond.initialized y.cls).before a0 Z = true) (hy : y.cls ≠ "java/lang/invoke/MethodHandle" ∧ y.cls ≠ "java/lang/invoke/VarHandle")
    (pd : parseMethodDescriptor y.desc = some ⟨ps, rr⟩) (hn : argsL.length = ps.length) (hls : ls.size = ml) (hst : st = argsL.reverse ++ .ref b :: rest) (hW : (rest.map fun v => v.category).sum = W) (hf : rm.frames + 1 ≤ R.frames) (hl : W + (maxL + 11) + rm.locals ≤ R.locals) (hc : kc + rm.cells ≤ R.cells) (hs : ks + rm.slots ≤ R.slots)
    {D0 : List Addr} (hD0 : ∀ x ∈ D0, x ∈ D) (H : Con true l Z EL n0 y bytes maxL none rm (.ref b :: argsL).toArray D0 h Q')
    (K : ∀ v h' D', Q' v h' D' → h.size ≤ h'.size → Runs true l Z EL n0 own nm code ml ret R Q (D' ++ D) h' (kc + rm.cells) (ks + rm.slots) pc' ls (v.toList ++ rest)) : Runs true l Z EL n0 own nm code ml ret R Q D h kc ks pc ls st := by
  obtain ⟨hd, rfl⟩ := hd
  intro p e s vm0 m args below meth c T locs C X eT N O Hd
  obtain ⟨v, vm₁, B, -, XB, hS, -, P, S⟩ := X.specialBackS C.1 (y := y) hi C.2.2.2.2.1 (mvT C.2.1 w1) (mvT C.2.1 w2) (mvT C.2.1 w3) hy (H.backW (W := W) O Hd.2.1 Hd.2.2.1.1 (fun x hx => Hd.2.2.2 x (hD0 x hx)) C.2.1 w3 w4 hf hl) (g := mkF m pc ls st) rfl (by rw [C.2.2.2.1]; exact hls) (Steps.refl _) (a := b) (argsL := argsL) (rest := rest) (lenOf pd hn) hst (by show 2 * 0 + _ ≤ _; omega) (Jvm.hb C.2.2.1 hd) (fun _ _ => ⟨rfl, eT, hc, hs⟩)
  exact goOnW K C Hd N XB hS P S
/-- ldc of a String constant: a String, no more is said -/
theorem Runs.ldcS {text : String} {index n : Nat} (hd : Ins code pc (.ldc index) 2 pc') (wl : (Cond.stringLink own index text).before a0 Z = true) (wS : ∀ a ∈ Bundle.stringAtoms, a.before a0 Z = true) (hEL : EW Z a0 EL) (hn : 4 * text.toList.length ≤ n) (hbig : n ≤ 536870912) (hc : kc + 2 ≤ R.cells) (hl : ks + (n + 4) ≤ R.slots)
    (K : ∀ h' a, Keep h h' [] → Runs true l Z EL n0 own nm code ml ret R Q D h' (kc + 2) (ks + (n + 4)) pc' ls (.ref a :: st)) : Runs true l Z EL n0 own nm code ml ret R Q D h kc ks pc ls st := by
  obtain ⟨hd, rfl⟩ := hd
  intro p e s vm0 m args below meth c T locs C X eT N O Hd
  obtain ⟨H1, H2, H3, H4⟩ := Hd
  obtain ⟨k0, g1, g2⟩ : ∃ k0, s.Since vm0 k0 ∧ k0 ≤ h.size := H1
  obtain ⟨a, T', h', k1, X', e', E', S1, hk1, W1, F1, C1, -, st1⟩ := ldcOH X C.1 C.2.1 C.2.2.2.2.1 wl wS eT g1 g2 hEL H3.1 (g := mkF m pc ls st) rfl (Jvm.hb C.2.2.1 hd) hn hbig hc hl
  subst e'
  obtain ⟨s₂, o, S, r⟩ := K _ a (keepE E') p e s T'.vm m args below meth c T' locs ⟨C.1, W1, C.2.2.1, C.2.2.2.1, F1, C.2.2.2.2.2⟩ X' rfl N (O.ext E') ⟨⟨k1, S1, hk1⟩, H2, H3.trans C1, fun x hx => ⟨Nat.lt_of_lt_of_le (H4 x hx).1 E'.1, C1.safe (H4 x hx).1 (H4 x hx).2⟩⟩
  exact ⟨s₂, o, st1 _ S, r⟩
/-- ldc of a String constant that is held: its text -/
theorem Runs.ldcT {text : String} {index n : Nat} {vs : List Value} {z : Int32} (hd : Ins code pc (.ldc index) 2 pc') (wl : (Cond.stringLink own index text).before a0 Z = true) (wS : ∀ a ∈ Bundle.stringAtoms, a.before a0 Z = true) (hEL : EW Z a0 EL) (hmem : (own, index) ∈ EL)
    (ht : (∀ c ∈ text.toList, c.toNat < 256) ∧ text.toList.map (fun c => Value.int (Jvm.Lit.byteI c.toNat.toUInt16)) = vs) (hz : ¬ z < 0) (hzl : z.toNatClampNeg = vs.length) (hn : 4 * text.toList.length ≤ n) (hbig : n ≤ 536870912) (hc : kc + 2 ≤ R.cells) (hl : ks + (n + 4) ≤ R.slots)
    (K : ∀ h' a b k, Keep h h' [] → Obj Z h' a "java/lang/String" [("java/lang/String", "value", "[B", .ref b), ("java/lang/String", "coder", "B", .int 0)] → Arv Z h' b k .byte z vs (.int 0) → (∀ x ∈ D, x ≠ a ∧ x ≠ b) → Runs true l Z EL n0 own nm code ml ret R Q D h' (kc + 2) (ks + (n + 4)) pc' ls (.ref a :: st)) : Runs true l Z EL n0 own nm code ml ret R Q D h kc ks pc ls st := by
  obtain ⟨hd, rfl⟩ := hd
  intro p e s vm0 m args below meth c T locs C X eT N O Hd
  obtain ⟨H1, H2, H3, H4⟩ := Hd
  obtain ⟨k0, g1, g2⟩ : ∃ k0, s.Since vm0 k0 ∧ k0 ≤ h.size := H1
  obtain ⟨a, T', h', k1, b, k, X', e', E', S1, hk1, W1, F1, x1, x2, x3, x4, -, -, C1, -, D1, st1⟩ := ldcCH X C.1 C.2.1 C.2.2.2.2.1 wl wS eT g1 g2 hEL hmem H3.1 ht hz hzl (g := mkF m pc ls st) rfl (Jvm.hb C.2.2.1 hd) hn hbig hc hl
  subst e'
  have hD : ∀ x ∈ D, x < T'.heap.size ∧ Safe Z EL T'.vm T'.heap x := fun x hx => ⟨Nat.lt_of_lt_of_le (H4 x hx).1 E'.1, C1.safe (H4 x hx).1 (H4 x hx).2⟩
  obtain ⟨s₂, o, S, r⟩ := K _ a b k (keepE E') ⟨x1, fun f hf => by simp only [List.mem_cons, List.not_mem_nil, or_false] at hf; rcases hf with rfl | rfl; exact x3; exact x2⟩ x4 (fun x hx => D1 x (hD x hx).2) p e s T'.vm m args below meth c T' locs ⟨C.1, W1, C.2.2.1, C.2.2.2.1, F1, C.2.2.2.2.2⟩ X' rfl N (O.ext E') ⟨⟨k1, S1, hk1⟩, H2, H3.trans C1, hD⟩
  exact ⟨s₂, o, st1 _ S, r⟩
end Wd


section W3
variable {w : Bool} {l : Launch} {Z : State} {EL : List (String × Nat)} {n0 : Nat} {own nm : String} {code : ByteArray} {ml : Nat} {ret : Option FieldType} {R : Room} {Q : Option Value → Heap → List Addr → Prop} {D : List Addr} {h h' : Heap} {kc ks pc pc' : Nat} {ls ls' : Array Slot} {st st' rest : List Value} {a0 : Array Value}
theorem Runs.instY {K : String} {index : Nat} {a : Addr} (hd : Ins code pc (.instanceof index) 3 pc') (wl : (Cond.classLink own index K).before a0 Z = true) (F : RoadKit.Ins Z h a K true) (k : Runs w l Z EL n0 own nm code ml ret R Q D h kc ks pc' ls (.int 1 :: rest)) : Runs w l Z EL n0 own nm code ml ret R Q D h kc ks pc ls (.ref a :: rest) := by
  obtain ⟨hd, rfl⟩ := hd
  exact k.warm fun p e s m args below meth c T locs C X eT O => RoadKit.instY X C.1 C.2.1 C.2.2.2.2.1 wl eT F (g := mkF m pc ls (.ref a :: rest)) rfl rfl (Jvm.hb C.2.2.1 hd)
theorem Runs.instN {K CC : String} {index : Nat} {a : Addr} (hd : Ins code pc (.instanceof index) 3 pc') (wl : (Cond.classLink own index K).before a0 Z = true) (E : Exa Z h a CC) (F : ∃ c t, Z.vm.findClass CC = some c ∧ Z.vm.findClass K = some t ∧ Z.vm.assignable c t = false) (k : Runs w l Z EL n0 own nm code ml ret R Q D h kc ks pc' ls (.int 0 :: rest)) : Runs w l Z EL n0 own nm code ml ret R Q D h kc ks pc ls (.ref a :: rest) := by
  obtain ⟨hd, rfl⟩ := hd
  exact k.warm fun p e s m args below meth c T locs C X eT O => RoadKit.instNo X C.1 C.2.1 C.2.2.2.2.1 wl eT E F (g := mkF m pc ls (.ref a :: rest)) rfl rfl (Jvm.hb C.2.2.1 hd)
theorem Runs.inst0 {index : Nat} (hd : Ins code pc (.instanceof index) 3 pc') (k : Runs w l Z EL n0 own nm code ml ret R Q D h kc ks pc' ls (.int 0 :: rest)) : Runs w l Z EL n0 own nm code ml ret R Q D h kc ks pc ls (.null :: rest) := by
  obtain ⟨hd, rfl⟩ := hd
  exact k.warm fun p e s m args below meth c T locs C X eT O => ⟨T, X, eT, fun t S => X.instanceofNull C.1 (g := mkF m pc ls (.null :: rest)) rfl rfl (Jvm.hb C.2.2.1 hd) t S⟩
theorem Runs.castY {K : String} {index : Nat} {a : Addr} (hd : Ins code pc (.checkcast index) 3 pc') (wl : (Cond.classLink own index K).before a0 Z = true) (F : RoadKit.Ins Z h a K true) (k : Runs w l Z EL n0 own nm code ml ret R Q D h kc ks pc' ls (.ref a :: rest)) : Runs w l Z EL n0 own nm code ml ret R Q D h kc ks pc ls (.ref a :: rest) := by
  obtain ⟨hd, rfl⟩ := hd
  exact k.warm fun p e s m args below meth c T locs C X eT O => RoadKit.castY X C.1 C.2.1 C.2.2.2.2.1 wl eT F (g := mkF m pc ls (.ref a :: rest)) rfl rfl (Jvm.hb C.2.2.1 hd)
/-- C is no K: C's superclass has none, and neither of them is K, which is a class that can be made -/
theorem notInst {C S K : String} {n : Nat} (wC : (Cond.superclass C S).before a0 Z = true) (wS : (Cond.noSuperclass S).before a0 Z = true) (wK : (Cond.instantiable K n).before a0 Z = true) (h1 : C ≠ K) (h2 : S ≠ K) : ∃ c t, Z.vm.findClass C = some c ∧ Z.vm.findClass K = some t ∧ Z.vm.assignable c t = false := by
  obtain ⟨cs, k0, f1, f2, f3, -, -⟩ := Cond.noSuperclass_spec wS
  obtain ⟨t, kt, g1, g2, g3, g4, -⟩ := Cond.instantiable_spec wK
  obtain ⟨c, h0⟩ := found_sup wC
  obtain ⟨p, k, kp, e1, e2, e3, e4, e5, -, e7⟩ := Cond.superclass_spec h0 wC
  cases f1.symm.trans e1
  have ne := ids_ne h0 g1 h1
  have ne2 := ids_ne f1 g1 h2
  have gi : kt.isInterface = false := by simp only [Bool.or_eq_false_iff] at g4; exact g4.1
  have key : ∀ fuel, Z.vm.isSubclassAux fuel c t = false := fun fuel => by
    cases fuel with
    | zero => rfl
    | succ f =>
      cases f with
      | zero => simp [Vm.isSubclassAux, ne, e2, e4]
      | succ f => simp [Vm.isSubclassAux, ne, e2, e4, ne2, f2, f3]
  refine ⟨c, t, h0, g1, ?_⟩
  show Z.vm.assignableAux (255 + 1) c t = false
  simp [Vm.assignableAux, ne, e2, g2, e5, g3, gi, Vm.isSubclass, key]
end W3

end Jvm.OwnW
namespace Jvm.Pilot.@@N@@
open Jvm Jvm.ClassFile Sem Op Lib Jvm.Free Jvm.Stand Jvm.LawKit Jvm.RoadKit Bundle Jvm.OwnW Jvm.Pilot.@@N@@.Jvm.D
abbrev Wds (Z : State) (a0 : Array Value) : Prop := ∀ d ∈ tables_1, d.before a0 Z = true
theorem w0 {Z : State} {a0 : Array Value} (hw : Wds Z a0) : (Jvm.Cond.fieldLink "com/example/pacerd/pacerd/run/OutcomeCutShortPinLaw" (7 : Nat) "com/example/pacerd/pacerd/run/RunStatus" "SUCCEEDED" "Lcom/example/pacerd/pacerd/run/RunStatus;").before a0 Z = true := hw _ (List.mem_of_getElem? (i := 0) rfl)
theorem w1 {Z : State} {a0 : Array Value} (hw : Wds Z a0) : (Jvm.Cond.initialized "com/example/pacerd/pacerd/run/RunStatus").before a0 Z = true := hw _ (List.mem_of_getElem? (i := 1) rfl)
theorem w2 {Z : State} {a0 : Array Value} (hw : Wds Z a0) : (Jvm.Cond.laysStatic "com/example/pacerd/pacerd/run/RunStatus" "SUCCEEDED" "Lcom/example/pacerd/pacerd/run/RunStatus;").before a0 Z = true := hw _ (List.mem_of_getElem? (i := 2) rfl)
theorem w3 {Z : State} {a0 : Array Value} (hw : Wds Z a0) : (Jvm.Cond.arrayClass Jvm.ClassFile.FieldType.byte).before a0 Z = true := hw _ (List.mem_of_getElem? (i := 3) rfl)
theorem w4 {Z : State} {a0 : Array Value} (hw : Wds Z a0) : (Jvm.Cond.methodLink "com/example/pacerd/pacerd/run/OutcomeCutShortPinLaw" (22 : Nat) ({ cls := "com/example/pacerd/pacerd/run/Outcome", name := "cutShort", desc := "(Lcom/example/pacerd/pacerd/run/RunStatus;[B)Lcom/example/pacerd/pacerd/run/Outcome;" } : Jvm.MethodName)).before a0 Z = true := hw _ (List.mem_of_getElem? (i := 4) rfl)
theorem w5 {Z : State} {a0 : Array Value} (hw : Wds Z a0) : (Jvm.Cond.static ({ cls := "com/example/pacerd/pacerd/run/Outcome", name := "cutShort", desc := "(Lcom/example/pacerd/pacerd/run/RunStatus;[B)Lcom/example/pacerd/pacerd/run/Outcome;" } : Jvm.MethodName)).before a0 Z = true := hw _ (List.mem_of_getElem? (i := 5) rfl)
theorem w6 {Z : State} {a0 : Array Value} (hw : Wds Z a0) : (Jvm.Cond.initialized "com/example/pacerd/pacerd/run/Outcome").before a0 Z = true := hw _ (List.mem_of_getElem? (i := 6) rfl)
theorem w7 {Z : State} {a0 : Array Value} (hw : Wds Z a0) : (Jvm.Cond.code ({ cls := "com/example/pacerd/pacerd/run/Outcome", name := "cutShort", desc := "(Lcom/example/pacerd/pacerd/run/RunStatus;[B)Lcom/example/pacerd/pacerd/run/Outcome;" } : Jvm.MethodName) prog_25_method_3_code (2 : Nat) (Option.some (Jvm.ClassFile.FieldType.object "com/example/pacerd/pacerd/run/Outcome"))).before a0 Z = true := hw _ (List.mem_of_getElem? (i := 7) rfl)
theorem w8 {Z : State} {a0 : Array Value} (hw : Wds Z a0) : (Jvm.Cond.classLink "com/example/pacerd/pacerd/run/Outcome" (8 : Nat) "com/example/pacerd/pacerd/run/Outcome").before a0 Z = true := hw _ (List.mem_of_getElem? (i := 8) rfl)
theorem w9 {Z : State} {a0 : Array Value} (hw : Wds Z a0) : (Jvm.Cond.instantiable "com/example/pacerd/pacerd/run/Outcome" (4 : Nat)).before a0 Z = true := hw _ (List.mem_of_getElem? (i := 9) rfl)
theorem w10 {Z : State} {a0 : Array Value} (hw : Wds Z a0) : (Jvm.Cond.methodLink "com/example/pacerd/pacerd/run/Outcome" (45 : Nat) ({ cls := "com/example/pacerd/pacerd/run/Outcome", name := "<init>", desc := "(Lcom/example/pacerd/pacerd/run/RunStatus;Ljava/lang/Integer;Ljava/lang/Integer;[B)V" } : Jvm.MethodName)).before a0 Z = true := hw _ (List.mem_of_getElem? (i := 10) rfl)
theorem w11 {Z : State} {a0 : Array Value} (hw : Wds Z a0) : (Jvm.Cond.instanceMethod ({ cls := "com/example/pacerd/pacerd/run/Outcome", name := "<init>", desc := "(Lcom/example/pacerd/pacerd/run/RunStatus;Ljava/lang/Integer;Ljava/lang/Integer;[B)V" } : Jvm.MethodName)).before a0 Z = true := hw _ (List.mem_of_getElem? (i := 11) rfl)
theorem w12 {Z : State} {a0 : Array Value} (hw : Wds Z a0) : (Jvm.Cond.code ({ cls := "com/example/pacerd/pacerd/run/Outcome", name := "<init>", desc := "(Lcom/example/pacerd/pacerd/run/RunStatus;Ljava/lang/Integer;Ljava/lang/Integer;[B)V" } : Jvm.MethodName) prog_25_method_1_code (5 : Nat) (Option.none : Option Jvm.ClassFile.FieldType)).before a0 Z = true := hw _ (List.mem_of_getElem? (i := 12) rfl)
theorem w13 {Z : State} {a0 : Array Value} (hw : Wds Z a0) : (Jvm.Cond.methodLink "com/example/pacerd/pacerd/run/Outcome" (1 : Nat) ({ cls := "java/lang/Record", name := "<init>", desc := "()V" } : Jvm.MethodName)).before a0 Z = true := hw _ (List.mem_of_getElem? (i := 13) rfl)
theorem w14 {Z : State} {a0 : Array Value} (hw : Wds Z a0) : (Jvm.Cond.instanceMethod ({ cls := "java/lang/Record", name := "<init>", desc := "()V" } : Jvm.MethodName)).before a0 Z = true := hw _ (List.mem_of_getElem? (i := 14) rfl)
theorem w16 {Z : State} {a0 : Array Value} (hw : Wds Z a0) : (Jvm.Cond.initialized "java/lang/Record").before a0 Z = true := hw _ (List.mem_of_getElem? (i := 16) rfl)
theorem w17 {Z : State} {a0 : Array Value} (hw : Wds Z a0) : (Jvm.Cond.code ({ cls := "java/lang/Record", name := "<init>", desc := "()V" } : Jvm.MethodName) jdk_30_method_1_code (1 : Nat) (Option.none : Option Jvm.ClassFile.FieldType)).before a0 Z = true := hw _ (List.mem_of_getElem? (i := 17) rfl)
theorem w18 {Z : State} {a0 : Array Value} (hw : Wds Z a0) : (Jvm.Cond.methodLink "java/lang/Record" (1 : Nat) ({ cls := "java/lang/Object", name := "<init>", desc := "()V" } : Jvm.MethodName)).before a0 Z = true := hw _ (List.mem_of_getElem? (i := 18) rfl)
theorem w19 {Z : State} {a0 : Array Value} (hw : Wds Z a0) : (Jvm.Cond.instanceMethod ({ cls := "java/lang/Object", name := "<init>", desc := "()V" } : Jvm.MethodName)).before a0 Z = true := hw _ (List.mem_of_getElem? (i := 19) rfl)
theorem w20 {Z : State} {a0 : Array Value} (hw : Wds Z a0) : (Jvm.Cond.code ({ cls := "java/lang/Object", name := "<init>", desc := "()V" } : Jvm.MethodName) object_method_1_code (1 : Nat) (Option.none : Option Jvm.ClassFile.FieldType)).before a0 Z = true := hw _ (List.mem_of_getElem? (i := 20) rfl)
theorem w21 {Z : State} {a0 : Array Value} (hw : Wds Z a0) : (Jvm.Cond.fieldLink "com/example/pacerd/pacerd/run/Outcome" (7 : Nat) "com/example/pacerd/pacerd/run/Outcome" "status" "Lcom/example/pacerd/pacerd/run/RunStatus;").before a0 Z = true := hw _ (List.mem_of_getElem? (i := 21) rfl)
theorem w22 {Z : State} {a0 : Array Value} (hw : Wds Z a0) : (Jvm.Cond.laysFinal "com/example/pacerd/pacerd/run/Outcome" "com/example/pacerd/pacerd/run/Outcome" "status" "Lcom/example/pacerd/pacerd/run/RunStatus;").before a0 Z = true := hw _ (List.mem_of_getElem? (i := 22) rfl)
theorem w23 {Z : State} {a0 : Array Value} (hw : Wds Z a0) : (Jvm.Cond.fieldLink "com/example/pacerd/pacerd/run/Outcome" (13 : Nat) "com/example/pacerd/pacerd/run/Outcome" "exitCode" "Ljava/lang/Integer;").before a0 Z = true := hw _ (List.mem_of_getElem? (i := 23) rfl)
theorem w24 {Z : State} {a0 : Array Value} (hw : Wds Z a0) : (Jvm.Cond.laysFinal "com/example/pacerd/pacerd/run/Outcome" "com/example/pacerd/pacerd/run/Outcome" "exitCode" "Ljava/lang/Integer;").before a0 Z = true := hw _ (List.mem_of_getElem? (i := 24) rfl)
theorem w25 {Z : State} {a0 : Array Value} (hw : Wds Z a0) : (Jvm.Cond.fieldLink "com/example/pacerd/pacerd/run/Outcome" (17 : Nat) "com/example/pacerd/pacerd/run/Outcome" "httpStatus" "Ljava/lang/Integer;").before a0 Z = true := hw _ (List.mem_of_getElem? (i := 25) rfl)
theorem w26 {Z : State} {a0 : Array Value} (hw : Wds Z a0) : (Jvm.Cond.laysFinal "com/example/pacerd/pacerd/run/Outcome" "com/example/pacerd/pacerd/run/Outcome" "httpStatus" "Ljava/lang/Integer;").before a0 Z = true := hw _ (List.mem_of_getElem? (i := 26) rfl)
theorem w27 {Z : State} {a0 : Array Value} (hw : Wds Z a0) : (Jvm.Cond.fieldLink "com/example/pacerd/pacerd/run/Outcome" (20 : Nat) "com/example/pacerd/pacerd/run/Outcome" "output" "[B").before a0 Z = true := hw _ (List.mem_of_getElem? (i := 27) rfl)
theorem w28 {Z : State} {a0 : Array Value} (hw : Wds Z a0) : (Jvm.Cond.laysFinal "com/example/pacerd/pacerd/run/Outcome" "com/example/pacerd/pacerd/run/Outcome" "output" "[B").before a0 Z = true := hw _ (List.mem_of_getElem? (i := 28) rfl)
theorem w29 {Z : State} {a0 : Array Value} (hw : Wds Z a0) : (Jvm.Cond.methodLink "com/example/pacerd/pacerd/run/OutcomeCutShortPinLaw" (28 : Nat) ({ cls := "com/example/pacerd/pacerd/run/Outcome", name := "status", desc := "()Lcom/example/pacerd/pacerd/run/RunStatus;" } : Jvm.MethodName)).before a0 Z = true := hw _ (List.mem_of_getElem? (i := 29) rfl)
theorem w30 {Z : State} {a0 : Array Value} (hw : Wds Z a0) : (Jvm.Cond.declares ({ cls := "com/example/pacerd/pacerd/run/Outcome", name := "status", desc := "()Lcom/example/pacerd/pacerd/run/RunStatus;" } : Jvm.MethodName)).before a0 Z = true := hw _ (List.mem_of_getElem? (i := 30) rfl)
theorem w31 {Z : State} {a0 : Array Value} (hw : Wds Z a0) : (Jvm.Cond.instanceMethod ({ cls := "com/example/pacerd/pacerd/run/Outcome", name := "status", desc := "()Lcom/example/pacerd/pacerd/run/RunStatus;" } : Jvm.MethodName)).before a0 Z = true := hw _ (List.mem_of_getElem? (i := 31) rfl)
theorem w32 {Z : State} {a0 : Array Value} (hw : Wds Z a0) : (Jvm.Cond.selects "com/example/pacerd/pacerd/run/Outcome" ({ cls := "com/example/pacerd/pacerd/run/Outcome", name := "status", desc := "()Lcom/example/pacerd/pacerd/run/RunStatus;" } : Jvm.MethodName) ({ cls := "com/example/pacerd/pacerd/run/Outcome", name := "status", desc := "()Lcom/example/pacerd/pacerd/run/RunStatus;" } : Jvm.MethodName)).before a0 Z = true := hw _ (List.mem_of_getElem? (i := 32) rfl)
theorem w33 {Z : State} {a0 : Array Value} (hw : Wds Z a0) : (Jvm.Cond.code ({ cls := "com/example/pacerd/pacerd/run/Outcome", name := "status", desc := "()Lcom/example/pacerd/pacerd/run/RunStatus;" } : Jvm.MethodName) prog_25_method_7_code (1 : Nat) (Option.some (Jvm.ClassFile.FieldType.object "com/example/pacerd/pacerd/run/RunStatus"))).before a0 Z = true := hw _ (List.mem_of_getElem? (i := 33) rfl)
theorem w34 {Z : State} {a0 : Array Value} (hw : Wds Z a0) : (Jvm.Cond.methodLink "com/example/pacerd/pacerd/run/OutcomeCutShortPinLaw" (32 : Nat) ({ cls := "com/example/pacerd/pacerd/run/Outcome", name := "exitCode", desc := "()Ljava/lang/Integer;" } : Jvm.MethodName)).before a0 Z = true := hw _ (List.mem_of_getElem? (i := 34) rfl)
theorem w35 {Z : State} {a0 : Array Value} (hw : Wds Z a0) : (Jvm.Cond.declares ({ cls := "com/example/pacerd/pacerd/run/Outcome", name := "exitCode", desc := "()Ljava/lang/Integer;" } : Jvm.MethodName)).before a0 Z = true := hw _ (List.mem_of_getElem? (i := 35) rfl)
theorem w36 {Z : State} {a0 : Array Value} (hw : Wds Z a0) : (Jvm.Cond.instanceMethod ({ cls := "com/example/pacerd/pacerd/run/Outcome", name := "exitCode", desc := "()Ljava/lang/Integer;" } : Jvm.MethodName)).before a0 Z = true := hw _ (List.mem_of_getElem? (i := 36) rfl)
theorem w37 {Z : State} {a0 : Array Value} (hw : Wds Z a0) : (Jvm.Cond.selects "com/example/pacerd/pacerd/run/Outcome" ({ cls := "com/example/pacerd/pacerd/run/Outcome", name := "exitCode", desc := "()Ljava/lang/Integer;" } : Jvm.MethodName) ({ cls := "com/example/pacerd/pacerd/run/Outcome", name := "exitCode", desc := "()Ljava/lang/Integer;" } : Jvm.MethodName)).before a0 Z = true := hw _ (List.mem_of_getElem? (i := 37) rfl)
theorem w38 {Z : State} {a0 : Array Value} (hw : Wds Z a0) : (Jvm.Cond.code ({ cls := "com/example/pacerd/pacerd/run/Outcome", name := "exitCode", desc := "()Ljava/lang/Integer;" } : Jvm.MethodName) prog_25_method_8_code (1 : Nat) (Option.some (Jvm.ClassFile.FieldType.object "java/lang/Integer"))).before a0 Z = true := hw _ (List.mem_of_getElem? (i := 38) rfl)
theorem w39 {Z : State} {a0 : Array Value} (hw : Wds Z a0) : (Jvm.Cond.methodLink "com/example/pacerd/pacerd/run/OutcomeCutShortPinLaw" (36 : Nat) ({ cls := "com/example/pacerd/pacerd/run/Outcome", name := "httpStatus", desc := "()Ljava/lang/Integer;" } : Jvm.MethodName)).before a0 Z = true := hw _ (List.mem_of_getElem? (i := 39) rfl)
theorem w40 {Z : State} {a0 : Array Value} (hw : Wds Z a0) : (Jvm.Cond.declares ({ cls := "com/example/pacerd/pacerd/run/Outcome", name := "httpStatus", desc := "()Ljava/lang/Integer;" } : Jvm.MethodName)).before a0 Z = true := hw _ (List.mem_of_getElem? (i := 40) rfl)
theorem w41 {Z : State} {a0 : Array Value} (hw : Wds Z a0) : (Jvm.Cond.instanceMethod ({ cls := "com/example/pacerd/pacerd/run/Outcome", name := "httpStatus", desc := "()Ljava/lang/Integer;" } : Jvm.MethodName)).before a0 Z = true := hw _ (List.mem_of_getElem? (i := 41) rfl)
theorem w42 {Z : State} {a0 : Array Value} (hw : Wds Z a0) : (Jvm.Cond.selects "com/example/pacerd/pacerd/run/Outcome" ({ cls := "com/example/pacerd/pacerd/run/Outcome", name := "httpStatus", desc := "()Ljava/lang/Integer;" } : Jvm.MethodName) ({ cls := "com/example/pacerd/pacerd/run/Outcome", name := "httpStatus", desc := "()Ljava/lang/Integer;" } : Jvm.MethodName)).before a0 Z = true := hw _ (List.mem_of_getElem? (i := 42) rfl)
theorem w43 {Z : State} {a0 : Array Value} (hw : Wds Z a0) : (Jvm.Cond.code ({ cls := "com/example/pacerd/pacerd/run/Outcome", name := "httpStatus", desc := "()Ljava/lang/Integer;" } : Jvm.MethodName) prog_25_method_9_code (1 : Nat) (Option.some (Jvm.ClassFile.FieldType.object "java/lang/Integer"))).before a0 Z = true := hw _ (List.mem_of_getElem? (i := 43) rfl)
theorem w44 {Z : State} {a0 : Array Value} (hw : Wds Z a0) : (Jvm.Cond.methodLink "com/example/pacerd/pacerd/run/OutcomeCutShortPinLaw" (39 : Nat) ({ cls := "com/example/pacerd/pacerd/run/Outcome", name := "output", desc := "()[B" } : Jvm.MethodName)).before a0 Z = true := hw _ (List.mem_of_getElem? (i := 44) rfl)
theorem w45 {Z : State} {a0 : Array Value} (hw : Wds Z a0) : (Jvm.Cond.declares ({ cls := "com/example/pacerd/pacerd/run/Outcome", name := "output", desc := "()[B" } : Jvm.MethodName)).before a0 Z = true := hw _ (List.mem_of_getElem? (i := 45) rfl)
theorem w46 {Z : State} {a0 : Array Value} (hw : Wds Z a0) : (Jvm.Cond.instanceMethod ({ cls := "com/example/pacerd/pacerd/run/Outcome", name := "output", desc := "()[B" } : Jvm.MethodName)).before a0 Z = true := hw _ (List.mem_of_getElem? (i := 46) rfl)
theorem w47 {Z : State} {a0 : Array Value} (hw : Wds Z a0) : (Jvm.Cond.selects "com/example/pacerd/pacerd/run/Outcome" ({ cls := "com/example/pacerd/pacerd/run/Outcome", name := "output", desc := "()[B" } : Jvm.MethodName) ({ cls := "com/example/pacerd/pacerd/run/Outcome", name := "output", desc := "()[B" } : Jvm.MethodName)).before a0 Z = true := hw _ (List.mem_of_getElem? (i := 47) rfl)
theorem w48 {Z : State} {a0 : Array Value} (hw : Wds Z a0) : (Jvm.Cond.code ({ cls := "com/example/pacerd/pacerd/run/Outcome", name := "output", desc := "()[B" } : Jvm.MethodName) prog_25_method_10_code (1 : Nat) (Option.some (Jvm.ClassFile.FieldType.array Jvm.ClassFile.FieldType.byte))).before a0 Z = true := hw _ (List.mem_of_getElem? (i := 48) rfl)
theorem w49 {Z : State} {a0 : Array Value} (hw : Wds Z a0) : (Jvm.Cond.fieldLink "com/example/pacerd/pacerd/run/OutcomeCutShortPinLaw" (19 : Nat) "com/example/pacerd/pacerd/run/RunStatus" "ABANDONED" "Lcom/example/pacerd/pacerd/run/RunStatus;").before a0 Z = true := hw _ (List.mem_of_getElem? (i := 49) rfl)
theorem w50 {Z : State} {a0 : Array Value} (hw : Wds Z a0) : (Jvm.Cond.laysStatic "com/example/pacerd/pacerd/run/RunStatus" "ABANDONED" "Lcom/example/pacerd/pacerd/run/RunStatus;").before a0 Z = true := hw _ (List.mem_of_getElem? (i := 50) rfl)
theorem w51 {Z : State} {a0 : Array Value} (hw : Wds Z a0) : (Jvm.Cond.fieldLink "com/example/pacerd/pacerd/run/OutcomeCutShortPinLaw" (16 : Nat) "com/example/pacerd/pacerd/run/RunStatus" "TIMED_OUT" "Lcom/example/pacerd/pacerd/run/RunStatus;").before a0 Z = true := hw _ (List.mem_of_getElem? (i := 51) rfl)
theorem w52 {Z : State} {a0 : Array Value} (hw : Wds Z a0) : (Jvm.Cond.laysStatic "com/example/pacerd/pacerd/run/RunStatus" "TIMED_OUT" "Lcom/example/pacerd/pacerd/run/RunStatus;").before a0 Z = true := hw _ (List.mem_of_getElem? (i := 52) rfl)
theorem w53 {Z : State} {a0 : Array Value} (hw : Wds Z a0) : (Jvm.Cond.fieldLink "com/example/pacerd/pacerd/run/OutcomeCutShortPinLaw" (13 : Nat) "com/example/pacerd/pacerd/run/RunStatus" "FAILED" "Lcom/example/pacerd/pacerd/run/RunStatus;").before a0 Z = true := hw _ (List.mem_of_getElem? (i := 53) rfl)
theorem w54 {Z : State} {a0 : Array Value} (hw : Wds Z a0) : (Jvm.Cond.laysStatic "com/example/pacerd/pacerd/run/RunStatus" "FAILED" "Lcom/example/pacerd/pacerd/run/RunStatus;").before a0 Z = true := hw _ (List.mem_of_getElem? (i := 54) rfl)
theorem lay_0 {Z : State} {a0 : Array Value} (hw : Wds Z a0) : LayD Z a0 "com/example/pacerd/pacerd/run/Outcome" [("com/example/pacerd/pacerd/run/Outcome", "status", "Lcom/example/pacerd/pacerd/run/RunStatus;", .null), ("com/example/pacerd/pacerd/run/Outcome", "exitCode", "Ljava/lang/Integer;", .null), ("com/example/pacerd/pacerd/run/Outcome", "httpStatus", "Ljava/lang/Integer;", .null), ("com/example/pacerd/pacerd/run/Outcome", "output", "[B", .null)] := ⟨fun f hf => by
  simp only [List.mem_cons, List.not_mem_nil, or_false] at hf
  rcases hf with rfl | rfl | rfl | rfl
  · exact ⟨Or.inr (w22 hw), (.object "com/example/pacerd/pacerd/run/RunStatus"), by decide, rfl⟩
  · exact ⟨Or.inr (w24 hw), (.object "java/lang/Integer"), by decide, rfl⟩
  · exact ⟨Or.inr (w26 hw), (.object "java/lang/Integer"), by decide, rfl⟩
  · exact ⟨Or.inr (w28 hw), (.array .byte), by decide, rfl⟩, by decide⟩
theorem i0_0 : Ins code 0 (.iload_n 0) 1 1 := ⟨at_0, rfl⟩
theorem i0_1 : Ins code 1 (.iconst 3) 1 2 := ⟨at_1, rfl⟩
theorem i0_2 : Ins code 2 (.iand) 1 3 := ⟨at_2, rfl⟩
theorem i0_3 : Ins code 3 (.istore 5) 2 5 := ⟨at_3, rfl⟩
theorem i0_5 : Ins code 5 (.iload 5) 2 7 := ⟨at_5, rfl⟩
theorem i0_7 : Ins code 7 (.ifCond .ne 11) 3 10 := ⟨at_7, rfl⟩
theorem i0_10 : Ins code 10 (.getstatic 7) 3 13 := ⟨at_10, rfl⟩
theorem i0_13 : Ins code 13 (.astore 6) 2 15 := ⟨at_13, rfl⟩
theorem i0_15 : Ins code 15 (.goto 36) 3 18 := ⟨at_15, rfl⟩
theorem i0_18 : Ins code 18 (.iload 5) 2 20 := ⟨at_18, rfl⟩
theorem i0_20 : Ins code 20 (.iconst 1) 1 21 := ⟨at_20, rfl⟩
theorem i0_21 : Ins code 21 (.if_icmp .ne 11) 3 24 := ⟨at_21, rfl⟩
theorem i0_24 : Ins code 24 (.getstatic 13) 3 27 := ⟨at_24, rfl⟩
theorem i0_27 : Ins code 27 (.astore 6) 2 29 := ⟨at_27, rfl⟩
theorem i0_29 : Ins code 29 (.goto 22) 3 32 := ⟨at_29, rfl⟩
theorem i0_32 : Ins code 32 (.iload 5) 2 34 := ⟨at_32, rfl⟩
theorem i0_34 : Ins code 34 (.iconst 2) 1 35 := ⟨at_34, rfl⟩
theorem i0_35 : Ins code 35 (.if_icmp .ne 11) 3 38 := ⟨at_35, rfl⟩
theorem i0_38 : Ins code 38 (.getstatic 16) 3 41 := ⟨at_38, rfl⟩
theorem i0_41 : Ins code 41 (.astore 6) 2 43 := ⟨at_41, rfl⟩
theorem i0_43 : Ins code 43 (.goto 8) 3 46 := ⟨at_43, rfl⟩
theorem i0_46 : Ins code 46 (.getstatic 19) 3 49 := ⟨at_46, rfl⟩
theorem i0_49 : Ins code 49 (.astore 6) 2 51 := ⟨at_49, rfl⟩
theorem i0_51 : Ins code 51 (.iload_n 1) 1 52 := ⟨at_51, rfl⟩
theorem i0_52 : Ins code 52 (.iconst 3) 1 53 := ⟨at_52, rfl⟩
theorem i0_53 : Ins code 53 (.iand) 1 54 := ⟨at_53, rfl⟩
theorem i0_54 : Ins code 54 (.istore 7) 2 56 := ⟨at_54, rfl⟩
theorem i0_56 : Ins code 56 (.iload_n 1) 1 57 := ⟨at_56, rfl⟩
theorem i0_57 : Ins code 57 (.iconst 4) 1 58 := ⟨at_57, rfl⟩
theorem i0_58 : Ins code 58 (.iand) 1 59 := ⟨at_58, rfl⟩
theorem i0_59 : Ins code 59 (.ifCond .eq 7) 3 62 := ⟨at_59, rfl⟩
theorem i0_62 : Ins code 62 (.iconst 1) 1 63 := ⟨at_62, rfl⟩
theorem i0_63 : Ins code 63 (.goto 4) 3 66 := ⟨at_63, rfl⟩
theorem i0_66 : Ins code 66 (.iconst 0) 1 67 := ⟨at_66, rfl⟩
theorem i0_67 : Ins code 67 (.istore 8) 2 69 := ⟨at_67, rfl⟩
theorem i0_69 : Ins code 69 (.iload_n 2) 1 70 := ⟨at_69, rfl⟩
theorem i0_70 : Ins code 70 (.i2b) 1 71 := ⟨at_70, rfl⟩
theorem i0_71 : Ins code 71 (.istore 9) 2 73 := ⟨at_71, rfl⟩
theorem i0_73 : Ins code 73 (.iload_n 3) 1 74 := ⟨at_73, rfl⟩
theorem i0_74 : Ins code 74 (.i2b) 1 75 := ⟨at_74, rfl⟩
theorem i0_75 : Ins code 75 (.istore 10) 2 77 := ⟨at_75, rfl⟩
theorem i0_77 : Ins code 77 (.iload 4) 2 79 := ⟨at_77, rfl⟩
theorem i0_79 : Ins code 79 (.i2b) 1 80 := ⟨at_79, rfl⟩
theorem i0_80 : Ins code 80 (.istore 11) 2 82 := ⟨at_80, rfl⟩
theorem i0_82 : Ins code 82 (.iload 8) 2 84 := ⟨at_82, rfl⟩
theorem i0_84 : Ins code 84 (.ifCond .eq 9) 3 87 := ⟨at_84, rfl⟩
theorem i0_87 : Ins code 87 (.aconst_null) 1 88 := ⟨at_87, rfl⟩
theorem i0_88 : Ins code 88 (.astore 12) 2 90 := ⟨at_88, rfl⟩
theorem i0_90 : Ins code 90 (.goto 79) 3 93 := ⟨at_90, rfl⟩
theorem i0_93 : Ins code 93 (.iload 7) 2 95 := ⟨at_93, rfl⟩
theorem i0_95 : Ins code 95 (.ifCond .ne 11) 3 98 := ⟨at_95, rfl⟩
theorem i0_98 : Ins code 98 (.iconst 0) 1 99 := ⟨at_98, rfl⟩
theorem i0_99 : Ins code 99 (.newarray .byte) 2 101 := ⟨at_99, rfl⟩
theorem i0_101 : Ins code 101 (.astore 12) 2 103 := ⟨at_101, rfl⟩
theorem i0_103 : Ins code 103 (.goto 66) 3 106 := ⟨at_103, rfl⟩
theorem i0_106 : Ins code 106 (.iload 7) 2 108 := ⟨at_106, rfl⟩
theorem i0_108 : Ins code 108 (.iconst 1) 1 109 := ⟨at_108, rfl⟩
theorem i0_109 : Ins code 109 (.if_icmp .ne 16) 3 112 := ⟨at_109, rfl⟩
theorem i0_112 : Ins code 112 (.iconst 1) 1 113 := ⟨at_112, rfl⟩
theorem i0_113 : Ins code 113 (.newarray .byte) 2 115 := ⟨at_113, rfl⟩
theorem i0_115 : Ins code 115 (.dup) 1 116 := ⟨at_115, rfl⟩
theorem i0_116 : Ins code 116 (.iconst 0) 1 117 := ⟨at_116, rfl⟩
theorem i0_117 : Ins code 117 (.iload 9) 2 119 := ⟨at_117, rfl⟩
theorem i0_119 : Ins code 119 (.bastore) 1 120 := ⟨at_119, rfl⟩
theorem i0_120 : Ins code 120 (.astore 12) 2 122 := ⟨at_120, rfl⟩
theorem i0_122 : Ins code 122 (.goto 47) 3 125 := ⟨at_122, rfl⟩
theorem i0_125 : Ins code 125 (.iload 7) 2 127 := ⟨at_125, rfl⟩
theorem i0_127 : Ins code 127 (.iconst 2) 1 128 := ⟨at_127, rfl⟩
theorem i0_128 : Ins code 128 (.if_icmp .ne 21) 3 131 := ⟨at_128, rfl⟩
theorem i0_131 : Ins code 131 (.iconst 2) 1 132 := ⟨at_131, rfl⟩
theorem i0_132 : Ins code 132 (.newarray .byte) 2 134 := ⟨at_132, rfl⟩
theorem i0_134 : Ins code 134 (.dup) 1 135 := ⟨at_134, rfl⟩
theorem i0_135 : Ins code 135 (.iconst 0) 1 136 := ⟨at_135, rfl⟩
theorem i0_136 : Ins code 136 (.iload 9) 2 138 := ⟨at_136, rfl⟩
theorem i0_138 : Ins code 138 (.bastore) 1 139 := ⟨at_138, rfl⟩
theorem i0_139 : Ins code 139 (.dup) 1 140 := ⟨at_139, rfl⟩
theorem i0_140 : Ins code 140 (.iconst 1) 1 141 := ⟨at_140, rfl⟩
theorem i0_141 : Ins code 141 (.iload 10) 2 143 := ⟨at_141, rfl⟩
theorem i0_143 : Ins code 143 (.bastore) 1 144 := ⟨at_143, rfl⟩
theorem i0_144 : Ins code 144 (.astore 12) 2 146 := ⟨at_144, rfl⟩
theorem i0_146 : Ins code 146 (.goto 23) 3 149 := ⟨at_146, rfl⟩
theorem i0_149 : Ins code 149 (.iconst 3) 1 150 := ⟨at_149, rfl⟩
theorem i0_150 : Ins code 150 (.newarray .byte) 2 152 := ⟨at_150, rfl⟩
theorem i0_152 : Ins code 152 (.dup) 1 153 := ⟨at_152, rfl⟩
theorem i0_153 : Ins code 153 (.iconst 0) 1 154 := ⟨at_153, rfl⟩
theorem i0_154 : Ins code 154 (.iload 9) 2 156 := ⟨at_154, rfl⟩
theorem i0_156 : Ins code 156 (.bastore) 1 157 := ⟨at_156, rfl⟩
theorem i0_157 : Ins code 157 (.dup) 1 158 := ⟨at_157, rfl⟩
theorem i0_158 : Ins code 158 (.iconst 1) 1 159 := ⟨at_158, rfl⟩
theorem i0_159 : Ins code 159 (.iload 10) 2 161 := ⟨at_159, rfl⟩
theorem i0_161 : Ins code 161 (.bastore) 1 162 := ⟨at_161, rfl⟩
theorem i0_162 : Ins code 162 (.dup) 1 163 := ⟨at_162, rfl⟩
theorem i0_163 : Ins code 163 (.iconst 2) 1 164 := ⟨at_163, rfl⟩
theorem i0_164 : Ins code 164 (.iload 11) 2 166 := ⟨at_164, rfl⟩
theorem i0_166 : Ins code 166 (.bastore) 1 167 := ⟨at_166, rfl⟩
theorem i0_167 : Ins code 167 (.astore 12) 2 169 := ⟨at_167, rfl⟩
theorem i0_169 : Ins code 169 (.aload 6) 2 171 := ⟨at_169, rfl⟩
theorem i0_171 : Ins code 171 (.aload 12) 2 173 := ⟨at_171, rfl⟩
theorem i0_173 : Ins code 173 (.invokestatic 22) 3 176 := ⟨at_173, rfl⟩
theorem i0_176 : Ins code 176 (.astore 13) 2 178 := ⟨at_176, rfl⟩
theorem i0_178 : Ins code 178 (.aload 13) 2 180 := ⟨at_178, rfl⟩
theorem i0_180 : Ins code 180 (.ifnonnull 5) 3 183 := ⟨at_180, rfl⟩
theorem i0_185 : Ins code 185 (.aload 13) 2 187 := ⟨at_185, rfl⟩
theorem i0_187 : Ins code 187 (.invokevirtual 28) 3 190 := ⟨at_187, rfl⟩
theorem i0_190 : Ins code 190 (.aload 6) 2 192 := ⟨at_190, rfl⟩
theorem i0_192 : Ins code 192 (.if_acmp .eq 5) 3 195 := ⟨at_192, rfl⟩
theorem i0_197 : Ins code 197 (.aload 13) 2 199 := ⟨at_197, rfl⟩
theorem i0_199 : Ins code 199 (.invokevirtual 32) 3 202 := ⟨at_199, rfl⟩
theorem i0_202 : Ins code 202 (.ifnull 5) 3 205 := ⟨at_202, rfl⟩
theorem i0_207 : Ins code 207 (.aload 13) 2 209 := ⟨at_207, rfl⟩
theorem i0_209 : Ins code 209 (.invokevirtual 36) 3 212 := ⟨at_209, rfl⟩
theorem i0_212 : Ins code 212 (.ifnull 5) 3 215 := ⟨at_212, rfl⟩
theorem i0_217 : Ins code 217 (.aload 13) 2 219 := ⟨at_217, rfl⟩
theorem i0_219 : Ins code 219 (.invokevirtual 39) 3 222 := ⟨at_219, rfl⟩
theorem i0_222 : Ins code 222 (.astore 14) 2 224 := ⟨at_222, rfl⟩
theorem i0_224 : Ins code 224 (.iload 8) 2 226 := ⟨at_224, rfl⟩
theorem i0_226 : Ins code 226 (.ifCond .eq 14) 3 229 := ⟨at_226, rfl⟩
theorem i0_229 : Ins code 229 (.aload 14) 2 231 := ⟨at_229, rfl⟩
theorem i0_231 : Ins code 231 (.ifnonnull 7) 3 234 := ⟨at_231, rfl⟩
theorem i0_234 : Ins code 234 (.iconst 1) 1 235 := ⟨at_234, rfl⟩
theorem i0_235 : Ins code 235 (.goto 4) 3 238 := ⟨at_235, rfl⟩
theorem i0_239 : Ins code 239 (.ireturn) 1 240 := ⟨at_239, rfl⟩
theorem i0_240 : Ins code 240 (.aload 14) 2 242 := ⟨at_240, rfl⟩
theorem i0_242 : Ins code 242 (.ifnonnull 5) 3 245 := ⟨at_242, rfl⟩
theorem i0_247 : Ins code 247 (.aload 14) 2 249 := ⟨at_247, rfl⟩
theorem i0_249 : Ins code 249 (.arraylength) 1 250 := ⟨at_249, rfl⟩
theorem i0_250 : Ins code 250 (.iload 7) 2 252 := ⟨at_250, rfl⟩
theorem i0_252 : Ins code 252 (.if_icmp .eq 5) 3 255 := ⟨at_252, rfl⟩
theorem i0_257 : Ins code 257 (.iload 7) 2 259 := ⟨at_257, rfl⟩
theorem i0_259 : Ins code 259 (.iconst 1) 1 260 := ⟨at_259, rfl⟩
theorem i0_260 : Ins code 260 (.if_icmp .lt 14) 3 263 := ⟨at_260, rfl⟩
theorem i0_263 : Ins code 263 (.aload 14) 2 265 := ⟨at_263, rfl⟩
theorem i0_265 : Ins code 265 (.iconst 0) 1 266 := ⟨at_265, rfl⟩
theorem i0_266 : Ins code 266 (.baload) 1 267 := ⟨at_266, rfl⟩
theorem i0_267 : Ins code 267 (.iload 9) 2 269 := ⟨at_267, rfl⟩
theorem i0_269 : Ins code 269 (.if_icmp .eq 5) 3 272 := ⟨at_269, rfl⟩
theorem i0_274 : Ins code 274 (.iload 7) 2 276 := ⟨at_274, rfl⟩
theorem i0_276 : Ins code 276 (.iconst 2) 1 277 := ⟨at_276, rfl⟩
theorem i0_277 : Ins code 277 (.if_icmp .lt 14) 3 280 := ⟨at_277, rfl⟩
theorem i0_280 : Ins code 280 (.aload 14) 2 282 := ⟨at_280, rfl⟩
theorem i0_282 : Ins code 282 (.iconst 1) 1 283 := ⟨at_282, rfl⟩
theorem i0_283 : Ins code 283 (.baload) 1 284 := ⟨at_283, rfl⟩
theorem i0_284 : Ins code 284 (.iload 10) 2 286 := ⟨at_284, rfl⟩
theorem i0_286 : Ins code 286 (.if_icmp .eq 5) 3 289 := ⟨at_286, rfl⟩
theorem i0_291 : Ins code 291 (.iload 7) 2 293 := ⟨at_291, rfl⟩
theorem i0_293 : Ins code 293 (.iconst 3) 1 294 := ⟨at_293, rfl⟩
theorem i0_294 : Ins code 294 (.if_icmp .lt 14) 3 297 := ⟨at_294, rfl⟩
theorem i0_297 : Ins code 297 (.aload 14) 2 299 := ⟨at_297, rfl⟩
theorem i0_299 : Ins code 299 (.iconst 2) 1 300 := ⟨at_299, rfl⟩
theorem i0_300 : Ins code 300 (.baload) 1 301 := ⟨at_300, rfl⟩
theorem i0_301 : Ins code 301 (.iload 11) 2 303 := ⟨at_301, rfl⟩
theorem i0_303 : Ins code 303 (.if_icmp .eq 5) 3 306 := ⟨at_303, rfl⟩
theorem i0_308 : Ins code 308 (.iconst 1) 1 309 := ⟨at_308, rfl⟩
theorem i0_309 : Ins code 309 (.ireturn) 1 310 := ⟨at_309, rfl⟩
theorem i1_0 : Ins prog_25_method_3_code 0 (.new 8) 3 3 := ⟨by decide +kernel, rfl⟩
theorem i1_3 : Ins prog_25_method_3_code 3 (.dup) 1 4 := ⟨by decide +kernel, rfl⟩
theorem i1_4 : Ins prog_25_method_3_code 4 (.aload_n 0) 1 5 := ⟨by decide +kernel, rfl⟩
theorem i1_5 : Ins prog_25_method_3_code 5 (.aconst_null) 1 6 := ⟨by decide +kernel, rfl⟩
theorem i1_6 : Ins prog_25_method_3_code 6 (.aconst_null) 1 7 := ⟨by decide +kernel, rfl⟩
theorem i1_7 : Ins prog_25_method_3_code 7 (.aload_n 1) 1 8 := ⟨by decide +kernel, rfl⟩
theorem i1_8 : Ins prog_25_method_3_code 8 (.invokespecial 45) 3 11 := ⟨by decide +kernel, rfl⟩
theorem i1_11 : Ins prog_25_method_3_code 11 (.areturn) 1 12 := ⟨by decide +kernel, rfl⟩
theorem i2_0 : Ins prog_25_method_1_code 0 (.aload_n 0) 1 1 := ⟨by decide +kernel, rfl⟩
theorem i2_1 : Ins prog_25_method_1_code 1 (.invokespecial 1) 3 4 := ⟨by decide +kernel, rfl⟩
theorem i2_4 : Ins prog_25_method_1_code 4 (.aload_n 0) 1 5 := ⟨by decide +kernel, rfl⟩
theorem i2_5 : Ins prog_25_method_1_code 5 (.aload_n 1) 1 6 := ⟨by decide +kernel, rfl⟩
theorem i2_6 : Ins prog_25_method_1_code 6 (.putfield 7) 3 9 := ⟨by decide +kernel, rfl⟩
theorem i2_9 : Ins prog_25_method_1_code 9 (.aload_n 0) 1 10 := ⟨by decide +kernel, rfl⟩
theorem i2_10 : Ins prog_25_method_1_code 10 (.aload_n 2) 1 11 := ⟨by decide +kernel, rfl⟩
theorem i2_11 : Ins prog_25_method_1_code 11 (.putfield 13) 3 14 := ⟨by decide +kernel, rfl⟩
theorem i2_14 : Ins prog_25_method_1_code 14 (.aload_n 0) 1 15 := ⟨by decide +kernel, rfl⟩
theorem i2_15 : Ins prog_25_method_1_code 15 (.aload_n 3) 1 16 := ⟨by decide +kernel, rfl⟩
theorem i2_16 : Ins prog_25_method_1_code 16 (.putfield 17) 3 19 := ⟨by decide +kernel, rfl⟩
theorem i2_19 : Ins prog_25_method_1_code 19 (.aload_n 0) 1 20 := ⟨by decide +kernel, rfl⟩
theorem i2_20 : Ins prog_25_method_1_code 20 (.aload 4) 2 22 := ⟨by decide +kernel, rfl⟩
theorem i2_22 : Ins prog_25_method_1_code 22 (.putfield 20) 3 25 := ⟨by decide +kernel, rfl⟩
theorem i2_25 : Ins prog_25_method_1_code 25 (.return_) 1 26 := ⟨by decide +kernel, rfl⟩
theorem i3_0 : Ins jdk_30_method_1_code 0 (.aload_n 0) 1 1 := ⟨by decide +kernel, rfl⟩
theorem i3_1 : Ins jdk_30_method_1_code 1 (.invokespecial 1) 3 4 := ⟨by decide +kernel, rfl⟩
theorem i3_4 : Ins jdk_30_method_1_code 4 (.return_) 1 5 := ⟨by decide +kernel, rfl⟩
theorem i5_0 : Ins prog_25_method_7_code 0 (.aload_n 0) 1 1 := ⟨by decide +kernel, rfl⟩
theorem i5_1 : Ins prog_25_method_7_code 1 (.getfield 7) 3 4 := ⟨by decide +kernel, rfl⟩
theorem i5_4 : Ins prog_25_method_7_code 4 (.areturn) 1 5 := ⟨by decide +kernel, rfl⟩
theorem i6_0 : Ins prog_25_method_8_code 0 (.aload_n 0) 1 1 := ⟨by decide +kernel, rfl⟩
theorem i6_1 : Ins prog_25_method_8_code 1 (.getfield 13) 3 4 := ⟨by decide +kernel, rfl⟩
theorem i6_4 : Ins prog_25_method_8_code 4 (.areturn) 1 5 := ⟨by decide +kernel, rfl⟩
theorem i7_0 : Ins prog_25_method_9_code 0 (.aload_n 0) 1 1 := ⟨by decide +kernel, rfl⟩
theorem i7_1 : Ins prog_25_method_9_code 1 (.getfield 17) 3 4 := ⟨by decide +kernel, rfl⟩
theorem i7_4 : Ins prog_25_method_9_code 4 (.areturn) 1 5 := ⟨by decide +kernel, rfl⟩
theorem i8_0 : Ins prog_25_method_10_code 0 (.aload_n 0) 1 1 := ⟨by decide +kernel, rfl⟩
theorem i8_1 : Ins prog_25_method_10_code 1 (.getfield 20) 3 4 := ⟨by decide +kernel, rfl⟩
theorem i8_4 : Ins prog_25_method_10_code 4 (.areturn) 1 5 := ⟨by decide +kernel, rfl⟩
theorem pd_0 : parseMethodDescriptor "()V" = some ⟨[], none⟩ := by decide +kernel
theorem pd_1 : parseMethodDescriptor "(Lcom/example/pacerd/pacerd/run/RunStatus;Ljava/lang/Integer;Ljava/lang/Integer;[B)V" = some ⟨[(.object "com/example/pacerd/pacerd/run/RunStatus"), (.object "java/lang/Integer"), (.object "java/lang/Integer"), (.array .byte)], none⟩ := by decide +kernel
theorem pd_2 : parseMethodDescriptor "(Lcom/example/pacerd/pacerd/run/RunStatus;[B)Lcom/example/pacerd/pacerd/run/Outcome;" = some ⟨[(.object "com/example/pacerd/pacerd/run/RunStatus"), (.array .byte)], some (.object "com/example/pacerd/pacerd/run/Outcome")⟩ := by decide +kernel
theorem pd_3 : parseMethodDescriptor "()Lcom/example/pacerd/pacerd/run/RunStatus;" = some ⟨[], some (.object "com/example/pacerd/pacerd/run/RunStatus")⟩ := by decide +kernel
theorem pd_4 : parseMethodDescriptor "()Ljava/lang/Integer;" = some ⟨[], some (.object "java/lang/Integer")⟩ := by decide +kernel
theorem pd_5 : parseMethodDescriptor "()[B" = some ⟨[], some (.array .byte)⟩ := by decide +kernel
theorem own_narR {v : Value} {t : FieldType} (h : v.isRef = true) : narrow t v = v := by cases v <;> simp [Value.isRef] at h <;> (cases t <;> rfl)
theorem own_fitR {v : Value} {t : FieldType} (h : v.isRef = true) (ht : t.isReference = true := by rfl) : fits t v = true := by cases v <;> simp [Value.isRef] at h <;> (cases t <;> first | rfl | (simp [FieldType.isReference] at ht))
theorem own_bb {b x : Int32} (h : b.toInt8.toInt32 = x) : x.toInt8.toInt32 = x := by subst h; simp
theorem own_and3 (x : Int32) : x &&& 3 = 0 ∨ x &&& 3 = 1 ∨ x &&& 3 = 2 ∨ x &&& 3 = 3 := by
  have h : (x &&& 3).toInt = x.toInt % (2 ^ 2 : Nat) := c_mask x 3 2 (by decide) (by decide)
  have e : ∀ k : Int32, (x &&& 3).toInt = k.toInt → x &&& 3 = k := fun k q => Int32.toInt_inj.mp q
  have h0 : (0 : Int32).toInt = 0 := rfl
  have h1 : (1 : Int32).toInt = 1 := rfl
  have h2 : (2 : Int32).toInt = 2 := rfl
  have h3 : (3 : Int32).toInt = 3 := rfl
  have : (x &&& 3).toInt = 0 ∨ (x &&& 3).toInt = 1 ∨ (x &&& 3).toInt = 2 ∨ (x &&& 3).toInt = 3 := by omega
  rcases this with q | q | q | q
  · exact Or.inl (e 0 (q.trans h0.symm))
  · exact Or.inr (Or.inl (e 1 (q.trans h1.symm)))
  · exact Or.inr (Or.inr (Or.inl (e 2 (q.trans h2.symm))))
  · exact Or.inr (Or.inr (Or.inr (e 3 (q.trans h3.symm))))
set_option maxRecDepth 65536 in
set_option maxHeartbeats 4000000 in
theorem own_cR (l : Launch) (Z : State) (a0 : Array Value) (hw : Wds Z a0) (n0 : Nat) (a : Addr) (h0 : Heap) : Con false l Z [] n0 (⟨"java/lang/Record", "<init>", "()V"⟩ : MethodName) jdk_30_method_1_code 1 none ({ frames := 1, cells := 0, slots := 0, locals := 12 } : Room) #[(.ref a)] [] h0 (fun v h D' => v = none ∧ h0 = h ∧ D' = []) := by
  refine Con.of_runs (ls := #[.val (.ref a)]) (by decide +kernel) (fun m => rfl) ?_
  refine Runs.aloadN i3_0 rfl rfl ?_
  refine Runs.initO (W := 0) i3_1 (w18 hw) (w19 hw) (w20 hw) rfl (by decide) rfl (by decide) ?_
  exact Runs.retV i3_4 rfl (by decide) (by decide) ⟨rfl, rfl, rfl⟩
set_option maxRecDepth 65536 in
set_option maxHeartbeats 4000000 in
theorem own_cI (l : Launch) (Z : State) (a0 : Array Value) (hw : Wds Z a0) (n0 : Nat) (a sv : Addr) (ov : Value) (hov : ov.isRef = true) (h0 : Heap) (ga : n0 ≤ a) (O0 : Obj Z h0 a "com/example/pacerd/pacerd/run/Outcome" [("com/example/pacerd/pacerd/run/Outcome", "status", "Lcom/example/pacerd/pacerd/run/RunStatus;", .null), ("com/example/pacerd/pacerd/run/Outcome", "exitCode", "Ljava/lang/Integer;", .null), ("com/example/pacerd/pacerd/run/Outcome", "httpStatus", "Ljava/lang/Integer;", .null), ("com/example/pacerd/pacerd/run/Outcome", "output", "[B", .null)]) : Con false l Z [] n0 (⟨"com/example/pacerd/pacerd/run/Outcome", "<init>", "(Lcom/example/pacerd/pacerd/run/RunStatus;Ljava/lang/Integer;Ljava/lang/Integer;[B)V"⟩ : MethodName) prog_25_method_1_code 5 none ({ frames := 2, cells := 0, slots := 0, locals := 24 } : Room) #[(.ref a), (.ref sv), .null, .null, ov] [] h0 (fun v h D' => v = none ∧ Keep h0 h [a] ∧ Obj Z h a "com/example/pacerd/pacerd/run/Outcome" [("com/example/pacerd/pacerd/run/Outcome", "status", "Lcom/example/pacerd/pacerd/run/RunStatus;", (.ref sv)), ("com/example/pacerd/pacerd/run/Outcome", "exitCode", "Ljava/lang/Integer;", .null), ("com/example/pacerd/pacerd/run/Outcome", "httpStatus", "Ljava/lang/Integer;", .null), ("com/example/pacerd/pacerd/run/Outcome", "output", "[B", ov)] ∧ D' = []) := by
  refine Con.of_runs (ls := #[.val (.ref a), .val (.ref sv), .val .null, .val .null, .val ov]) (by decide +kernel) (fun m => by rcases ref_cases hov with rfl | ⟨_, rfl⟩ <;> rfl) ?_
  refine Runs.aloadN i2_0 rfl rfl ?_
  refine Runs.callC (argsL := []) (rest := []) (W := 0) i2_1 rfl (w13 hw) (w14 hw) (w17 hw) (w16 hw) (by decide) pd_0 rfl rfl rfl rfl (by decide) (by decide) (by decide) (by decide) all0 (own_cR l Z a0 hw n0 a _) ?_
  intro v h1 D1 q hsz
  obtain ⟨rfl, rfl, rfl⟩ := q
  show Runs false l Z [] n0 _ _ _ _ _ _ _ [] h0 0 0 4 #[.val (.ref a), .val (.ref sv), .val .null, .val .null, .val ov] []
  refine Runs.aloadN i2_4 rfl rfl ?_
  refine Runs.aloadN i2_5 rfl rfl ?_
  refine Runs.putF (i := 0) (ty := (.object "com/example/pacerd/pacerd/run/RunStatus")) i2_6 (host := "") (Or.inl (w21 hw)) Via.refl O0 rfl (lay_0 hw) rfl (Or.inr ⟨(w22 hw), rfl, rfl⟩) (w9 hw) (by decide) rfl rfl ga (Or.inr ⟨by decide, by decide⟩) ?_
  intro h1 K2 (O3 : Obj Z h1 a "com/example/pacerd/pacerd/run/Outcome" [("com/example/pacerd/pacerd/run/Outcome", "status", "Lcom/example/pacerd/pacerd/run/RunStatus;", (.ref sv)), ("com/example/pacerd/pacerd/run/Outcome", "exitCode", "Ljava/lang/Integer;", .null), ("com/example/pacerd/pacerd/run/Outcome", "httpStatus", "Ljava/lang/Integer;", .null), ("com/example/pacerd/pacerd/run/Outcome", "output", "[B", .null)])
  refine Runs.aloadN i2_9 rfl rfl ?_
  refine Runs.aloadN i2_10 rfl rfl ?_
  refine Runs.putF (i := 1) (ty := (.object "java/lang/Integer")) i2_11 (host := "") (Or.inl (w23 hw)) Via.refl O3 rfl (lay_0 hw) rfl (Or.inr ⟨(w24 hw), rfl, rfl⟩) (w9 hw) (by decide) rfl rfl ga (Or.inr ⟨by decide, by decide⟩) ?_
  intro h4 K5 (O6 : Obj Z h4 a "com/example/pacerd/pacerd/run/Outcome" [("com/example/pacerd/pacerd/run/Outcome", "status", "Lcom/example/pacerd/pacerd/run/RunStatus;", (.ref sv)), ("com/example/pacerd/pacerd/run/Outcome", "exitCode", "Ljava/lang/Integer;", .null), ("com/example/pacerd/pacerd/run/Outcome", "httpStatus", "Ljava/lang/Integer;", .null), ("com/example/pacerd/pacerd/run/Outcome", "output", "[B", .null)])
  refine Runs.aloadN i2_14 rfl rfl ?_
  refine Runs.aloadN i2_15 rfl rfl ?_
  refine Runs.putF (i := 2) (ty := (.object "java/lang/Integer")) i2_16 (host := "") (Or.inl (w25 hw)) Via.refl O6 rfl (lay_0 hw) rfl (Or.inr ⟨(w26 hw), rfl, rfl⟩) (w9 hw) (by decide) rfl rfl ga (Or.inr ⟨by decide, by decide⟩) ?_
  intro h7 K8 (O9 : Obj Z h7 a "com/example/pacerd/pacerd/run/Outcome" [("com/example/pacerd/pacerd/run/Outcome", "status", "Lcom/example/pacerd/pacerd/run/RunStatus;", (.ref sv)), ("com/example/pacerd/pacerd/run/Outcome", "exitCode", "Ljava/lang/Integer;", .null), ("com/example/pacerd/pacerd/run/Outcome", "httpStatus", "Ljava/lang/Integer;", .null), ("com/example/pacerd/pacerd/run/Outcome", "output", "[B", .null)])
  refine Runs.aloadN i2_19 rfl rfl ?_
  refine Runs.aload i2_20 rfl hov ?_
  refine Runs.putF (i := 3) (ty := (.array .byte)) i2_22 (host := "") (Or.inl (w27 hw)) Via.refl O9 rfl (lay_0 hw) rfl (Or.inr ⟨(w28 hw), rfl, rfl⟩) (w9 hw) (by decide) (own_narR hov) (own_fitR hov) ga (Or.inr ⟨by decide, by decide⟩) ?_
  intro h10 K11 (O12 : Obj Z h10 a "com/example/pacerd/pacerd/run/Outcome" [("com/example/pacerd/pacerd/run/Outcome", "status", "Lcom/example/pacerd/pacerd/run/RunStatus;", (.ref sv)), ("com/example/pacerd/pacerd/run/Outcome", "exitCode", "Ljava/lang/Integer;", .null), ("com/example/pacerd/pacerd/run/Outcome", "httpStatus", "Ljava/lang/Integer;", .null), ("com/example/pacerd/pacerd/run/Outcome", "output", "[B", ov)])
  exact Runs.retV i2_25 rfl (by decide) (by decide) ⟨rfl, (((((Keep.refl _ _).trans K2 (allS (Or.inl (List.mem_of_getElem? (i := 0) rfl)) all0)).trans K5 (allS (Or.inl (List.mem_of_getElem? (i := 0) rfl)) all0)).trans K8 (allS (Or.inl (List.mem_of_getElem? (i := 0) rfl)) all0)).trans K11 (allS (Or.inl (List.mem_of_getElem? (i := 0) rfl)) all0)), O12, rfl⟩
set_option maxRecDepth 65536 in
set_option maxHeartbeats 4000000 in
theorem own_cC (l : Launch) (Z : State) (a0 : Array Value) (hw : Wds Z a0) (n0 : Nat) (sv : Addr) (ov : Value) (hov : ov.isRef = true) (h0 : Heap) : Con false l Z [] n0 (⟨"com/example/pacerd/pacerd/run/Outcome", "cutShort", "(Lcom/example/pacerd/pacerd/run/RunStatus;[B)Lcom/example/pacerd/pacerd/run/Outcome;"⟩ : MethodName) prog_25_method_3_code 2 (some (.object "com/example/pacerd/pacerd/run/Outcome")) ({ frames := 3, cells := 1, slots := 4, locals := 41 } : Room) #[(.ref sv), ov] [] h0 (fun v h D' => ∃ b, v = some (.ref b) ∧ h0.size ≤ b ∧ Keep h0 h [] ∧ Obj Z h b "com/example/pacerd/pacerd/run/Outcome" [("com/example/pacerd/pacerd/run/Outcome", "status", "Lcom/example/pacerd/pacerd/run/RunStatus;", (.ref sv)), ("com/example/pacerd/pacerd/run/Outcome", "exitCode", "Ljava/lang/Integer;", .null), ("com/example/pacerd/pacerd/run/Outcome", "httpStatus", "Ljava/lang/Integer;", .null), ("com/example/pacerd/pacerd/run/Outcome", "output", "[B", ov)] ∧ D' = []) := by
  refine Con.of_runs (ls := #[.val (.ref sv), .val ov]) (by decide +kernel) (fun m => by rcases ref_cases hov with rfl | ⟨_, rfl⟩ <;> rfl) ?_
  refine Runs.newO i1_0 (w8 hw) (w9 hw) (w6 hw) (lay_0 hw) (by decide) (by decide) ?_
  intro h1 b2 g5 ge6 K3 (O4 : Obj Z h1 b2 "com/example/pacerd/pacerd/run/Outcome" [("com/example/pacerd/pacerd/run/Outcome", "status", "Lcom/example/pacerd/pacerd/run/RunStatus;", .null), ("com/example/pacerd/pacerd/run/Outcome", "exitCode", "Ljava/lang/Integer;", .null), ("com/example/pacerd/pacerd/run/Outcome", "httpStatus", "Ljava/lang/Integer;", .null), ("com/example/pacerd/pacerd/run/Outcome", "output", "[B", .null)]) U7
  refine Runs.dup i1_3 rfl ?_
  refine Runs.aloadN i1_4 rfl rfl ?_
  refine Runs.aconstNull i1_5 ?_
  refine Runs.aconstNull i1_6 ?_
  refine Runs.aloadN i1_7 rfl hov ?_
  refine Runs.callC (argsL := [(.ref sv), .null, .null, ov]) (rest := [(.ref b2)]) (W := 1) i1_8 rfl (w10 hw) (w11 hw) (w12 hw) (w6 hw) (by decide) pd_1 rfl rfl rfl rfl (by decide) (by decide) (by decide) (by decide) all0 (own_cI l Z a0 hw n0 b2 sv ov hov _ ge6 O4) ?_
  intro v h8 D1 q hsz
  obtain ⟨rfl, K9, O10, rfl⟩ := q
  show Runs false l Z [] n0 _ _ _ _ _ _ _ [b2] h8 1 4 11 #[.val (.ref sv), .val ov] [(.ref b2)]
  refine Runs.weak (D1 := []) (fun _ q => nomatch q) ?_
  exact Runs.retA i1_11 rfl rfl rfl (by decide) (by decide) ⟨b2, rfl, g5, (((Keep.refl _ _).trans K3 all0).trans K9 (allS (Or.inr (Nat.le_trans (Nat.le_refl _) g5)) all0)), O10, rfl⟩
set_option maxRecDepth 65536 in
set_option maxHeartbeats 4000000 in
theorem own_g_status (l : Launch) (Z : State) (a0 : Array Value) (hw : Wds Z a0) (n0 : Nat) (a : Addr) (u : Value) (hu : u.isRef = true) (h0 : Heap) (F : Fld Z h0 a "com/example/pacerd/pacerd/run/Outcome" "status" "Lcom/example/pacerd/pacerd/run/RunStatus;" u) : Con false l Z [] n0 (⟨"com/example/pacerd/pacerd/run/Outcome", "status", "()Lcom/example/pacerd/pacerd/run/RunStatus;"⟩ : MethodName) prog_25_method_7_code 1 (some (.object "com/example/pacerd/pacerd/run/RunStatus")) ({ frames := 0, cells := 0, slots := 0, locals := 0 } : Room) #[(.ref a)] [] h0 (fun v h D' => v = some u ∧ h0 = h ∧ D' = []) := by
  refine Con.of_runs (ls := #[.val (.ref a)]) (by decide +kernel) (fun m => rfl) ?_
  refine Runs.aloadN i5_0 rfl rfl ?_
  refine Runs.getF (host := "") i5_1 (Or.inl (w21 hw)) Via.refl F ?_
  exact Runs.retA i5_4 rfl rfl hu (by decide) (by decide) ⟨rfl, rfl, rfl⟩
set_option maxRecDepth 65536 in
set_option maxHeartbeats 4000000 in
theorem own_g_exitCode (l : Launch) (Z : State) (a0 : Array Value) (hw : Wds Z a0) (n0 : Nat) (a : Addr) (u : Value) (hu : u.isRef = true) (h0 : Heap) (F : Fld Z h0 a "com/example/pacerd/pacerd/run/Outcome" "exitCode" "Ljava/lang/Integer;" u) : Con false l Z [] n0 (⟨"com/example/pacerd/pacerd/run/Outcome", "exitCode", "()Ljava/lang/Integer;"⟩ : MethodName) prog_25_method_8_code 1 (some (.object "java/lang/Integer")) ({ frames := 0, cells := 0, slots := 0, locals := 0 } : Room) #[(.ref a)] [] h0 (fun v h D' => v = some u ∧ h0 = h ∧ D' = []) := by
  refine Con.of_runs (ls := #[.val (.ref a)]) (by decide +kernel) (fun m => rfl) ?_
  refine Runs.aloadN i6_0 rfl rfl ?_
  refine Runs.getF (host := "") i6_1 (Or.inl (w23 hw)) Via.refl F ?_
  exact Runs.retA i6_4 rfl rfl hu (by decide) (by decide) ⟨rfl, rfl, rfl⟩
set_option maxRecDepth 65536 in
set_option maxHeartbeats 4000000 in
theorem own_g_httpStatus (l : Launch) (Z : State) (a0 : Array Value) (hw : Wds Z a0) (n0 : Nat) (a : Addr) (u : Value) (hu : u.isRef = true) (h0 : Heap) (F : Fld Z h0 a "com/example/pacerd/pacerd/run/Outcome" "httpStatus" "Ljava/lang/Integer;" u) : Con false l Z [] n0 (⟨"com/example/pacerd/pacerd/run/Outcome", "httpStatus", "()Ljava/lang/Integer;"⟩ : MethodName) prog_25_method_9_code 1 (some (.object "java/lang/Integer")) ({ frames := 0, cells := 0, slots := 0, locals := 0 } : Room) #[(.ref a)] [] h0 (fun v h D' => v = some u ∧ h0 = h ∧ D' = []) := by
  refine Con.of_runs (ls := #[.val (.ref a)]) (by decide +kernel) (fun m => rfl) ?_
  refine Runs.aloadN i7_0 rfl rfl ?_
  refine Runs.getF (host := "") i7_1 (Or.inl (w25 hw)) Via.refl F ?_
  exact Runs.retA i7_4 rfl rfl hu (by decide) (by decide) ⟨rfl, rfl, rfl⟩
set_option maxRecDepth 65536 in
set_option maxHeartbeats 4000000 in
theorem own_g_output (l : Launch) (Z : State) (a0 : Array Value) (hw : Wds Z a0) (n0 : Nat) (a : Addr) (u : Value) (hu : u.isRef = true) (h0 : Heap) (F : Fld Z h0 a "com/example/pacerd/pacerd/run/Outcome" "output" "[B" u) : Con false l Z [] n0 (⟨"com/example/pacerd/pacerd/run/Outcome", "output", "()[B"⟩ : MethodName) prog_25_method_10_code 1 (some (.array .byte)) ({ frames := 0, cells := 0, slots := 0, locals := 0 } : Room) #[(.ref a)] [] h0 (fun v h D' => v = some u ∧ h0 = h ∧ D' = []) := by
  refine Con.of_runs (ls := #[.val (.ref a)]) (by decide +kernel) (fun m => rfl) ?_
  refine Runs.aloadN i8_0 rfl rfl ?_
  refine Runs.getF (host := "") i8_1 (Or.inl (w27 hw)) Via.refl F ?_
  exact Runs.retA i8_4 rfl rfl hu (by decide) (by decide) ⟨rfl, rfl, rfl⟩
set_option maxRecDepth 65536 in
set_option maxHeartbeats 4000000 in
theorem own_rest (l : Launch) (Z : State) (a0 : Array Value) (hw : Wds Z a0) (n0 : Nat) (p1 p2 p3 p4 p5 k : Int32) (sv : Addr) : Runs false l Z [] n0 x.cls x.name code maxLocals ret room_1 (fun v h D' => v = some (.int 1)) [] Z.heap 0 0 51 #[.val (.int p1), .val (.int p2), .val (.int p3), .val (.int p4), .val (.int p5), .val (.int k), .val (.ref sv), .unset, .unset, .unset, .unset, .unset, .unset, .unset, .unset] [] := by
  refine Runs.iloadN i0_51 rfl ?_
  refine Runs.iconst (v := (3 : Int32)) i0_52 (by decide) ?_
  rcases own_and3 p2 with q3 | q3 | q3 | q3
  · refine Runs.iand i0_53 q3 ?_
    refine Runs.istore (ls' := #[.val (.int p1), .val (.int p2), .val (.int p3), .val (.int p4), .val (.int p5), .val (.int k), .val (.ref sv), .val (.int (0 : Int32)), .unset, .unset, .unset, .unset, .unset, .unset, .unset]) i0_54 rfl ?_
    refine Runs.iloadN i0_56 rfl ?_
    refine Runs.iconst (v := (4 : Int32)) i0_57 (by decide) ?_
    obtain ⟨x1, hx1⟩ : ∃ z : Int32, p2 &&& (4 : Int32) = z := ⟨_, rfl⟩
    refine Runs.iand i0_58 hx1 ?_
    by_cases hc59 : x1 = (0 : Int32)
    · refine Runs.ifY (t := 66) i0_59 (by decide) (teq hc59).1 ?_
      refine Runs.iconst (v := (0 : Int32)) i0_66 (by decide) ?_
      refine Runs.istore (ls' := #[.val (.int p1), .val (.int p2), .val (.int p3), .val (.int p4), .val (.int p5), .val (.int k), .val (.ref sv), .val (.int (0 : Int32)), .val (.int (0 : Int32)), .unset, .unset, .unset, .unset, .unset, .unset]) i0_67 rfl ?_
      refine Runs.iloadN i0_69 rfl ?_
      obtain ⟨x2, hx2⟩ : ∃ z : Int32, (Int32.toInt8 p3).toInt32 = z := ⟨_, rfl⟩
      refine Runs.i2b i0_70 hx2 ?_
      refine Runs.istore (ls' := #[.val (.int p1), .val (.int p2), .val (.int p3), .val (.int p4), .val (.int p5), .val (.int k), .val (.ref sv), .val (.int (0 : Int32)), .val (.int (0 : Int32)), .val (.int x2), .unset, .unset, .unset, .unset, .unset]) i0_71 rfl ?_
      refine Runs.iloadN i0_73 rfl ?_
      obtain ⟨x3, hx3⟩ : ∃ z : Int32, (Int32.toInt8 p4).toInt32 = z := ⟨_, rfl⟩
      refine Runs.i2b i0_74 hx3 ?_
      refine Runs.istore (ls' := #[.val (.int p1), .val (.int p2), .val (.int p3), .val (.int p4), .val (.int p5), .val (.int k), .val (.ref sv), .val (.int (0 : Int32)), .val (.int (0 : Int32)), .val (.int x2), .val (.int x3), .unset, .unset, .unset, .unset]) i0_75 rfl ?_
      refine Runs.iload i0_77 rfl ?_
      obtain ⟨x4, hx4⟩ : ∃ z : Int32, (Int32.toInt8 p5).toInt32 = z := ⟨_, rfl⟩
      refine Runs.i2b i0_79 hx4 ?_
      refine Runs.istore (ls' := #[.val (.int p1), .val (.int p2), .val (.int p3), .val (.int p4), .val (.int p5), .val (.int k), .val (.ref sv), .val (.int (0 : Int32)), .val (.int (0 : Int32)), .val (.int x2), .val (.int x3), .val (.int x4), .unset, .unset, .unset]) i0_80 rfl ?_
      refine Runs.iload i0_82 rfl ?_
      refine Runs.ifY (t := 93) i0_84 (by decide) (teq (by decide : (0 : Int32) = (0 : Int32))).1 ?_
      refine Runs.iload i0_93 rfl ?_
      refine Runs.ifN i0_95 (teq (by decide : (0 : Int32) = (0 : Int32))).2 ?_
      refine Runs.iconst (v := (0 : Int32)) i0_98 (by decide) ?_
      refine Runs.newP (cap := 0) (ad := "[B") i0_99 (w3 hw) (by decide) (by decide) (by decide) (by decide) (by decide) rfl ?_
      intro h5 b6 k7 g10 ge11 K8 (A9 : Arv Z h5 b6 k7 .byte (0 : Int32) [] (.int (0 : Int32))) E12
      refine Runs.astore (ls' := #[.val (.int p1), .val (.int p2), .val (.int p3), .val (.int p4), .val (.int p5), .val (.int k), .val (.ref sv), .val (.int (0 : Int32)), .val (.int (0 : Int32)), .val (.int x2), .val (.int x3), .val (.int x4), .val (.ref b6), .unset, .unset]) i0_101 rfl rfl ?_
      refine Runs.goto (t := 169) i0_103 (by decide) ?_
      refine Runs.aload i0_169 rfl rfl ?_
      refine Runs.aload i0_171 rfl rfl ?_
      refine Runs.callS (argsL := [(.ref sv), (.ref b6)]) (rest := []) (W := 0) i0_173 (w4 hw) (w5 hw) (w6 hw) (w7 hw) (by decide) pd_2 rfl rfl rfl rfl (by decide) (by decide) (by decide) (by decide) all0 (own_cC l Z a0 hw n0 sv (.ref b6) rfl _) ?_
      intro v h17 D1 q hsz
      obtain ⟨b13, rfl, g14, K15, O16, rfl⟩ := q
      show Runs false l Z [] n0 _ _ _ _ _ _ _ [b6] h17 2 4 176 #[.val (.int p1), .val (.int p2), .val (.int p3), .val (.int p4), .val (.int p5), .val (.int k), .val (.ref sv), .val (.int (0 : Int32)), .val (.int (0 : Int32)), .val (.int x2), .val (.int x3), .val (.int x4), .val (.ref b6), .unset, .unset] [(.ref b13)]
      refine Runs.astore (ls' := #[.val (.int p1), .val (.int p2), .val (.int p3), .val (.int p4), .val (.int p5), .val (.int k), .val (.ref sv), .val (.int (0 : Int32)), .val (.int (0 : Int32)), .val (.int x2), .val (.int x3), .val (.int x4), .val (.ref b6), .val (.ref b13), .unset]) i0_176 rfl rfl ?_
      refine Runs.aload i0_178 rfl rfl ?_
      refine Runs.nnullY (t := 185) i0_180 (by decide) ?_
      refine Runs.aload i0_185 rfl rfl ?_
      refine Runs.callV (argsL := []) (rest := []) (W := 0) i0_187 (w29 hw) (w30 hw) (fun s hZ => notFace_of_selects (args := #[]) (mvT hZ (w32 hw))) (w32 hw) (w31 hw) (w33 hw) (w6 hw) (by decide) O16.1 pd_3 rfl rfl rfl rfl (by decide) (by decide) (by decide) (by decide) all0 (own_g_status l Z a0 hw n0 b13 (.ref sv) rfl _ (O16.fld (i := 0) rfl)) ?_
      intro v h1 D1 q hsz
      obtain ⟨rfl, rfl, rfl⟩ := q
      show Runs false l Z [] n0 _ _ _ _ _ _ _ [b6] h17 2 4 190 #[.val (.int p1), .val (.int p2), .val (.int p3), .val (.int p4), .val (.int p5), .val (.int k), .val (.ref sv), .val (.int (0 : Int32)), .val (.int (0 : Int32)), .val (.int x2), .val (.int x3), .val (.int x4), .val (.ref b6), .val (.ref b13), .unset] [(.ref sv)]
      refine Runs.aload i0_190 rfl rfl ?_
      refine Runs.acY (t := 197) i0_192 (by decide) rfl rfl (Jvm.Free.XT.aa_eq_t (congrArg Value.ref rfl)) ?_
      refine Runs.aload i0_197 rfl rfl ?_
      refine Runs.callV (argsL := []) (rest := []) (W := 0) i0_199 (w34 hw) (w35 hw) (fun s hZ => notFace_of_selects (args := #[]) (mvT hZ (w37 hw))) (w37 hw) (w36 hw) (w38 hw) (w6 hw) (by decide) O16.1 pd_4 rfl rfl rfl rfl (by decide) (by decide) (by decide) (by decide) all0 (own_g_exitCode l Z a0 hw n0 b13 .null rfl _ (O16.fld (i := 1) rfl)) ?_
      intro v h1 D1 q hsz
      obtain ⟨rfl, rfl, rfl⟩ := q
      show Runs false l Z [] n0 _ _ _ _ _ _ _ [b6] h17 2 4 202 #[.val (.int p1), .val (.int p2), .val (.int p3), .val (.int p4), .val (.int p5), .val (.int k), .val (.ref sv), .val (.int (0 : Int32)), .val (.int (0 : Int32)), .val (.int x2), .val (.int x3), .val (.int x4), .val (.ref b6), .val (.ref b13), .unset] [.null]
      refine Runs.nullY (t := 207) i0_202 (by decide) ?_
      refine Runs.aload i0_207 rfl rfl ?_
      refine Runs.callV (argsL := []) (rest := []) (W := 0) i0_209 (w39 hw) (w40 hw) (fun s hZ => notFace_of_selects (args := #[]) (mvT hZ (w42 hw))) (w42 hw) (w41 hw) (w43 hw) (w6 hw) (by decide) O16.1 pd_4 rfl rfl rfl rfl (by decide) (by decide) (by decide) (by decide) all0 (own_g_httpStatus l Z a0 hw n0 b13 .null rfl _ (O16.fld (i := 2) rfl)) ?_
      intro v h1 D1 q hsz
      obtain ⟨rfl, rfl, rfl⟩ := q
      show Runs false l Z [] n0 _ _ _ _ _ _ _ [b6] h17 2 4 212 #[.val (.int p1), .val (.int p2), .val (.int p3), .val (.int p4), .val (.int p5), .val (.int k), .val (.ref sv), .val (.int (0 : Int32)), .val (.int (0 : Int32)), .val (.int x2), .val (.int x3), .val (.int x4), .val (.ref b6), .val (.ref b13), .unset] [.null]
      refine Runs.nullY (t := 217) i0_212 (by decide) ?_
      refine Runs.aload i0_217 rfl rfl ?_
      refine Runs.callV (argsL := []) (rest := []) (W := 0) i0_219 (w44 hw) (w45 hw) (fun s hZ => notFace_of_selects (args := #[]) (mvT hZ (w47 hw))) (w47 hw) (w46 hw) (w48 hw) (w6 hw) (by decide) O16.1 pd_5 rfl rfl rfl rfl (by decide) (by decide) (by decide) (by decide) all0 (own_g_output l Z a0 hw n0 b13 (.ref b6) rfl _ (O16.fld (i := 3) rfl)) ?_
      intro v h1 D1 q hsz
      obtain ⟨rfl, rfl, rfl⟩ := q
      show Runs false l Z [] n0 _ _ _ _ _ _ _ [b6] h17 2 4 222 #[.val (.int p1), .val (.int p2), .val (.int p3), .val (.int p4), .val (.int p5), .val (.int k), .val (.ref sv), .val (.int (0 : Int32)), .val (.int (0 : Int32)), .val (.int x2), .val (.int x3), .val (.int x4), .val (.ref b6), .val (.ref b13), .unset] [(.ref b6)]
      refine Runs.astore (ls' := #[.val (.int p1), .val (.int p2), .val (.int p3), .val (.int p4), .val (.int p5), .val (.int k), .val (.ref sv), .val (.int (0 : Int32)), .val (.int (0 : Int32)), .val (.int x2), .val (.int x3), .val (.int x4), .val (.ref b6), .val (.ref b13), .val (.ref b6)]) i0_222 rfl rfl ?_
      refine Runs.iload i0_224 rfl ?_
      refine Runs.ifY (t := 240) i0_226 (by decide) (teq (by decide : (0 : Int32) = (0 : Int32))).1 ?_
      refine Runs.aload i0_240 rfl rfl ?_
      refine Runs.nnullY (t := 247) i0_242 (by decide) ?_
      refine Runs.aload i0_247 rfl rfl ?_
      have A18 := (A9.keep K15 nin0)
      refine Runs.arrlen i0_249 A18 ?_
      refine Runs.iload i0_250 rfl ?_
      refine Runs.icY (t := 257) i0_252 (by decide) (teq (by decide : (0 : Int32) = (0 : Int32))).1 ?_
      refine Runs.iload i0_257 rfl ?_
      refine Runs.iconst (v := (1 : Int32)) i0_259 (by decide) ?_
      refine Runs.icY (t := 274) i0_260 (by decide) (tlt (by decide : (0 : Int32) < (1 : Int32))).1 ?_
      refine Runs.iload i0_274 rfl ?_
      refine Runs.iconst (v := (2 : Int32)) i0_276 (by decide) ?_
      refine Runs.icY (t := 291) i0_277 (by decide) (tlt (by decide : (0 : Int32) < (2 : Int32))).1 ?_
      refine Runs.iload i0_291 rfl ?_
      refine Runs.iconst (v := (3 : Int32)) i0_293 (by decide) ?_
      refine Runs.icY (t := 308) i0_294 (by decide) (tlt (by decide : (0 : Int32) < (3 : Int32))).1 ?_
      refine Runs.iconst (v := (1 : Int32)) i0_308 (by decide) ?_
      exact Runs.retI (z := (1 : Int32)) i0_309 rfl (Or.inr (Or.inl rfl)) (by decide) (by decide) (by decide) rfl
    · refine Runs.ifN i0_59 (feq hc59).1 ?_
      refine Runs.iconst (v := (1 : Int32)) i0_62 (by decide) ?_
      refine Runs.goto (t := 67) i0_63 (by decide) ?_
      refine Runs.istore (ls' := #[.val (.int p1), .val (.int p2), .val (.int p3), .val (.int p4), .val (.int p5), .val (.int k), .val (.ref sv), .val (.int (0 : Int32)), .val (.int (1 : Int32)), .unset, .unset, .unset, .unset, .unset, .unset]) i0_67 rfl ?_
      refine Runs.iloadN i0_69 rfl ?_
      obtain ⟨x19, hx19⟩ : ∃ z : Int32, (Int32.toInt8 p3).toInt32 = z := ⟨_, rfl⟩
      refine Runs.i2b i0_70 hx19 ?_
      refine Runs.istore (ls' := #[.val (.int p1), .val (.int p2), .val (.int p3), .val (.int p4), .val (.int p5), .val (.int k), .val (.ref sv), .val (.int (0 : Int32)), .val (.int (1 : Int32)), .val (.int x19), .unset, .unset, .unset, .unset, .unset]) i0_71 rfl ?_
      refine Runs.iloadN i0_73 rfl ?_
      obtain ⟨x20, hx20⟩ : ∃ z : Int32, (Int32.toInt8 p4).toInt32 = z := ⟨_, rfl⟩
      refine Runs.i2b i0_74 hx20 ?_
      refine Runs.istore (ls' := #[.val (.int p1), .val (.int p2), .val (.int p3), .val (.int p4), .val (.int p5), .val (.int k), .val (.ref sv), .val (.int (0 : Int32)), .val (.int (1 : Int32)), .val (.int x19), .val (.int x20), .unset, .unset, .unset, .unset]) i0_75 rfl ?_
      refine Runs.iload i0_77 rfl ?_
      obtain ⟨x21, hx21⟩ : ∃ z : Int32, (Int32.toInt8 p5).toInt32 = z := ⟨_, rfl⟩
      refine Runs.i2b i0_79 hx21 ?_
      refine Runs.istore (ls' := #[.val (.int p1), .val (.int p2), .val (.int p3), .val (.int p4), .val (.int p5), .val (.int k), .val (.ref sv), .val (.int (0 : Int32)), .val (.int (1 : Int32)), .val (.int x19), .val (.int x20), .val (.int x21), .unset, .unset, .unset]) i0_80 rfl ?_
      refine Runs.iload i0_82 rfl ?_
      refine Runs.ifN i0_84 (feq (by decide : ¬ ((1 : Int32) = (0 : Int32)))).1 ?_
      refine Runs.aconstNull i0_87 ?_
      refine Runs.astore (ls' := #[.val (.int p1), .val (.int p2), .val (.int p3), .val (.int p4), .val (.int p5), .val (.int k), .val (.ref sv), .val (.int (0 : Int32)), .val (.int (1 : Int32)), .val (.int x19), .val (.int x20), .val (.int x21), .val .null, .unset, .unset]) i0_88 rfl rfl ?_
      refine Runs.goto (t := 169) i0_90 (by decide) ?_
      refine Runs.aload i0_169 rfl rfl ?_
      refine Runs.aload i0_171 rfl rfl ?_
      refine Runs.callS (argsL := [(.ref sv), .null]) (rest := []) (W := 0) i0_173 (w4 hw) (w5 hw) (w6 hw) (w7 hw) (by decide) pd_2 rfl rfl rfl rfl (by decide) (by decide) (by decide) (by decide) all0 (own_cC l Z a0 hw n0 sv .null rfl _) ?_
      intro v h26 D1 q hsz
      obtain ⟨b22, rfl, g23, K24, O25, rfl⟩ := q
      show Runs false l Z [] n0 _ _ _ _ _ _ _ [] h26 1 4 176 #[.val (.int p1), .val (.int p2), .val (.int p3), .val (.int p4), .val (.int p5), .val (.int k), .val (.ref sv), .val (.int (0 : Int32)), .val (.int (1 : Int32)), .val (.int x19), .val (.int x20), .val (.int x21), .val .null, .unset, .unset] [(.ref b22)]
      refine Runs.astore (ls' := #[.val (.int p1), .val (.int p2), .val (.int p3), .val (.int p4), .val (.int p5), .val (.int k), .val (.ref sv), .val (.int (0 : Int32)), .val (.int (1 : Int32)), .val (.int x19), .val (.int x20), .val (.int x21), .val .null, .val (.ref b22), .unset]) i0_176 rfl rfl ?_
      refine Runs.aload i0_178 rfl rfl ?_
      refine Runs.nnullY (t := 185) i0_180 (by decide) ?_
      refine Runs.aload i0_185 rfl rfl ?_
      refine Runs.callV (argsL := []) (rest := []) (W := 0) i0_187 (w29 hw) (w30 hw) (fun s hZ => notFace_of_selects (args := #[]) (mvT hZ (w32 hw))) (w32 hw) (w31 hw) (w33 hw) (w6 hw) (by decide) O25.1 pd_3 rfl rfl rfl rfl (by decide) (by decide) (by decide) (by decide) all0 (own_g_status l Z a0 hw n0 b22 (.ref sv) rfl _ (O25.fld (i := 0) rfl)) ?_
      intro v h1 D1 q hsz
      obtain ⟨rfl, rfl, rfl⟩ := q
      show Runs false l Z [] n0 _ _ _ _ _ _ _ [] h26 1 4 190 #[.val (.int p1), .val (.int p2), .val (.int p3), .val (.int p4), .val (.int p5), .val (.int k), .val (.ref sv), .val (.int (0 : Int32)), .val (.int (1 : Int32)), .val (.int x19), .val (.int x20), .val (.int x21), .val .null, .val (.ref b22), .unset] [(.ref sv)]
      refine Runs.aload i0_190 rfl rfl ?_
      refine Runs.acY (t := 197) i0_192 (by decide) rfl rfl (Jvm.Free.XT.aa_eq_t (congrArg Value.ref rfl)) ?_
      refine Runs.aload i0_197 rfl rfl ?_
      refine Runs.callV (argsL := []) (rest := []) (W := 0) i0_199 (w34 hw) (w35 hw) (fun s hZ => notFace_of_selects (args := #[]) (mvT hZ (w37 hw))) (w37 hw) (w36 hw) (w38 hw) (w6 hw) (by decide) O25.1 pd_4 rfl rfl rfl rfl (by decide) (by decide) (by decide) (by decide) all0 (own_g_exitCode l Z a0 hw n0 b22 .null rfl _ (O25.fld (i := 1) rfl)) ?_
      intro v h1 D1 q hsz
      obtain ⟨rfl, rfl, rfl⟩ := q
      show Runs false l Z [] n0 _ _ _ _ _ _ _ [] h26 1 4 202 #[.val (.int p1), .val (.int p2), .val (.int p3), .val (.int p4), .val (.int p5), .val (.int k), .val (.ref sv), .val (.int (0 : Int32)), .val (.int (1 : Int32)), .val (.int x19), .val (.int x20), .val (.int x21), .val .null, .val (.ref b22), .unset] [.null]
      refine Runs.nullY (t := 207) i0_202 (by decide) ?_
      refine Runs.aload i0_207 rfl rfl ?_
      refine Runs.callV (argsL := []) (rest := []) (W := 0) i0_209 (w39 hw) (w40 hw) (fun s hZ => notFace_of_selects (args := #[]) (mvT hZ (w42 hw))) (w42 hw) (w41 hw) (w43 hw) (w6 hw) (by decide) O25.1 pd_4 rfl rfl rfl rfl (by decide) (by decide) (by decide) (by decide) all0 (own_g_httpStatus l Z a0 hw n0 b22 .null rfl _ (O25.fld (i := 2) rfl)) ?_
      intro v h1 D1 q hsz
      obtain ⟨rfl, rfl, rfl⟩ := q
      show Runs false l Z [] n0 _ _ _ _ _ _ _ [] h26 1 4 212 #[.val (.int p1), .val (.int p2), .val (.int p3), .val (.int p4), .val (.int p5), .val (.int k), .val (.ref sv), .val (.int (0 : Int32)), .val (.int (1 : Int32)), .val (.int x19), .val (.int x20), .val (.int x21), .val .null, .val (.ref b22), .unset] [.null]
      refine Runs.nullY (t := 217) i0_212 (by decide) ?_
      refine Runs.aload i0_217 rfl rfl ?_
      refine Runs.callV (argsL := []) (rest := []) (W := 0) i0_219 (w44 hw) (w45 hw) (fun s hZ => notFace_of_selects (args := #[]) (mvT hZ (w47 hw))) (w47 hw) (w46 hw) (w48 hw) (w6 hw) (by decide) O25.1 pd_5 rfl rfl rfl rfl (by decide) (by decide) (by decide) (by decide) all0 (own_g_output l Z a0 hw n0 b22 .null rfl _ (O25.fld (i := 3) rfl)) ?_
      intro v h1 D1 q hsz
      obtain ⟨rfl, rfl, rfl⟩ := q
      show Runs false l Z [] n0 _ _ _ _ _ _ _ [] h26 1 4 222 #[.val (.int p1), .val (.int p2), .val (.int p3), .val (.int p4), .val (.int p5), .val (.int k), .val (.ref sv), .val (.int (0 : Int32)), .val (.int (1 : Int32)), .val (.int x19), .val (.int x20), .val (.int x21), .val .null, .val (.ref b22), .unset] [.null]
      refine Runs.astore (ls' := #[.val (.int p1), .val (.int p2), .val (.int p3), .val (.int p4), .val (.int p5), .val (.int k), .val (.ref sv), .val (.int (0 : Int32)), .val (.int (1 : Int32)), .val (.int x19), .val (.int x20), .val (.int x21), .val .null, .val (.ref b22), .val .null]) i0_222 rfl rfl ?_
      refine Runs.iload i0_224 rfl ?_
      refine Runs.ifN i0_226 (feq (by decide : ¬ ((1 : Int32) = (0 : Int32)))).1 ?_
      refine Runs.aload i0_229 rfl rfl ?_
      refine Runs.nnullN i0_231 ?_
      refine Runs.iconst (v := (1 : Int32)) i0_234 (by decide) ?_
      refine Runs.goto (t := 239) i0_235 (by decide) ?_
      exact Runs.retI (z := (1 : Int32)) i0_239 rfl (Or.inr (Or.inl rfl)) (by decide) (by decide) (by decide) rfl
  · refine Runs.iand i0_53 q3 ?_
    refine Runs.istore (ls' := #[.val (.int p1), .val (.int p2), .val (.int p3), .val (.int p4), .val (.int p5), .val (.int k), .val (.ref sv), .val (.int (1 : Int32)), .unset, .unset, .unset, .unset, .unset, .unset, .unset]) i0_54 rfl ?_
    refine Runs.iloadN i0_56 rfl ?_
    refine Runs.iconst (v := (4 : Int32)) i0_57 (by decide) ?_
    obtain ⟨x27, hx27⟩ : ∃ z : Int32, p2 &&& (4 : Int32) = z := ⟨_, rfl⟩
    refine Runs.iand i0_58 hx27 ?_
    by_cases hc59 : x27 = (0 : Int32)
    · refine Runs.ifY (t := 66) i0_59 (by decide) (teq hc59).1 ?_
      refine Runs.iconst (v := (0 : Int32)) i0_66 (by decide) ?_
      refine Runs.istore (ls' := #[.val (.int p1), .val (.int p2), .val (.int p3), .val (.int p4), .val (.int p5), .val (.int k), .val (.ref sv), .val (.int (1 : Int32)), .val (.int (0 : Int32)), .unset, .unset, .unset, .unset, .unset, .unset]) i0_67 rfl ?_
      refine Runs.iloadN i0_69 rfl ?_
      obtain ⟨x28, hx28⟩ : ∃ z : Int32, (Int32.toInt8 p3).toInt32 = z := ⟨_, rfl⟩
      refine Runs.i2b i0_70 hx28 ?_
      refine Runs.istore (ls' := #[.val (.int p1), .val (.int p2), .val (.int p3), .val (.int p4), .val (.int p5), .val (.int k), .val (.ref sv), .val (.int (1 : Int32)), .val (.int (0 : Int32)), .val (.int x28), .unset, .unset, .unset, .unset, .unset]) i0_71 rfl ?_
      refine Runs.iloadN i0_73 rfl ?_
      obtain ⟨x29, hx29⟩ : ∃ z : Int32, (Int32.toInt8 p4).toInt32 = z := ⟨_, rfl⟩
      refine Runs.i2b i0_74 hx29 ?_
      refine Runs.istore (ls' := #[.val (.int p1), .val (.int p2), .val (.int p3), .val (.int p4), .val (.int p5), .val (.int k), .val (.ref sv), .val (.int (1 : Int32)), .val (.int (0 : Int32)), .val (.int x28), .val (.int x29), .unset, .unset, .unset, .unset]) i0_75 rfl ?_
      refine Runs.iload i0_77 rfl ?_
      obtain ⟨x30, hx30⟩ : ∃ z : Int32, (Int32.toInt8 p5).toInt32 = z := ⟨_, rfl⟩
      refine Runs.i2b i0_79 hx30 ?_
      refine Runs.istore (ls' := #[.val (.int p1), .val (.int p2), .val (.int p3), .val (.int p4), .val (.int p5), .val (.int k), .val (.ref sv), .val (.int (1 : Int32)), .val (.int (0 : Int32)), .val (.int x28), .val (.int x29), .val (.int x30), .unset, .unset, .unset]) i0_80 rfl ?_
      refine Runs.iload i0_82 rfl ?_
      refine Runs.ifY (t := 93) i0_84 (by decide) (teq (by decide : (0 : Int32) = (0 : Int32))).1 ?_
      refine Runs.iload i0_93 rfl ?_
      refine Runs.ifY (t := 106) i0_95 (by decide) (feq (by decide : ¬ ((1 : Int32) = (0 : Int32)))).2 ?_
      refine Runs.iload i0_106 rfl ?_
      refine Runs.iconst (v := (1 : Int32)) i0_108 (by decide) ?_
      refine Runs.icN i0_109 (teq (by decide : (1 : Int32) = (1 : Int32))).2 ?_
      refine Runs.iconst (v := (1 : Int32)) i0_112 (by decide) ?_
      refine Runs.newP (cap := 1) (ad := "[B") i0_113 (w3 hw) (by decide) (by decide) (by decide) (by decide) (by decide) rfl ?_
      intro h31 b32 k33 g36 ge37 K34 (A35 : Arv Z h31 b32 k33 .byte (1 : Int32) [] (.int (0 : Int32))) E38
      have A39 : Arv Z h31 b32 k33 .byte (1 : Int32) [(.int (0 : Int32))] (.int (0 : Int32)) := A35.pad (pad_rep [] (.int (0 : Int32)) 1)
      refine Runs.dup i0_115 rfl ?_
      refine Runs.iconst (v := (0 : Int32)) i0_116 (by decide) ?_
      refine Runs.iload i0_117 rfl ?_
      refine Runs.bastore (i := 0) (y := x28) i0_119 A39 ⟨by decide, by decide⟩ (by decide) (Nat.le_of_ble_eq_true rfl) (own_bb hx28) ge37 (Or.inl (List.mem_of_getElem? (i := 0) rfl)) ?_
      intro h40 K41 (A42 : Arv Z h40 b32 k33 .byte (1 : Int32) [(.int x28)] (.int (0 : Int32)))
      refine Runs.astore (ls' := #[.val (.int p1), .val (.int p2), .val (.int p3), .val (.int p4), .val (.int p5), .val (.int k), .val (.ref sv), .val (.int (1 : Int32)), .val (.int (0 : Int32)), .val (.int x28), .val (.int x29), .val (.int x30), .val (.ref b32), .unset, .unset]) i0_120 rfl rfl ?_
      refine Runs.goto (t := 169) i0_122 (by decide) ?_
      refine Runs.aload i0_169 rfl rfl ?_
      refine Runs.aload i0_171 rfl rfl ?_
      refine Runs.callS (argsL := [(.ref sv), (.ref b32)]) (rest := []) (W := 0) i0_173 (w4 hw) (w5 hw) (w6 hw) (w7 hw) (by decide) pd_2 rfl rfl rfl rfl (by decide) (by decide) (by decide) (by decide) all0 (own_cC l Z a0 hw n0 sv (.ref b32) rfl _) ?_
      intro v h47 D1 q hsz
      obtain ⟨b43, rfl, g44, K45, O46, rfl⟩ := q
      show Runs false l Z [] n0 _ _ _ _ _ _ _ [b32] h47 2 5 176 #[.val (.int p1), .val (.int p2), .val (.int p3), .val (.int p4), .val (.int p5), .val (.int k), .val (.ref sv), .val (.int (1 : Int32)), .val (.int (0 : Int32)), .val (.int x28), .val (.int x29), .val (.int x30), .val (.ref b32), .unset, .unset] [(.ref b43)]
      refine Runs.astore (ls' := #[.val (.int p1), .val (.int p2), .val (.int p3), .val (.int p4), .val (.int p5), .val (.int k), .val (.ref sv), .val (.int (1 : Int32)), .val (.int (0 : Int32)), .val (.int x28), .val (.int x29), .val (.int x30), .val (.ref b32), .val (.ref b43), .unset]) i0_176 rfl rfl ?_
      refine Runs.aload i0_178 rfl rfl ?_
      refine Runs.nnullY (t := 185) i0_180 (by decide) ?_
      refine Runs.aload i0_185 rfl rfl ?_
      refine Runs.callV (argsL := []) (rest := []) (W := 0) i0_187 (w29 hw) (w30 hw) (fun s hZ => notFace_of_selects (args := #[]) (mvT hZ (w32 hw))) (w32 hw) (w31 hw) (w33 hw) (w6 hw) (by decide) O46.1 pd_3 rfl rfl rfl rfl (by decide) (by decide) (by decide) (by decide) all0 (own_g_status l Z a0 hw n0 b43 (.ref sv) rfl _ (O46.fld (i := 0) rfl)) ?_
      intro v h1 D1 q hsz
      obtain ⟨rfl, rfl, rfl⟩ := q
      show Runs false l Z [] n0 _ _ _ _ _ _ _ [b32] h47 2 5 190 #[.val (.int p1), .val (.int p2), .val (.int p3), .val (.int p4), .val (.int p5), .val (.int k), .val (.ref sv), .val (.int (1 : Int32)), .val (.int (0 : Int32)), .val (.int x28), .val (.int x29), .val (.int x30), .val (.ref b32), .val (.ref b43), .unset] [(.ref sv)]
      refine Runs.aload i0_190 rfl rfl ?_
      refine Runs.acY (t := 197) i0_192 (by decide) rfl rfl (Jvm.Free.XT.aa_eq_t (congrArg Value.ref rfl)) ?_
      refine Runs.aload i0_197 rfl rfl ?_
      refine Runs.callV (argsL := []) (rest := []) (W := 0) i0_199 (w34 hw) (w35 hw) (fun s hZ => notFace_of_selects (args := #[]) (mvT hZ (w37 hw))) (w37 hw) (w36 hw) (w38 hw) (w6 hw) (by decide) O46.1 pd_4 rfl rfl rfl rfl (by decide) (by decide) (by decide) (by decide) all0 (own_g_exitCode l Z a0 hw n0 b43 .null rfl _ (O46.fld (i := 1) rfl)) ?_
      intro v h1 D1 q hsz
      obtain ⟨rfl, rfl, rfl⟩ := q
      show Runs false l Z [] n0 _ _ _ _ _ _ _ [b32] h47 2 5 202 #[.val (.int p1), .val (.int p2), .val (.int p3), .val (.int p4), .val (.int p5), .val (.int k), .val (.ref sv), .val (.int (1 : Int32)), .val (.int (0 : Int32)), .val (.int x28), .val (.int x29), .val (.int x30), .val (.ref b32), .val (.ref b43), .unset] [.null]
      refine Runs.nullY (t := 207) i0_202 (by decide) ?_
      refine Runs.aload i0_207 rfl rfl ?_
      refine Runs.callV (argsL := []) (rest := []) (W := 0) i0_209 (w39 hw) (w40 hw) (fun s hZ => notFace_of_selects (args := #[]) (mvT hZ (w42 hw))) (w42 hw) (w41 hw) (w43 hw) (w6 hw) (by decide) O46.1 pd_4 rfl rfl rfl rfl (by decide) (by decide) (by decide) (by decide) all0 (own_g_httpStatus l Z a0 hw n0 b43 .null rfl _ (O46.fld (i := 2) rfl)) ?_
      intro v h1 D1 q hsz
      obtain ⟨rfl, rfl, rfl⟩ := q
      show Runs false l Z [] n0 _ _ _ _ _ _ _ [b32] h47 2 5 212 #[.val (.int p1), .val (.int p2), .val (.int p3), .val (.int p4), .val (.int p5), .val (.int k), .val (.ref sv), .val (.int (1 : Int32)), .val (.int (0 : Int32)), .val (.int x28), .val (.int x29), .val (.int x30), .val (.ref b32), .val (.ref b43), .unset] [.null]
      refine Runs.nullY (t := 217) i0_212 (by decide) ?_
      refine Runs.aload i0_217 rfl rfl ?_
      refine Runs.callV (argsL := []) (rest := []) (W := 0) i0_219 (w44 hw) (w45 hw) (fun s hZ => notFace_of_selects (args := #[]) (mvT hZ (w47 hw))) (w47 hw) (w46 hw) (w48 hw) (w6 hw) (by decide) O46.1 pd_5 rfl rfl rfl rfl (by decide) (by decide) (by decide) (by decide) all0 (own_g_output l Z a0 hw n0 b43 (.ref b32) rfl _ (O46.fld (i := 3) rfl)) ?_
      intro v h1 D1 q hsz
      obtain ⟨rfl, rfl, rfl⟩ := q
      show Runs false l Z [] n0 _ _ _ _ _ _ _ [b32] h47 2 5 222 #[.val (.int p1), .val (.int p2), .val (.int p3), .val (.int p4), .val (.int p5), .val (.int k), .val (.ref sv), .val (.int (1 : Int32)), .val (.int (0 : Int32)), .val (.int x28), .val (.int x29), .val (.int x30), .val (.ref b32), .val (.ref b43), .unset] [(.ref b32)]
      refine Runs.astore (ls' := #[.val (.int p1), .val (.int p2), .val (.int p3), .val (.int p4), .val (.int p5), .val (.int k), .val (.ref sv), .val (.int (1 : Int32)), .val (.int (0 : Int32)), .val (.int x28), .val (.int x29), .val (.int x30), .val (.ref b32), .val (.ref b43), .val (.ref b32)]) i0_222 rfl rfl ?_
      refine Runs.iload i0_224 rfl ?_
      refine Runs.ifY (t := 240) i0_226 (by decide) (teq (by decide : (0 : Int32) = (0 : Int32))).1 ?_
      refine Runs.aload i0_240 rfl rfl ?_
      refine Runs.nnullY (t := 247) i0_242 (by decide) ?_
      refine Runs.aload i0_247 rfl rfl ?_
      have A48 := (A42.keep K45 nin0)
      refine Runs.arrlen i0_249 A48 ?_
      refine Runs.iload i0_250 rfl ?_
      refine Runs.icY (t := 257) i0_252 (by decide) (teq (by decide : (1 : Int32) = (1 : Int32))).1 ?_
      refine Runs.iload i0_257 rfl ?_
      refine Runs.iconst (v := (1 : Int32)) i0_259 (by decide) ?_
      refine Runs.icN i0_260 (flt (by decide : ¬ ((1 : Int32) < (1 : Int32)))).1 ?_
      refine Runs.aload i0_263 rfl rfl ?_
      refine Runs.iconst (v := (0 : Int32)) i0_265 (by decide) ?_
      refine Runs.baload (v := (.int x28)) i0_266 A48 ⟨by decide, by decide⟩ rfl ?_
      refine Runs.iload i0_267 rfl ?_
      refine Runs.icY (t := 274) i0_269 (by decide) (teq (rfl : x28 = x28)).1 ?_
      refine Runs.iload i0_274 rfl ?_
      refine Runs.iconst (v := (2 : Int32)) i0_276 (by decide) ?_
      refine Runs.icY (t := 291) i0_277 (by decide) (tlt (by decide : (1 : Int32) < (2 : Int32))).1 ?_
      refine Runs.iload i0_291 rfl ?_
      refine Runs.iconst (v := (3 : Int32)) i0_293 (by decide) ?_
      refine Runs.icY (t := 308) i0_294 (by decide) (tlt (by decide : (1 : Int32) < (3 : Int32))).1 ?_
      refine Runs.iconst (v := (1 : Int32)) i0_308 (by decide) ?_
      exact Runs.retI (z := (1 : Int32)) i0_309 rfl (Or.inr (Or.inl rfl)) (by decide) (by decide) (by decide) rfl
    · refine Runs.ifN i0_59 (feq hc59).1 ?_
      refine Runs.iconst (v := (1 : Int32)) i0_62 (by decide) ?_
      refine Runs.goto (t := 67) i0_63 (by decide) ?_
      refine Runs.istore (ls' := #[.val (.int p1), .val (.int p2), .val (.int p3), .val (.int p4), .val (.int p5), .val (.int k), .val (.ref sv), .val (.int (1 : Int32)), .val (.int (1 : Int32)), .unset, .unset, .unset, .unset, .unset, .unset]) i0_67 rfl ?_
      refine Runs.iloadN i0_69 rfl ?_
      obtain ⟨x49, hx49⟩ : ∃ z : Int32, (Int32.toInt8 p3).toInt32 = z := ⟨_, rfl⟩
      refine Runs.i2b i0_70 hx49 ?_
      refine Runs.istore (ls' := #[.val (.int p1), .val (.int p2), .val (.int p3), .val (.int p4), .val (.int p5), .val (.int k), .val (.ref sv), .val (.int (1 : Int32)), .val (.int (1 : Int32)), .val (.int x49), .unset, .unset, .unset, .unset, .unset]) i0_71 rfl ?_
      refine Runs.iloadN i0_73 rfl ?_
      obtain ⟨x50, hx50⟩ : ∃ z : Int32, (Int32.toInt8 p4).toInt32 = z := ⟨_, rfl⟩
      refine Runs.i2b i0_74 hx50 ?_
      refine Runs.istore (ls' := #[.val (.int p1), .val (.int p2), .val (.int p3), .val (.int p4), .val (.int p5), .val (.int k), .val (.ref sv), .val (.int (1 : Int32)), .val (.int (1 : Int32)), .val (.int x49), .val (.int x50), .unset, .unset, .unset, .unset]) i0_75 rfl ?_
      refine Runs.iload i0_77 rfl ?_
      obtain ⟨x51, hx51⟩ : ∃ z : Int32, (Int32.toInt8 p5).toInt32 = z := ⟨_, rfl⟩
      refine Runs.i2b i0_79 hx51 ?_
      refine Runs.istore (ls' := #[.val (.int p1), .val (.int p2), .val (.int p3), .val (.int p4), .val (.int p5), .val (.int k), .val (.ref sv), .val (.int (1 : Int32)), .val (.int (1 : Int32)), .val (.int x49), .val (.int x50), .val (.int x51), .unset, .unset, .unset]) i0_80 rfl ?_
      refine Runs.iload i0_82 rfl ?_
      refine Runs.ifN i0_84 (feq (by decide : ¬ ((1 : Int32) = (0 : Int32)))).1 ?_
      refine Runs.aconstNull i0_87 ?_
      refine Runs.astore (ls' := #[.val (.int p1), .val (.int p2), .val (.int p3), .val (.int p4), .val (.int p5), .val (.int k), .val (.ref sv), .val (.int (1 : Int32)), .val (.int (1 : Int32)), .val (.int x49), .val (.int x50), .val (.int x51), .val .null, .unset, .unset]) i0_88 rfl rfl ?_
      refine Runs.goto (t := 169) i0_90 (by decide) ?_
      refine Runs.aload i0_169 rfl rfl ?_
      refine Runs.aload i0_171 rfl rfl ?_
      refine Runs.callS (argsL := [(.ref sv), .null]) (rest := []) (W := 0) i0_173 (w4 hw) (w5 hw) (w6 hw) (w7 hw) (by decide) pd_2 rfl rfl rfl rfl (by decide) (by decide) (by decide) (by decide) all0 (own_cC l Z a0 hw n0 sv .null rfl _) ?_
      intro v h56 D1 q hsz
      obtain ⟨b52, rfl, g53, K54, O55, rfl⟩ := q
      show Runs false l Z [] n0 _ _ _ _ _ _ _ [] h56 1 4 176 #[.val (.int p1), .val (.int p2), .val (.int p3), .val (.int p4), .val (.int p5), .val (.int k), .val (.ref sv), .val (.int (1 : Int32)), .val (.int (1 : Int32)), .val (.int x49), .val (.int x50), .val (.int x51), .val .null, .unset, .unset] [(.ref b52)]
      refine Runs.astore (ls' := #[.val (.int p1), .val (.int p2), .val (.int p3), .val (.int p4), .val (.int p5), .val (.int k), .val (.ref sv), .val (.int (1 : Int32)), .val (.int (1 : Int32)), .val (.int x49), .val (.int x50), .val (.int x51), .val .null, .val (.ref b52), .unset]) i0_176 rfl rfl ?_
      refine Runs.aload i0_178 rfl rfl ?_
      refine Runs.nnullY (t := 185) i0_180 (by decide) ?_
      refine Runs.aload i0_185 rfl rfl ?_
      refine Runs.callV (argsL := []) (rest := []) (W := 0) i0_187 (w29 hw) (w30 hw) (fun s hZ => notFace_of_selects (args := #[]) (mvT hZ (w32 hw))) (w32 hw) (w31 hw) (w33 hw) (w6 hw) (by decide) O55.1 pd_3 rfl rfl rfl rfl (by decide) (by decide) (by decide) (by decide) all0 (own_g_status l Z a0 hw n0 b52 (.ref sv) rfl _ (O55.fld (i := 0) rfl)) ?_
      intro v h1 D1 q hsz
      obtain ⟨rfl, rfl, rfl⟩ := q
      show Runs false l Z [] n0 _ _ _ _ _ _ _ [] h56 1 4 190 #[.val (.int p1), .val (.int p2), .val (.int p3), .val (.int p4), .val (.int p5), .val (.int k), .val (.ref sv), .val (.int (1 : Int32)), .val (.int (1 : Int32)), .val (.int x49), .val (.int x50), .val (.int x51), .val .null, .val (.ref b52), .unset] [(.ref sv)]
      refine Runs.aload i0_190 rfl rfl ?_
      refine Runs.acY (t := 197) i0_192 (by decide) rfl rfl (Jvm.Free.XT.aa_eq_t (congrArg Value.ref rfl)) ?_
      refine Runs.aload i0_197 rfl rfl ?_
      refine Runs.callV (argsL := []) (rest := []) (W := 0) i0_199 (w34 hw) (w35 hw) (fun s hZ => notFace_of_selects (args := #[]) (mvT hZ (w37 hw))) (w37 hw) (w36 hw) (w38 hw) (w6 hw) (by decide) O55.1 pd_4 rfl rfl rfl rfl (by decide) (by decide) (by decide) (by decide) all0 (own_g_exitCode l Z a0 hw n0 b52 .null rfl _ (O55.fld (i := 1) rfl)) ?_
      intro v h1 D1 q hsz
      obtain ⟨rfl, rfl, rfl⟩ := q
      show Runs false l Z [] n0 _ _ _ _ _ _ _ [] h56 1 4 202 #[.val (.int p1), .val (.int p2), .val (.int p3), .val (.int p4), .val (.int p5), .val (.int k), .val (.ref sv), .val (.int (1 : Int32)), .val (.int (1 : Int32)), .val (.int x49), .val (.int x50), .val (.int x51), .val .null, .val (.ref b52), .unset] [.null]
      refine Runs.nullY (t := 207) i0_202 (by decide) ?_
      refine Runs.aload i0_207 rfl rfl ?_
      refine Runs.callV (argsL := []) (rest := []) (W := 0) i0_209 (w39 hw) (w40 hw) (fun s hZ => notFace_of_selects (args := #[]) (mvT hZ (w42 hw))) (w42 hw) (w41 hw) (w43 hw) (w6 hw) (by decide) O55.1 pd_4 rfl rfl rfl rfl (by decide) (by decide) (by decide) (by decide) all0 (own_g_httpStatus l Z a0 hw n0 b52 .null rfl _ (O55.fld (i := 2) rfl)) ?_
      intro v h1 D1 q hsz
      obtain ⟨rfl, rfl, rfl⟩ := q
      show Runs false l Z [] n0 _ _ _ _ _ _ _ [] h56 1 4 212 #[.val (.int p1), .val (.int p2), .val (.int p3), .val (.int p4), .val (.int p5), .val (.int k), .val (.ref sv), .val (.int (1 : Int32)), .val (.int (1 : Int32)), .val (.int x49), .val (.int x50), .val (.int x51), .val .null, .val (.ref b52), .unset] [.null]
      refine Runs.nullY (t := 217) i0_212 (by decide) ?_
      refine Runs.aload i0_217 rfl rfl ?_
      refine Runs.callV (argsL := []) (rest := []) (W := 0) i0_219 (w44 hw) (w45 hw) (fun s hZ => notFace_of_selects (args := #[]) (mvT hZ (w47 hw))) (w47 hw) (w46 hw) (w48 hw) (w6 hw) (by decide) O55.1 pd_5 rfl rfl rfl rfl (by decide) (by decide) (by decide) (by decide) all0 (own_g_output l Z a0 hw n0 b52 .null rfl _ (O55.fld (i := 3) rfl)) ?_
      intro v h1 D1 q hsz
      obtain ⟨rfl, rfl, rfl⟩ := q
      show Runs false l Z [] n0 _ _ _ _ _ _ _ [] h56 1 4 222 #[.val (.int p1), .val (.int p2), .val (.int p3), .val (.int p4), .val (.int p5), .val (.int k), .val (.ref sv), .val (.int (1 : Int32)), .val (.int (1 : Int32)), .val (.int x49), .val (.int x50), .val (.int x51), .val .null, .val (.ref b52), .unset] [.null]
      refine Runs.astore (ls' := #[.val (.int p1), .val (.int p2), .val (.int p3), .val (.int p4), .val (.int p5), .val (.int k), .val (.ref sv), .val (.int (1 : Int32)), .val (.int (1 : Int32)), .val (.int x49), .val (.int x50), .val (.int x51), .val .null, .val (.ref b52), .val .null]) i0_222 rfl rfl ?_
      refine Runs.iload i0_224 rfl ?_
      refine Runs.ifN i0_226 (feq (by decide : ¬ ((1 : Int32) = (0 : Int32)))).1 ?_
      refine Runs.aload i0_229 rfl rfl ?_
      refine Runs.nnullN i0_231 ?_
      refine Runs.iconst (v := (1 : Int32)) i0_234 (by decide) ?_
      refine Runs.goto (t := 239) i0_235 (by decide) ?_
      exact Runs.retI (z := (1 : Int32)) i0_239 rfl (Or.inr (Or.inl rfl)) (by decide) (by decide) (by decide) rfl
  · refine Runs.iand i0_53 q3 ?_
    refine Runs.istore (ls' := #[.val (.int p1), .val (.int p2), .val (.int p3), .val (.int p4), .val (.int p5), .val (.int k), .val (.ref sv), .val (.int (2 : Int32)), .unset, .unset, .unset, .unset, .unset, .unset, .unset]) i0_54 rfl ?_
    refine Runs.iloadN i0_56 rfl ?_
    refine Runs.iconst (v := (4 : Int32)) i0_57 (by decide) ?_
    obtain ⟨x57, hx57⟩ : ∃ z : Int32, p2 &&& (4 : Int32) = z := ⟨_, rfl⟩
    refine Runs.iand i0_58 hx57 ?_
    by_cases hc59 : x57 = (0 : Int32)
    · refine Runs.ifY (t := 66) i0_59 (by decide) (teq hc59).1 ?_
      refine Runs.iconst (v := (0 : Int32)) i0_66 (by decide) ?_
      refine Runs.istore (ls' := #[.val (.int p1), .val (.int p2), .val (.int p3), .val (.int p4), .val (.int p5), .val (.int k), .val (.ref sv), .val (.int (2 : Int32)), .val (.int (0 : Int32)), .unset, .unset, .unset, .unset, .unset, .unset]) i0_67 rfl ?_
      refine Runs.iloadN i0_69 rfl ?_
      obtain ⟨x58, hx58⟩ : ∃ z : Int32, (Int32.toInt8 p3).toInt32 = z := ⟨_, rfl⟩
      refine Runs.i2b i0_70 hx58 ?_
      refine Runs.istore (ls' := #[.val (.int p1), .val (.int p2), .val (.int p3), .val (.int p4), .val (.int p5), .val (.int k), .val (.ref sv), .val (.int (2 : Int32)), .val (.int (0 : Int32)), .val (.int x58), .unset, .unset, .unset, .unset, .unset]) i0_71 rfl ?_
      refine Runs.iloadN i0_73 rfl ?_
      obtain ⟨x59, hx59⟩ : ∃ z : Int32, (Int32.toInt8 p4).toInt32 = z := ⟨_, rfl⟩
      refine Runs.i2b i0_74 hx59 ?_
      refine Runs.istore (ls' := #[.val (.int p1), .val (.int p2), .val (.int p3), .val (.int p4), .val (.int p5), .val (.int k), .val (.ref sv), .val (.int (2 : Int32)), .val (.int (0 : Int32)), .val (.int x58), .val (.int x59), .unset, .unset, .unset, .unset]) i0_75 rfl ?_
      refine Runs.iload i0_77 rfl ?_
      obtain ⟨x60, hx60⟩ : ∃ z : Int32, (Int32.toInt8 p5).toInt32 = z := ⟨_, rfl⟩
      refine Runs.i2b i0_79 hx60 ?_
      refine Runs.istore (ls' := #[.val (.int p1), .val (.int p2), .val (.int p3), .val (.int p4), .val (.int p5), .val (.int k), .val (.ref sv), .val (.int (2 : Int32)), .val (.int (0 : Int32)), .val (.int x58), .val (.int x59), .val (.int x60), .unset, .unset, .unset]) i0_80 rfl ?_
      refine Runs.iload i0_82 rfl ?_
      refine Runs.ifY (t := 93) i0_84 (by decide) (teq (by decide : (0 : Int32) = (0 : Int32))).1 ?_
      refine Runs.iload i0_93 rfl ?_
      refine Runs.ifY (t := 106) i0_95 (by decide) (feq (by decide : ¬ ((2 : Int32) = (0 : Int32)))).2 ?_
      refine Runs.iload i0_106 rfl ?_
      refine Runs.iconst (v := (1 : Int32)) i0_108 (by decide) ?_
      refine Runs.icY (t := 125) i0_109 (by decide) (feq (by decide : ¬ ((2 : Int32) = (1 : Int32)))).2 ?_
      refine Runs.iload i0_125 rfl ?_
      refine Runs.iconst (v := (2 : Int32)) i0_127 (by decide) ?_
      refine Runs.icN i0_128 (teq (by decide : (2 : Int32) = (2 : Int32))).2 ?_
      refine Runs.iconst (v := (2 : Int32)) i0_131 (by decide) ?_
      refine Runs.newP (cap := 2) (ad := "[B") i0_132 (w3 hw) (by decide) (by decide) (by decide) (by decide) (by decide) rfl ?_
      intro h61 b62 k63 g66 ge67 K64 (A65 : Arv Z h61 b62 k63 .byte (2 : Int32) [] (.int (0 : Int32))) E68
      have A69 : Arv Z h61 b62 k63 .byte (2 : Int32) [(.int (0 : Int32)), (.int (0 : Int32))] (.int (0 : Int32)) := A65.pad (pad_rep [] (.int (0 : Int32)) 2)
      refine Runs.dup i0_134 rfl ?_
      refine Runs.iconst (v := (0 : Int32)) i0_135 (by decide) ?_
      refine Runs.iload i0_136 rfl ?_
      refine Runs.bastore (i := 0) (y := x58) i0_138 A69 ⟨by decide, by decide⟩ (by decide) (Nat.le_of_ble_eq_true rfl) (own_bb hx58) ge67 (Or.inl (List.mem_of_getElem? (i := 0) rfl)) ?_
      intro h70 K71 (A72 : Arv Z h70 b62 k63 .byte (2 : Int32) [(.int x58), (.int (0 : Int32))] (.int (0 : Int32)))
      refine Runs.dup i0_139 rfl ?_
      refine Runs.iconst (v := (1 : Int32)) i0_140 (by decide) ?_
      refine Runs.iload i0_141 rfl ?_
      refine Runs.bastore (i := 1) (y := x59) i0_143 A72 ⟨by decide, by decide⟩ (by decide) (Nat.le_of_ble_eq_true rfl) (own_bb hx59) ge67 (Or.inl (List.mem_of_getElem? (i := 0) rfl)) ?_
      intro h73 K74 (A75 : Arv Z h73 b62 k63 .byte (2 : Int32) [(.int x58), (.int x59)] (.int (0 : Int32)))
      refine Runs.astore (ls' := #[.val (.int p1), .val (.int p2), .val (.int p3), .val (.int p4), .val (.int p5), .val (.int k), .val (.ref sv), .val (.int (2 : Int32)), .val (.int (0 : Int32)), .val (.int x58), .val (.int x59), .val (.int x60), .val (.ref b62), .unset, .unset]) i0_144 rfl rfl ?_
      refine Runs.goto (t := 169) i0_146 (by decide) ?_
      refine Runs.aload i0_169 rfl rfl ?_
      refine Runs.aload i0_171 rfl rfl ?_
      refine Runs.callS (argsL := [(.ref sv), (.ref b62)]) (rest := []) (W := 0) i0_173 (w4 hw) (w5 hw) (w6 hw) (w7 hw) (by decide) pd_2 rfl rfl rfl rfl (by decide) (by decide) (by decide) (by decide) all0 (own_cC l Z a0 hw n0 sv (.ref b62) rfl _) ?_
      intro v h80 D1 q hsz
      obtain ⟨b76, rfl, g77, K78, O79, rfl⟩ := q
      show Runs false l Z [] n0 _ _ _ _ _ _ _ [b62] h80 2 6 176 #[.val (.int p1), .val (.int p2), .val (.int p3), .val (.int p4), .val (.int p5), .val (.int k), .val (.ref sv), .val (.int (2 : Int32)), .val (.int (0 : Int32)), .val (.int x58), .val (.int x59), .val (.int x60), .val (.ref b62), .unset, .unset] [(.ref b76)]
      refine Runs.astore (ls' := #[.val (.int p1), .val (.int p2), .val (.int p3), .val (.int p4), .val (.int p5), .val (.int k), .val (.ref sv), .val (.int (2 : Int32)), .val (.int (0 : Int32)), .val (.int x58), .val (.int x59), .val (.int x60), .val (.ref b62), .val (.ref b76), .unset]) i0_176 rfl rfl ?_
      refine Runs.aload i0_178 rfl rfl ?_
      refine Runs.nnullY (t := 185) i0_180 (by decide) ?_
      refine Runs.aload i0_185 rfl rfl ?_
      refine Runs.callV (argsL := []) (rest := []) (W := 0) i0_187 (w29 hw) (w30 hw) (fun s hZ => notFace_of_selects (args := #[]) (mvT hZ (w32 hw))) (w32 hw) (w31 hw) (w33 hw) (w6 hw) (by decide) O79.1 pd_3 rfl rfl rfl rfl (by decide) (by decide) (by decide) (by decide) all0 (own_g_status l Z a0 hw n0 b76 (.ref sv) rfl _ (O79.fld (i := 0) rfl)) ?_
      intro v h1 D1 q hsz
      obtain ⟨rfl, rfl, rfl⟩ := q
      show Runs false l Z [] n0 _ _ _ _ _ _ _ [b62] h80 2 6 190 #[.val (.int p1), .val (.int p2), .val (.int p3), .val (.int p4), .val (.int p5), .val (.int k), .val (.ref sv), .val (.int (2 : Int32)), .val (.int (0 : Int32)), .val (.int x58), .val (.int x59), .val (.int x60), .val (.ref b62), .val (.ref b76), .unset] [(.ref sv)]
      refine Runs.aload i0_190 rfl rfl ?_
      refine Runs.acY (t := 197) i0_192 (by decide) rfl rfl (Jvm.Free.XT.aa_eq_t (congrArg Value.ref rfl)) ?_
      refine Runs.aload i0_197 rfl rfl ?_
      refine Runs.callV (argsL := []) (rest := []) (W := 0) i0_199 (w34 hw) (w35 hw) (fun s hZ => notFace_of_selects (args := #[]) (mvT hZ (w37 hw))) (w37 hw) (w36 hw) (w38 hw) (w6 hw) (by decide) O79.1 pd_4 rfl rfl rfl rfl (by decide) (by decide) (by decide) (by decide) all0 (own_g_exitCode l Z a0 hw n0 b76 .null rfl _ (O79.fld (i := 1) rfl)) ?_
      intro v h1 D1 q hsz
      obtain ⟨rfl, rfl, rfl⟩ := q
      show Runs false l Z [] n0 _ _ _ _ _ _ _ [b62] h80 2 6 202 #[.val (.int p1), .val (.int p2), .val (.int p3), .val (.int p4), .val (.int p5), .val (.int k), .val (.ref sv), .val (.int (2 : Int32)), .val (.int (0 : Int32)), .val (.int x58), .val (.int x59), .val (.int x60), .val (.ref b62), .val (.ref b76), .unset] [.null]
      refine Runs.nullY (t := 207) i0_202 (by decide) ?_
      refine Runs.aload i0_207 rfl rfl ?_
      refine Runs.callV (argsL := []) (rest := []) (W := 0) i0_209 (w39 hw) (w40 hw) (fun s hZ => notFace_of_selects (args := #[]) (mvT hZ (w42 hw))) (w42 hw) (w41 hw) (w43 hw) (w6 hw) (by decide) O79.1 pd_4 rfl rfl rfl rfl (by decide) (by decide) (by decide) (by decide) all0 (own_g_httpStatus l Z a0 hw n0 b76 .null rfl _ (O79.fld (i := 2) rfl)) ?_
      intro v h1 D1 q hsz
      obtain ⟨rfl, rfl, rfl⟩ := q
      show Runs false l Z [] n0 _ _ _ _ _ _ _ [b62] h80 2 6 212 #[.val (.int p1), .val (.int p2), .val (.int p3), .val (.int p4), .val (.int p5), .val (.int k), .val (.ref sv), .val (.int (2 : Int32)), .val (.int (0 : Int32)), .val (.int x58), .val (.int x59), .val (.int x60), .val (.ref b62), .val (.ref b76), .unset] [.null]
      refine Runs.nullY (t := 217) i0_212 (by decide) ?_
      refine Runs.aload i0_217 rfl rfl ?_
      refine Runs.callV (argsL := []) (rest := []) (W := 0) i0_219 (w44 hw) (w45 hw) (fun s hZ => notFace_of_selects (args := #[]) (mvT hZ (w47 hw))) (w47 hw) (w46 hw) (w48 hw) (w6 hw) (by decide) O79.1 pd_5 rfl rfl rfl rfl (by decide) (by decide) (by decide) (by decide) all0 (own_g_output l Z a0 hw n0 b76 (.ref b62) rfl _ (O79.fld (i := 3) rfl)) ?_
      intro v h1 D1 q hsz
      obtain ⟨rfl, rfl, rfl⟩ := q
      show Runs false l Z [] n0 _ _ _ _ _ _ _ [b62] h80 2 6 222 #[.val (.int p1), .val (.int p2), .val (.int p3), .val (.int p4), .val (.int p5), .val (.int k), .val (.ref sv), .val (.int (2 : Int32)), .val (.int (0 : Int32)), .val (.int x58), .val (.int x59), .val (.int x60), .val (.ref b62), .val (.ref b76), .unset] [(.ref b62)]
      refine Runs.astore (ls' := #[.val (.int p1), .val (.int p2), .val (.int p3), .val (.int p4), .val (.int p5), .val (.int k), .val (.ref sv), .val (.int (2 : Int32)), .val (.int (0 : Int32)), .val (.int x58), .val (.int x59), .val (.int x60), .val (.ref b62), .val (.ref b76), .val (.ref b62)]) i0_222 rfl rfl ?_
      refine Runs.iload i0_224 rfl ?_
      refine Runs.ifY (t := 240) i0_226 (by decide) (teq (by decide : (0 : Int32) = (0 : Int32))).1 ?_
      refine Runs.aload i0_240 rfl rfl ?_
      refine Runs.nnullY (t := 247) i0_242 (by decide) ?_
      refine Runs.aload i0_247 rfl rfl ?_
      have A81 := (A75.keep K78 nin0)
      refine Runs.arrlen i0_249 A81 ?_
      refine Runs.iload i0_250 rfl ?_
      refine Runs.icY (t := 257) i0_252 (by decide) (teq (by decide : (2 : Int32) = (2 : Int32))).1 ?_
      refine Runs.iload i0_257 rfl ?_
      refine Runs.iconst (v := (1 : Int32)) i0_259 (by decide) ?_
      refine Runs.icN i0_260 (flt (by decide : ¬ ((2 : Int32) < (1 : Int32)))).1 ?_
      refine Runs.aload i0_263 rfl rfl ?_
      refine Runs.iconst (v := (0 : Int32)) i0_265 (by decide) ?_
      refine Runs.baload (v := (.int x58)) i0_266 A81 ⟨by decide, by decide⟩ rfl ?_
      refine Runs.iload i0_267 rfl ?_
      refine Runs.icY (t := 274) i0_269 (by decide) (teq (rfl : x58 = x58)).1 ?_
      refine Runs.iload i0_274 rfl ?_
      refine Runs.iconst (v := (2 : Int32)) i0_276 (by decide) ?_
      refine Runs.icN i0_277 (flt (by decide : ¬ ((2 : Int32) < (2 : Int32)))).1 ?_
      refine Runs.aload i0_280 rfl rfl ?_
      refine Runs.iconst (v := (1 : Int32)) i0_282 (by decide) ?_
      refine Runs.baload (v := (.int x59)) i0_283 A81 ⟨by decide, by decide⟩ rfl ?_
      refine Runs.iload i0_284 rfl ?_
      refine Runs.icY (t := 291) i0_286 (by decide) (teq (rfl : x59 = x59)).1 ?_
      refine Runs.iload i0_291 rfl ?_
      refine Runs.iconst (v := (3 : Int32)) i0_293 (by decide) ?_
      refine Runs.icY (t := 308) i0_294 (by decide) (tlt (by decide : (2 : Int32) < (3 : Int32))).1 ?_
      refine Runs.iconst (v := (1 : Int32)) i0_308 (by decide) ?_
      exact Runs.retI (z := (1 : Int32)) i0_309 rfl (Or.inr (Or.inl rfl)) (by decide) (by decide) (by decide) rfl
    · refine Runs.ifN i0_59 (feq hc59).1 ?_
      refine Runs.iconst (v := (1 : Int32)) i0_62 (by decide) ?_
      refine Runs.goto (t := 67) i0_63 (by decide) ?_
      refine Runs.istore (ls' := #[.val (.int p1), .val (.int p2), .val (.int p3), .val (.int p4), .val (.int p5), .val (.int k), .val (.ref sv), .val (.int (2 : Int32)), .val (.int (1 : Int32)), .unset, .unset, .unset, .unset, .unset, .unset]) i0_67 rfl ?_
      refine Runs.iloadN i0_69 rfl ?_
      obtain ⟨x82, hx82⟩ : ∃ z : Int32, (Int32.toInt8 p3).toInt32 = z := ⟨_, rfl⟩
      refine Runs.i2b i0_70 hx82 ?_
      refine Runs.istore (ls' := #[.val (.int p1), .val (.int p2), .val (.int p3), .val (.int p4), .val (.int p5), .val (.int k), .val (.ref sv), .val (.int (2 : Int32)), .val (.int (1 : Int32)), .val (.int x82), .unset, .unset, .unset, .unset, .unset]) i0_71 rfl ?_
      refine Runs.iloadN i0_73 rfl ?_
      obtain ⟨x83, hx83⟩ : ∃ z : Int32, (Int32.toInt8 p4).toInt32 = z := ⟨_, rfl⟩
      refine Runs.i2b i0_74 hx83 ?_
      refine Runs.istore (ls' := #[.val (.int p1), .val (.int p2), .val (.int p3), .val (.int p4), .val (.int p5), .val (.int k), .val (.ref sv), .val (.int (2 : Int32)), .val (.int (1 : Int32)), .val (.int x82), .val (.int x83), .unset, .unset, .unset, .unset]) i0_75 rfl ?_
      refine Runs.iload i0_77 rfl ?_
      obtain ⟨x84, hx84⟩ : ∃ z : Int32, (Int32.toInt8 p5).toInt32 = z := ⟨_, rfl⟩
      refine Runs.i2b i0_79 hx84 ?_
      refine Runs.istore (ls' := #[.val (.int p1), .val (.int p2), .val (.int p3), .val (.int p4), .val (.int p5), .val (.int k), .val (.ref sv), .val (.int (2 : Int32)), .val (.int (1 : Int32)), .val (.int x82), .val (.int x83), .val (.int x84), .unset, .unset, .unset]) i0_80 rfl ?_
      refine Runs.iload i0_82 rfl ?_
      refine Runs.ifN i0_84 (feq (by decide : ¬ ((1 : Int32) = (0 : Int32)))).1 ?_
      refine Runs.aconstNull i0_87 ?_
      refine Runs.astore (ls' := #[.val (.int p1), .val (.int p2), .val (.int p3), .val (.int p4), .val (.int p5), .val (.int k), .val (.ref sv), .val (.int (2 : Int32)), .val (.int (1 : Int32)), .val (.int x82), .val (.int x83), .val (.int x84), .val .null, .unset, .unset]) i0_88 rfl rfl ?_
      refine Runs.goto (t := 169) i0_90 (by decide) ?_
      refine Runs.aload i0_169 rfl rfl ?_
      refine Runs.aload i0_171 rfl rfl ?_
      refine Runs.callS (argsL := [(.ref sv), .null]) (rest := []) (W := 0) i0_173 (w4 hw) (w5 hw) (w6 hw) (w7 hw) (by decide) pd_2 rfl rfl rfl rfl (by decide) (by decide) (by decide) (by decide) all0 (own_cC l Z a0 hw n0 sv .null rfl _) ?_
      intro v h89 D1 q hsz
      obtain ⟨b85, rfl, g86, K87, O88, rfl⟩ := q
      show Runs false l Z [] n0 _ _ _ _ _ _ _ [] h89 1 4 176 #[.val (.int p1), .val (.int p2), .val (.int p3), .val (.int p4), .val (.int p5), .val (.int k), .val (.ref sv), .val (.int (2 : Int32)), .val (.int (1 : Int32)), .val (.int x82), .val (.int x83), .val (.int x84), .val .null, .unset, .unset] [(.ref b85)]
      refine Runs.astore (ls' := #[.val (.int p1), .val (.int p2), .val (.int p3), .val (.int p4), .val (.int p5), .val (.int k), .val (.ref sv), .val (.int (2 : Int32)), .val (.int (1 : Int32)), .val (.int x82), .val (.int x83), .val (.int x84), .val .null, .val (.ref b85), .unset]) i0_176 rfl rfl ?_
      refine Runs.aload i0_178 rfl rfl ?_
      refine Runs.nnullY (t := 185) i0_180 (by decide) ?_
      refine Runs.aload i0_185 rfl rfl ?_
      refine Runs.callV (argsL := []) (rest := []) (W := 0) i0_187 (w29 hw) (w30 hw) (fun s hZ => notFace_of_selects (args := #[]) (mvT hZ (w32 hw))) (w32 hw) (w31 hw) (w33 hw) (w6 hw) (by decide) O88.1 pd_3 rfl rfl rfl rfl (by decide) (by decide) (by decide) (by decide) all0 (own_g_status l Z a0 hw n0 b85 (.ref sv) rfl _ (O88.fld (i := 0) rfl)) ?_
      intro v h1 D1 q hsz
      obtain ⟨rfl, rfl, rfl⟩ := q
      show Runs false l Z [] n0 _ _ _ _ _ _ _ [] h89 1 4 190 #[.val (.int p1), .val (.int p2), .val (.int p3), .val (.int p4), .val (.int p5), .val (.int k), .val (.ref sv), .val (.int (2 : Int32)), .val (.int (1 : Int32)), .val (.int x82), .val (.int x83), .val (.int x84), .val .null, .val (.ref b85), .unset] [(.ref sv)]
      refine Runs.aload i0_190 rfl rfl ?_
      refine Runs.acY (t := 197) i0_192 (by decide) rfl rfl (Jvm.Free.XT.aa_eq_t (congrArg Value.ref rfl)) ?_
      refine Runs.aload i0_197 rfl rfl ?_
      refine Runs.callV (argsL := []) (rest := []) (W := 0) i0_199 (w34 hw) (w35 hw) (fun s hZ => notFace_of_selects (args := #[]) (mvT hZ (w37 hw))) (w37 hw) (w36 hw) (w38 hw) (w6 hw) (by decide) O88.1 pd_4 rfl rfl rfl rfl (by decide) (by decide) (by decide) (by decide) all0 (own_g_exitCode l Z a0 hw n0 b85 .null rfl _ (O88.fld (i := 1) rfl)) ?_
      intro v h1 D1 q hsz
      obtain ⟨rfl, rfl, rfl⟩ := q
      show Runs false l Z [] n0 _ _ _ _ _ _ _ [] h89 1 4 202 #[.val (.int p1), .val (.int p2), .val (.int p3), .val (.int p4), .val (.int p5), .val (.int k), .val (.ref sv), .val (.int (2 : Int32)), .val (.int (1 : Int32)), .val (.int x82), .val (.int x83), .val (.int x84), .val .null, .val (.ref b85), .unset] [.null]
      refine Runs.nullY (t := 207) i0_202 (by decide) ?_
      refine Runs.aload i0_207 rfl rfl ?_
      refine Runs.callV (argsL := []) (rest := []) (W := 0) i0_209 (w39 hw) (w40 hw) (fun s hZ => notFace_of_selects (args := #[]) (mvT hZ (w42 hw))) (w42 hw) (w41 hw) (w43 hw) (w6 hw) (by decide) O88.1 pd_4 rfl rfl rfl rfl (by decide) (by decide) (by decide) (by decide) all0 (own_g_httpStatus l Z a0 hw n0 b85 .null rfl _ (O88.fld (i := 2) rfl)) ?_
      intro v h1 D1 q hsz
      obtain ⟨rfl, rfl, rfl⟩ := q
      show Runs false l Z [] n0 _ _ _ _ _ _ _ [] h89 1 4 212 #[.val (.int p1), .val (.int p2), .val (.int p3), .val (.int p4), .val (.int p5), .val (.int k), .val (.ref sv), .val (.int (2 : Int32)), .val (.int (1 : Int32)), .val (.int x82), .val (.int x83), .val (.int x84), .val .null, .val (.ref b85), .unset] [.null]
      refine Runs.nullY (t := 217) i0_212 (by decide) ?_
      refine Runs.aload i0_217 rfl rfl ?_
      refine Runs.callV (argsL := []) (rest := []) (W := 0) i0_219 (w44 hw) (w45 hw) (fun s hZ => notFace_of_selects (args := #[]) (mvT hZ (w47 hw))) (w47 hw) (w46 hw) (w48 hw) (w6 hw) (by decide) O88.1 pd_5 rfl rfl rfl rfl (by decide) (by decide) (by decide) (by decide) all0 (own_g_output l Z a0 hw n0 b85 .null rfl _ (O88.fld (i := 3) rfl)) ?_
      intro v h1 D1 q hsz
      obtain ⟨rfl, rfl, rfl⟩ := q
      show Runs false l Z [] n0 _ _ _ _ _ _ _ [] h89 1 4 222 #[.val (.int p1), .val (.int p2), .val (.int p3), .val (.int p4), .val (.int p5), .val (.int k), .val (.ref sv), .val (.int (2 : Int32)), .val (.int (1 : Int32)), .val (.int x82), .val (.int x83), .val (.int x84), .val .null, .val (.ref b85), .unset] [.null]
      refine Runs.astore (ls' := #[.val (.int p1), .val (.int p2), .val (.int p3), .val (.int p4), .val (.int p5), .val (.int k), .val (.ref sv), .val (.int (2 : Int32)), .val (.int (1 : Int32)), .val (.int x82), .val (.int x83), .val (.int x84), .val .null, .val (.ref b85), .val .null]) i0_222 rfl rfl ?_
      refine Runs.iload i0_224 rfl ?_
      refine Runs.ifN i0_226 (feq (by decide : ¬ ((1 : Int32) = (0 : Int32)))).1 ?_
      refine Runs.aload i0_229 rfl rfl ?_
      refine Runs.nnullN i0_231 ?_
      refine Runs.iconst (v := (1 : Int32)) i0_234 (by decide) ?_
      refine Runs.goto (t := 239) i0_235 (by decide) ?_
      exact Runs.retI (z := (1 : Int32)) i0_239 rfl (Or.inr (Or.inl rfl)) (by decide) (by decide) (by decide) rfl
  · refine Runs.iand i0_53 q3 ?_
    refine Runs.istore (ls' := #[.val (.int p1), .val (.int p2), .val (.int p3), .val (.int p4), .val (.int p5), .val (.int k), .val (.ref sv), .val (.int (3 : Int32)), .unset, .unset, .unset, .unset, .unset, .unset, .unset]) i0_54 rfl ?_
    refine Runs.iloadN i0_56 rfl ?_
    refine Runs.iconst (v := (4 : Int32)) i0_57 (by decide) ?_
    obtain ⟨x90, hx90⟩ : ∃ z : Int32, p2 &&& (4 : Int32) = z := ⟨_, rfl⟩
    refine Runs.iand i0_58 hx90 ?_
    by_cases hc59 : x90 = (0 : Int32)
    · refine Runs.ifY (t := 66) i0_59 (by decide) (teq hc59).1 ?_
      refine Runs.iconst (v := (0 : Int32)) i0_66 (by decide) ?_
      refine Runs.istore (ls' := #[.val (.int p1), .val (.int p2), .val (.int p3), .val (.int p4), .val (.int p5), .val (.int k), .val (.ref sv), .val (.int (3 : Int32)), .val (.int (0 : Int32)), .unset, .unset, .unset, .unset, .unset, .unset]) i0_67 rfl ?_
      refine Runs.iloadN i0_69 rfl ?_
      obtain ⟨x91, hx91⟩ : ∃ z : Int32, (Int32.toInt8 p3).toInt32 = z := ⟨_, rfl⟩
      refine Runs.i2b i0_70 hx91 ?_
      refine Runs.istore (ls' := #[.val (.int p1), .val (.int p2), .val (.int p3), .val (.int p4), .val (.int p5), .val (.int k), .val (.ref sv), .val (.int (3 : Int32)), .val (.int (0 : Int32)), .val (.int x91), .unset, .unset, .unset, .unset, .unset]) i0_71 rfl ?_
      refine Runs.iloadN i0_73 rfl ?_
      obtain ⟨x92, hx92⟩ : ∃ z : Int32, (Int32.toInt8 p4).toInt32 = z := ⟨_, rfl⟩
      refine Runs.i2b i0_74 hx92 ?_
      refine Runs.istore (ls' := #[.val (.int p1), .val (.int p2), .val (.int p3), .val (.int p4), .val (.int p5), .val (.int k), .val (.ref sv), .val (.int (3 : Int32)), .val (.int (0 : Int32)), .val (.int x91), .val (.int x92), .unset, .unset, .unset, .unset]) i0_75 rfl ?_
      refine Runs.iload i0_77 rfl ?_
      obtain ⟨x93, hx93⟩ : ∃ z : Int32, (Int32.toInt8 p5).toInt32 = z := ⟨_, rfl⟩
      refine Runs.i2b i0_79 hx93 ?_
      refine Runs.istore (ls' := #[.val (.int p1), .val (.int p2), .val (.int p3), .val (.int p4), .val (.int p5), .val (.int k), .val (.ref sv), .val (.int (3 : Int32)), .val (.int (0 : Int32)), .val (.int x91), .val (.int x92), .val (.int x93), .unset, .unset, .unset]) i0_80 rfl ?_
      refine Runs.iload i0_82 rfl ?_
      refine Runs.ifY (t := 93) i0_84 (by decide) (teq (by decide : (0 : Int32) = (0 : Int32))).1 ?_
      refine Runs.iload i0_93 rfl ?_
      refine Runs.ifY (t := 106) i0_95 (by decide) (feq (by decide : ¬ ((3 : Int32) = (0 : Int32)))).2 ?_
      refine Runs.iload i0_106 rfl ?_
      refine Runs.iconst (v := (1 : Int32)) i0_108 (by decide) ?_
      refine Runs.icY (t := 125) i0_109 (by decide) (feq (by decide : ¬ ((3 : Int32) = (1 : Int32)))).2 ?_
      refine Runs.iload i0_125 rfl ?_
      refine Runs.iconst (v := (2 : Int32)) i0_127 (by decide) ?_
      refine Runs.icY (t := 149) i0_128 (by decide) (feq (by decide : ¬ ((3 : Int32) = (2 : Int32)))).2 ?_
      refine Runs.iconst (v := (3 : Int32)) i0_149 (by decide) ?_
      refine Runs.newP (cap := 3) (ad := "[B") i0_150 (w3 hw) (by decide) (by decide) (by decide) (by decide) (by decide) rfl ?_
      intro h94 b95 k96 g99 ge100 K97 (A98 : Arv Z h94 b95 k96 .byte (3 : Int32) [] (.int (0 : Int32))) E101
      have A102 : Arv Z h94 b95 k96 .byte (3 : Int32) [(.int (0 : Int32)), (.int (0 : Int32)), (.int (0 : Int32))] (.int (0 : Int32)) := A98.pad (pad_rep [] (.int (0 : Int32)) 3)
      refine Runs.dup i0_152 rfl ?_
      refine Runs.iconst (v := (0 : Int32)) i0_153 (by decide) ?_
      refine Runs.iload i0_154 rfl ?_
      refine Runs.bastore (i := 0) (y := x91) i0_156 A102 ⟨by decide, by decide⟩ (by decide) (Nat.le_of_ble_eq_true rfl) (own_bb hx91) ge100 (Or.inl (List.mem_of_getElem? (i := 0) rfl)) ?_
      intro h103 K104 (A105 : Arv Z h103 b95 k96 .byte (3 : Int32) [(.int x91), (.int (0 : Int32)), (.int (0 : Int32))] (.int (0 : Int32)))
      refine Runs.dup i0_157 rfl ?_
      refine Runs.iconst (v := (1 : Int32)) i0_158 (by decide) ?_
      refine Runs.iload i0_159 rfl ?_
      refine Runs.bastore (i := 1) (y := x92) i0_161 A105 ⟨by decide, by decide⟩ (by decide) (Nat.le_of_ble_eq_true rfl) (own_bb hx92) ge100 (Or.inl (List.mem_of_getElem? (i := 0) rfl)) ?_
      intro h106 K107 (A108 : Arv Z h106 b95 k96 .byte (3 : Int32) [(.int x91), (.int x92), (.int (0 : Int32))] (.int (0 : Int32)))
      refine Runs.dup i0_162 rfl ?_
      refine Runs.iconst (v := (2 : Int32)) i0_163 (by decide) ?_
      refine Runs.iload i0_164 rfl ?_
      refine Runs.bastore (i := 2) (y := x93) i0_166 A108 ⟨by decide, by decide⟩ (by decide) (Nat.le_of_ble_eq_true rfl) (own_bb hx93) ge100 (Or.inl (List.mem_of_getElem? (i := 0) rfl)) ?_
      intro h109 K110 (A111 : Arv Z h109 b95 k96 .byte (3 : Int32) [(.int x91), (.int x92), (.int x93)] (.int (0 : Int32)))
      refine Runs.astore (ls' := #[.val (.int p1), .val (.int p2), .val (.int p3), .val (.int p4), .val (.int p5), .val (.int k), .val (.ref sv), .val (.int (3 : Int32)), .val (.int (0 : Int32)), .val (.int x91), .val (.int x92), .val (.int x93), .val (.ref b95), .unset, .unset]) i0_167 rfl rfl ?_
      refine Runs.aload i0_169 rfl rfl ?_
      refine Runs.aload i0_171 rfl rfl ?_
      refine Runs.callS (argsL := [(.ref sv), (.ref b95)]) (rest := []) (W := 0) i0_173 (w4 hw) (w5 hw) (w6 hw) (w7 hw) (by decide) pd_2 rfl rfl rfl rfl (by decide) (by decide) (by decide) (by decide) all0 (own_cC l Z a0 hw n0 sv (.ref b95) rfl _) ?_
      intro v h116 D1 q hsz
      obtain ⟨b112, rfl, g113, K114, O115, rfl⟩ := q
      show Runs false l Z [] n0 _ _ _ _ _ _ _ [b95] h116 2 7 176 #[.val (.int p1), .val (.int p2), .val (.int p3), .val (.int p4), .val (.int p5), .val (.int k), .val (.ref sv), .val (.int (3 : Int32)), .val (.int (0 : Int32)), .val (.int x91), .val (.int x92), .val (.int x93), .val (.ref b95), .unset, .unset] [(.ref b112)]
      refine Runs.astore (ls' := #[.val (.int p1), .val (.int p2), .val (.int p3), .val (.int p4), .val (.int p5), .val (.int k), .val (.ref sv), .val (.int (3 : Int32)), .val (.int (0 : Int32)), .val (.int x91), .val (.int x92), .val (.int x93), .val (.ref b95), .val (.ref b112), .unset]) i0_176 rfl rfl ?_
      refine Runs.aload i0_178 rfl rfl ?_
      refine Runs.nnullY (t := 185) i0_180 (by decide) ?_
      refine Runs.aload i0_185 rfl rfl ?_
      refine Runs.callV (argsL := []) (rest := []) (W := 0) i0_187 (w29 hw) (w30 hw) (fun s hZ => notFace_of_selects (args := #[]) (mvT hZ (w32 hw))) (w32 hw) (w31 hw) (w33 hw) (w6 hw) (by decide) O115.1 pd_3 rfl rfl rfl rfl (by decide) (by decide) (by decide) (by decide) all0 (own_g_status l Z a0 hw n0 b112 (.ref sv) rfl _ (O115.fld (i := 0) rfl)) ?_
      intro v h1 D1 q hsz
      obtain ⟨rfl, rfl, rfl⟩ := q
      show Runs false l Z [] n0 _ _ _ _ _ _ _ [b95] h116 2 7 190 #[.val (.int p1), .val (.int p2), .val (.int p3), .val (.int p4), .val (.int p5), .val (.int k), .val (.ref sv), .val (.int (3 : Int32)), .val (.int (0 : Int32)), .val (.int x91), .val (.int x92), .val (.int x93), .val (.ref b95), .val (.ref b112), .unset] [(.ref sv)]
      refine Runs.aload i0_190 rfl rfl ?_
      refine Runs.acY (t := 197) i0_192 (by decide) rfl rfl (Jvm.Free.XT.aa_eq_t (congrArg Value.ref rfl)) ?_
      refine Runs.aload i0_197 rfl rfl ?_
      refine Runs.callV (argsL := []) (rest := []) (W := 0) i0_199 (w34 hw) (w35 hw) (fun s hZ => notFace_of_selects (args := #[]) (mvT hZ (w37 hw))) (w37 hw) (w36 hw) (w38 hw) (w6 hw) (by decide) O115.1 pd_4 rfl rfl rfl rfl (by decide) (by decide) (by decide) (by decide) all0 (own_g_exitCode l Z a0 hw n0 b112 .null rfl _ (O115.fld (i := 1) rfl)) ?_
      intro v h1 D1 q hsz
      obtain ⟨rfl, rfl, rfl⟩ := q
      show Runs false l Z [] n0 _ _ _ _ _ _ _ [b95] h116 2 7 202 #[.val (.int p1), .val (.int p2), .val (.int p3), .val (.int p4), .val (.int p5), .val (.int k), .val (.ref sv), .val (.int (3 : Int32)), .val (.int (0 : Int32)), .val (.int x91), .val (.int x92), .val (.int x93), .val (.ref b95), .val (.ref b112), .unset] [.null]
      refine Runs.nullY (t := 207) i0_202 (by decide) ?_
      refine Runs.aload i0_207 rfl rfl ?_
      refine Runs.callV (argsL := []) (rest := []) (W := 0) i0_209 (w39 hw) (w40 hw) (fun s hZ => notFace_of_selects (args := #[]) (mvT hZ (w42 hw))) (w42 hw) (w41 hw) (w43 hw) (w6 hw) (by decide) O115.1 pd_4 rfl rfl rfl rfl (by decide) (by decide) (by decide) (by decide) all0 (own_g_httpStatus l Z a0 hw n0 b112 .null rfl _ (O115.fld (i := 2) rfl)) ?_
      intro v h1 D1 q hsz
      obtain ⟨rfl, rfl, rfl⟩ := q
      show Runs false l Z [] n0 _ _ _ _ _ _ _ [b95] h116 2 7 212 #[.val (.int p1), .val (.int p2), .val (.int p3), .val (.int p4), .val (.int p5), .val (.int k), .val (.ref sv), .val (.int (3 : Int32)), .val (.int (0 : Int32)), .val (.int x91), .val (.int x92), .val (.int x93), .val (.ref b95), .val (.ref b112), .unset] [.null]
      refine Runs.nullY (t := 217) i0_212 (by decide) ?_
      refine Runs.aload i0_217 rfl rfl ?_
      refine Runs.callV (argsL := []) (rest := []) (W := 0) i0_219 (w44 hw) (w45 hw) (fun s hZ => notFace_of_selects (args := #[]) (mvT hZ (w47 hw))) (w47 hw) (w46 hw) (w48 hw) (w6 hw) (by decide) O115.1 pd_5 rfl rfl rfl rfl (by decide) (by decide) (by decide) (by decide) all0 (own_g_output l Z a0 hw n0 b112 (.ref b95) rfl _ (O115.fld (i := 3) rfl)) ?_
      intro v h1 D1 q hsz
      obtain ⟨rfl, rfl, rfl⟩ := q
      show Runs false l Z [] n0 _ _ _ _ _ _ _ [b95] h116 2 7 222 #[.val (.int p1), .val (.int p2), .val (.int p3), .val (.int p4), .val (.int p5), .val (.int k), .val (.ref sv), .val (.int (3 : Int32)), .val (.int (0 : Int32)), .val (.int x91), .val (.int x92), .val (.int x93), .val (.ref b95), .val (.ref b112), .unset] [(.ref b95)]
      refine Runs.astore (ls' := #[.val (.int p1), .val (.int p2), .val (.int p3), .val (.int p4), .val (.int p5), .val (.int k), .val (.ref sv), .val (.int (3 : Int32)), .val (.int (0 : Int32)), .val (.int x91), .val (.int x92), .val (.int x93), .val (.ref b95), .val (.ref b112), .val (.ref b95)]) i0_222 rfl rfl ?_
      refine Runs.iload i0_224 rfl ?_
      refine Runs.ifY (t := 240) i0_226 (by decide) (teq (by decide : (0 : Int32) = (0 : Int32))).1 ?_
      refine Runs.aload i0_240 rfl rfl ?_
      refine Runs.nnullY (t := 247) i0_242 (by decide) ?_
      refine Runs.aload i0_247 rfl rfl ?_
      have A117 := (A111.keep K114 nin0)
      refine Runs.arrlen i0_249 A117 ?_
      refine Runs.iload i0_250 rfl ?_
      refine Runs.icY (t := 257) i0_252 (by decide) (teq (by decide : (3 : Int32) = (3 : Int32))).1 ?_
      refine Runs.iload i0_257 rfl ?_
      refine Runs.iconst (v := (1 : Int32)) i0_259 (by decide) ?_
      refine Runs.icN i0_260 (flt (by decide : ¬ ((3 : Int32) < (1 : Int32)))).1 ?_
      refine Runs.aload i0_263 rfl rfl ?_
      refine Runs.iconst (v := (0 : Int32)) i0_265 (by decide) ?_
      refine Runs.baload (v := (.int x91)) i0_266 A117 ⟨by decide, by decide⟩ rfl ?_
      refine Runs.iload i0_267 rfl ?_
      refine Runs.icY (t := 274) i0_269 (by decide) (teq (rfl : x91 = x91)).1 ?_
      refine Runs.iload i0_274 rfl ?_
      refine Runs.iconst (v := (2 : Int32)) i0_276 (by decide) ?_
      refine Runs.icN i0_277 (flt (by decide : ¬ ((3 : Int32) < (2 : Int32)))).1 ?_
      refine Runs.aload i0_280 rfl rfl ?_
      refine Runs.iconst (v := (1 : Int32)) i0_282 (by decide) ?_
      refine Runs.baload (v := (.int x92)) i0_283 A117 ⟨by decide, by decide⟩ rfl ?_
      refine Runs.iload i0_284 rfl ?_
      refine Runs.icY (t := 291) i0_286 (by decide) (teq (rfl : x92 = x92)).1 ?_
      refine Runs.iload i0_291 rfl ?_
      refine Runs.iconst (v := (3 : Int32)) i0_293 (by decide) ?_
      refine Runs.icN i0_294 (flt (by decide : ¬ ((3 : Int32) < (3 : Int32)))).1 ?_
      refine Runs.aload i0_297 rfl rfl ?_
      refine Runs.iconst (v := (2 : Int32)) i0_299 (by decide) ?_
      refine Runs.baload (v := (.int x93)) i0_300 A117 ⟨by decide, by decide⟩ rfl ?_
      refine Runs.iload i0_301 rfl ?_
      refine Runs.icY (t := 308) i0_303 (by decide) (teq (rfl : x93 = x93)).1 ?_
      refine Runs.iconst (v := (1 : Int32)) i0_308 (by decide) ?_
      exact Runs.retI (z := (1 : Int32)) i0_309 rfl (Or.inr (Or.inl rfl)) (by decide) (by decide) (by decide) rfl
    · refine Runs.ifN i0_59 (feq hc59).1 ?_
      refine Runs.iconst (v := (1 : Int32)) i0_62 (by decide) ?_
      refine Runs.goto (t := 67) i0_63 (by decide) ?_
      refine Runs.istore (ls' := #[.val (.int p1), .val (.int p2), .val (.int p3), .val (.int p4), .val (.int p5), .val (.int k), .val (.ref sv), .val (.int (3 : Int32)), .val (.int (1 : Int32)), .unset, .unset, .unset, .unset, .unset, .unset]) i0_67 rfl ?_
      refine Runs.iloadN i0_69 rfl ?_
      obtain ⟨x118, hx118⟩ : ∃ z : Int32, (Int32.toInt8 p3).toInt32 = z := ⟨_, rfl⟩
      refine Runs.i2b i0_70 hx118 ?_
      refine Runs.istore (ls' := #[.val (.int p1), .val (.int p2), .val (.int p3), .val (.int p4), .val (.int p5), .val (.int k), .val (.ref sv), .val (.int (3 : Int32)), .val (.int (1 : Int32)), .val (.int x118), .unset, .unset, .unset, .unset, .unset]) i0_71 rfl ?_
      refine Runs.iloadN i0_73 rfl ?_
      obtain ⟨x119, hx119⟩ : ∃ z : Int32, (Int32.toInt8 p4).toInt32 = z := ⟨_, rfl⟩
      refine Runs.i2b i0_74 hx119 ?_
      refine Runs.istore (ls' := #[.val (.int p1), .val (.int p2), .val (.int p3), .val (.int p4), .val (.int p5), .val (.int k), .val (.ref sv), .val (.int (3 : Int32)), .val (.int (1 : Int32)), .val (.int x118), .val (.int x119), .unset, .unset, .unset, .unset]) i0_75 rfl ?_
      refine Runs.iload i0_77 rfl ?_
      obtain ⟨x120, hx120⟩ : ∃ z : Int32, (Int32.toInt8 p5).toInt32 = z := ⟨_, rfl⟩
      refine Runs.i2b i0_79 hx120 ?_
      refine Runs.istore (ls' := #[.val (.int p1), .val (.int p2), .val (.int p3), .val (.int p4), .val (.int p5), .val (.int k), .val (.ref sv), .val (.int (3 : Int32)), .val (.int (1 : Int32)), .val (.int x118), .val (.int x119), .val (.int x120), .unset, .unset, .unset]) i0_80 rfl ?_
      refine Runs.iload i0_82 rfl ?_
      refine Runs.ifN i0_84 (feq (by decide : ¬ ((1 : Int32) = (0 : Int32)))).1 ?_
      refine Runs.aconstNull i0_87 ?_
      refine Runs.astore (ls' := #[.val (.int p1), .val (.int p2), .val (.int p3), .val (.int p4), .val (.int p5), .val (.int k), .val (.ref sv), .val (.int (3 : Int32)), .val (.int (1 : Int32)), .val (.int x118), .val (.int x119), .val (.int x120), .val .null, .unset, .unset]) i0_88 rfl rfl ?_
      refine Runs.goto (t := 169) i0_90 (by decide) ?_
      refine Runs.aload i0_169 rfl rfl ?_
      refine Runs.aload i0_171 rfl rfl ?_
      refine Runs.callS (argsL := [(.ref sv), .null]) (rest := []) (W := 0) i0_173 (w4 hw) (w5 hw) (w6 hw) (w7 hw) (by decide) pd_2 rfl rfl rfl rfl (by decide) (by decide) (by decide) (by decide) all0 (own_cC l Z a0 hw n0 sv .null rfl _) ?_
      intro v h125 D1 q hsz
      obtain ⟨b121, rfl, g122, K123, O124, rfl⟩ := q
      show Runs false l Z [] n0 _ _ _ _ _ _ _ [] h125 1 4 176 #[.val (.int p1), .val (.int p2), .val (.int p3), .val (.int p4), .val (.int p5), .val (.int k), .val (.ref sv), .val (.int (3 : Int32)), .val (.int (1 : Int32)), .val (.int x118), .val (.int x119), .val (.int x120), .val .null, .unset, .unset] [(.ref b121)]
      refine Runs.astore (ls' := #[.val (.int p1), .val (.int p2), .val (.int p3), .val (.int p4), .val (.int p5), .val (.int k), .val (.ref sv), .val (.int (3 : Int32)), .val (.int (1 : Int32)), .val (.int x118), .val (.int x119), .val (.int x120), .val .null, .val (.ref b121), .unset]) i0_176 rfl rfl ?_
      refine Runs.aload i0_178 rfl rfl ?_
      refine Runs.nnullY (t := 185) i0_180 (by decide) ?_
      refine Runs.aload i0_185 rfl rfl ?_
      refine Runs.callV (argsL := []) (rest := []) (W := 0) i0_187 (w29 hw) (w30 hw) (fun s hZ => notFace_of_selects (args := #[]) (mvT hZ (w32 hw))) (w32 hw) (w31 hw) (w33 hw) (w6 hw) (by decide) O124.1 pd_3 rfl rfl rfl rfl (by decide) (by decide) (by decide) (by decide) all0 (own_g_status l Z a0 hw n0 b121 (.ref sv) rfl _ (O124.fld (i := 0) rfl)) ?_
      intro v h1 D1 q hsz
      obtain ⟨rfl, rfl, rfl⟩ := q
      show Runs false l Z [] n0 _ _ _ _ _ _ _ [] h125 1 4 190 #[.val (.int p1), .val (.int p2), .val (.int p3), .val (.int p4), .val (.int p5), .val (.int k), .val (.ref sv), .val (.int (3 : Int32)), .val (.int (1 : Int32)), .val (.int x118), .val (.int x119), .val (.int x120), .val .null, .val (.ref b121), .unset] [(.ref sv)]
      refine Runs.aload i0_190 rfl rfl ?_
      refine Runs.acY (t := 197) i0_192 (by decide) rfl rfl (Jvm.Free.XT.aa_eq_t (congrArg Value.ref rfl)) ?_
      refine Runs.aload i0_197 rfl rfl ?_
      refine Runs.callV (argsL := []) (rest := []) (W := 0) i0_199 (w34 hw) (w35 hw) (fun s hZ => notFace_of_selects (args := #[]) (mvT hZ (w37 hw))) (w37 hw) (w36 hw) (w38 hw) (w6 hw) (by decide) O124.1 pd_4 rfl rfl rfl rfl (by decide) (by decide) (by decide) (by decide) all0 (own_g_exitCode l Z a0 hw n0 b121 .null rfl _ (O124.fld (i := 1) rfl)) ?_
      intro v h1 D1 q hsz
      obtain ⟨rfl, rfl, rfl⟩ := q
      show Runs false l Z [] n0 _ _ _ _ _ _ _ [] h125 1 4 202 #[.val (.int p1), .val (.int p2), .val (.int p3), .val (.int p4), .val (.int p5), .val (.int k), .val (.ref sv), .val (.int (3 : Int32)), .val (.int (1 : Int32)), .val (.int x118), .val (.int x119), .val (.int x120), .val .null, .val (.ref b121), .unset] [.null]
      refine Runs.nullY (t := 207) i0_202 (by decide) ?_
      refine Runs.aload i0_207 rfl rfl ?_
      refine Runs.callV (argsL := []) (rest := []) (W := 0) i0_209 (w39 hw) (w40 hw) (fun s hZ => notFace_of_selects (args := #[]) (mvT hZ (w42 hw))) (w42 hw) (w41 hw) (w43 hw) (w6 hw) (by decide) O124.1 pd_4 rfl rfl rfl rfl (by decide) (by decide) (by decide) (by decide) all0 (own_g_httpStatus l Z a0 hw n0 b121 .null rfl _ (O124.fld (i := 2) rfl)) ?_
      intro v h1 D1 q hsz
      obtain ⟨rfl, rfl, rfl⟩ := q
      show Runs false l Z [] n0 _ _ _ _ _ _ _ [] h125 1 4 212 #[.val (.int p1), .val (.int p2), .val (.int p3), .val (.int p4), .val (.int p5), .val (.int k), .val (.ref sv), .val (.int (3 : Int32)), .val (.int (1 : Int32)), .val (.int x118), .val (.int x119), .val (.int x120), .val .null, .val (.ref b121), .unset] [.null]
      refine Runs.nullY (t := 217) i0_212 (by decide) ?_
      refine Runs.aload i0_217 rfl rfl ?_
      refine Runs.callV (argsL := []) (rest := []) (W := 0) i0_219 (w44 hw) (w45 hw) (fun s hZ => notFace_of_selects (args := #[]) (mvT hZ (w47 hw))) (w47 hw) (w46 hw) (w48 hw) (w6 hw) (by decide) O124.1 pd_5 rfl rfl rfl rfl (by decide) (by decide) (by decide) (by decide) all0 (own_g_output l Z a0 hw n0 b121 .null rfl _ (O124.fld (i := 3) rfl)) ?_
      intro v h1 D1 q hsz
      obtain ⟨rfl, rfl, rfl⟩ := q
      show Runs false l Z [] n0 _ _ _ _ _ _ _ [] h125 1 4 222 #[.val (.int p1), .val (.int p2), .val (.int p3), .val (.int p4), .val (.int p5), .val (.int k), .val (.ref sv), .val (.int (3 : Int32)), .val (.int (1 : Int32)), .val (.int x118), .val (.int x119), .val (.int x120), .val .null, .val (.ref b121), .unset] [.null]
      refine Runs.astore (ls' := #[.val (.int p1), .val (.int p2), .val (.int p3), .val (.int p4), .val (.int p5), .val (.int k), .val (.ref sv), .val (.int (3 : Int32)), .val (.int (1 : Int32)), .val (.int x118), .val (.int x119), .val (.int x120), .val .null, .val (.ref b121), .val .null]) i0_222 rfl rfl ?_
      refine Runs.iload i0_224 rfl ?_
      refine Runs.ifN i0_226 (feq (by decide : ¬ ((1 : Int32) = (0 : Int32)))).1 ?_
      refine Runs.aload i0_229 rfl rfl ?_
      refine Runs.nnullN i0_231 ?_
      refine Runs.iconst (v := (1 : Int32)) i0_234 (by decide) ?_
      refine Runs.goto (t := 239) i0_235 (by decide) ?_
      exact Runs.retI (z := (1 : Int32)) i0_239 rfl (Or.inr (Or.inl rfl)) (by decide) (by decide) (by decide) rfl
set_option maxRecDepth 65536 in
set_option maxHeartbeats 4000000 in
theorem own_law (l : Launch) (Z : State) (a0 : Array Value) (hw : Wds Z a0) (n0 : Nat) (p1 p2 p3 p4 p5 : Int32) (sSUCCEEDED sFAILED sTIMED_OUT sABANDONED : Addr) (S_SUCCEEDED : Sta Z Z.heap "com/example/pacerd/pacerd/run/RunStatus" "SUCCEEDED" "Lcom/example/pacerd/pacerd/run/RunStatus;" (.ref sSUCCEEDED)) (S_FAILED : Sta Z Z.heap "com/example/pacerd/pacerd/run/RunStatus" "FAILED" "Lcom/example/pacerd/pacerd/run/RunStatus;" (.ref sFAILED)) (S_TIMED_OUT : Sta Z Z.heap "com/example/pacerd/pacerd/run/RunStatus" "TIMED_OUT" "Lcom/example/pacerd/pacerd/run/RunStatus;" (.ref sTIMED_OUT)) (S_ABANDONED : Sta Z Z.heap "com/example/pacerd/pacerd/run/RunStatus" "ABANDONED" "Lcom/example/pacerd/pacerd/run/RunStatus;" (.ref sABANDONED)) : Con false l Z [] n0 x code maxLocals ret room_1 #[(.int p1), (.int p2), (.int p3), (.int p4), (.int p5)] [] Z.heap (fun v h D' => v = some (.int 1)) := by
  refine Con.of_runs (ls := #[.val (.int p1), .val (.int p2), .val (.int p3), .val (.int p4), .val (.int p5), .unset, .unset, .unset, .unset, .unset, .unset, .unset, .unset, .unset, .unset]) (by decide +kernel) (fun m => rfl) ?_
  refine Runs.iloadN i0_0 rfl ?_
  refine Runs.iconst (v := (3 : Int32)) i0_1 (by decide) ?_
  obtain ⟨x1, hx1⟩ : ∃ z : Int32, p1 &&& (3 : Int32) = z := ⟨_, rfl⟩
  refine Runs.iand i0_2 hx1 ?_
  refine Runs.istore (ls' := #[.val (.int p1), .val (.int p2), .val (.int p3), .val (.int p4), .val (.int p5), .val (.int x1), .unset, .unset, .unset, .unset, .unset, .unset, .unset, .unset, .unset]) i0_3 rfl ?_
  refine Runs.iload i0_5 rfl ?_
  by_cases hc7 : x1 = (0 : Int32)
  · refine Runs.ifN i0_7 (teq hc7).2 ?_
    refine Runs.getS i0_10 (w0 hw) Via.refl S_SUCCEEDED ?_
    refine Runs.astore (ls' := #[.val (.int p1), .val (.int p2), .val (.int p3), .val (.int p4), .val (.int p5), .val (.int x1), .val (.ref sSUCCEEDED), .unset, .unset, .unset, .unset, .unset, .unset, .unset, .unset]) i0_13 rfl rfl ?_
    refine Runs.goto (t := 51) i0_15 (by decide) ?_
    exact own_rest l Z a0 hw n0 p1 p2 p3 p4 p5 x1 sSUCCEEDED
  · refine Runs.ifY (t := 18) i0_7 (by decide) (feq hc7).2 ?_
    refine Runs.iload i0_18 rfl ?_
    refine Runs.iconst (v := (1 : Int32)) i0_20 (by decide) ?_
    by_cases hc21 : x1 = (1 : Int32)
    · refine Runs.icN i0_21 (teq hc21).2 ?_
      refine Runs.getS i0_24 (w53 hw) Via.refl S_FAILED ?_
      refine Runs.astore (ls' := #[.val (.int p1), .val (.int p2), .val (.int p3), .val (.int p4), .val (.int p5), .val (.int x1), .val (.ref sFAILED), .unset, .unset, .unset, .unset, .unset, .unset, .unset, .unset]) i0_27 rfl rfl ?_
      refine Runs.goto (t := 51) i0_29 (by decide) ?_
      exact own_rest l Z a0 hw n0 p1 p2 p3 p4 p5 x1 sFAILED
    · refine Runs.icY (t := 32) i0_21 (by decide) (feq hc21).2 ?_
      refine Runs.iload i0_32 rfl ?_
      refine Runs.iconst (v := (2 : Int32)) i0_34 (by decide) ?_
      by_cases hc35 : x1 = (2 : Int32)
      · refine Runs.icN i0_35 (teq hc35).2 ?_
        refine Runs.getS i0_38 (w51 hw) Via.refl S_TIMED_OUT ?_
        refine Runs.astore (ls' := #[.val (.int p1), .val (.int p2), .val (.int p3), .val (.int p4), .val (.int p5), .val (.int x1), .val (.ref sTIMED_OUT), .unset, .unset, .unset, .unset, .unset, .unset, .unset, .unset]) i0_41 rfl rfl ?_
        refine Runs.goto (t := 51) i0_43 (by decide) ?_
        exact own_rest l Z a0 hw n0 p1 p2 p3 p4 p5 x1 sTIMED_OUT
      · refine Runs.icY (t := 46) i0_35 (by decide) (feq hc35).2 ?_
        refine Runs.getS i0_46 (w49 hw) Via.refl S_ABANDONED ?_
        refine Runs.astore (ls' := #[.val (.int p1), .val (.int p2), .val (.int p3), .val (.int p4), .val (.int p5), .val (.int x1), .val (.ref sABANDONED), .unset, .unset, .unset, .unset, .unset, .unset, .unset, .unset]) i0_49 rfl rfl ?_
        exact own_rest l Z a0 hw n0 p1 p2 p3 p4 p5 x1 sABANDONED
set_option maxRecDepth 65536 in
set_option maxHeartbeats 40000000 in
theorem comes_1 {Post : Tables → Env → Array Value → State → Outcome → State → Prop} (hpost : ∀ tb e args s v u, (limb_1_1.after args s (.returned v) u = true ∧ limb_1_2.after args s (.returned v) u = true ∧ True) → FrameEnd s (.returned v) u (Jvm.fieldLocs frame_1_writes args s ++ Jvm.arrayLocs frame_1_arrays args s ++ Jvm.staticLocs frame_1_statics s) 16 128 → Post tb e args s (.returned v) u) :
    ArmFor flags0 classFile x code maxLocals ret World_1 tables_1 room_1 Calls_1 rest_1 Pre_1 Post := by
  intro l hfl _ _ p e ha hc hk s m args below hf hA hF happ hP
  obtain ⟨hcalls, hrest, hpre⟩ := hP
  obtain ⟨-, -, -, hnamed, -, -, -, hat⟩ := (Spec.applies_iff hf).mp happ
  obtain ⟨hg, hn⟩ := and_e (Cond.before_iff.mp (show (Jvm.Cond.and given_1 narrow_1).before args s = true from hpre))
  obtain ⟨g1, g2⟩ := and_e hg
  obtain ⟨g3, g4⟩ := and_e g2
  obtain ⟨g5, g6⟩ := and_e g4
  obtain ⟨g7, g8⟩ := and_e g6
  obtain ⟨g9, g10⟩ := and_e g8
  obtain ⟨g11, g12⟩ := and_e hn
  obtain ⟨g13, g14⟩ := and_e g12
  obtain ⟨g15, g16⟩ := and_e g14
  obtain ⟨w0, w1, w2, w3, w4, rfl⟩ : ∃ w0 w1 w2 w3 w4 : Value, args = #[w0, w1, w2, w3, w4] := by
    have hs : args.size = 5 := by simpa [Cond.value, given_1] using g1
    obtain ⟨L⟩ := args
    match L, hs with
    | [w0, w1, w2, w3, w4], _ => exact ⟨w0, w1, w2, w3, w4, rfl⟩
  have hw : Wds s _ := fun d (hd : d ∈ tables_1) => atoms_spec (ws := Jvm.Cond.code x code maxLocals ret :: tables_1) hat d (List.mem_cons_of_mem _ hd)
  obtain ⟨i0, ei0⟩ := is_v g3
  obtain rfl : w0 = (.int i0) := Option.some.inj ei0
  obtain ⟨i1, ei1⟩ := is_v g5
  obtain rfl : w1 = (.int i1) := Option.some.inj ei1
  obtain ⟨i2, ei2⟩ := is_v g7
  obtain rfl : w2 = (.int i2) := Option.some.inj ei2
  obtain ⟨i3, ei3⟩ := is_v g9
  obtain rfl : w3 = (.int i3) := Option.some.inj ei3
  obtain ⟨i4, ei4⟩ := is_v g10
  obtain rfl : w4 = (.int i4) := Option.some.inj ei4
  obtain ⟨sSUCCEEDED, ev_SUCCEEDED⟩ := exa_v g11
  have E_SUCCEEDED := Exa.start ev_SUCCEEDED g11
  have S_SUCCEEDED : Sta s s.heap "com/example/pacerd/pacerd/run/RunStatus" "SUCCEEDED" "Lcom/example/pacerd/pacerd/run/RunStatus;" (.ref sSUCCEEDED) := Sta.start ev_SUCCEEDED (Or.inr ⟨(w1 hw), (w2 hw)⟩)
  obtain ⟨sABANDONED, ev_ABANDONED⟩ := exa_v g13
  have E_ABANDONED := Exa.start ev_ABANDONED g13
  have S_ABANDONED : Sta s s.heap "com/example/pacerd/pacerd/run/RunStatus" "ABANDONED" "Lcom/example/pacerd/pacerd/run/RunStatus;" (.ref sABANDONED) := Sta.start ev_ABANDONED (Or.inr ⟨(w1 hw), (w50 hw)⟩)
  obtain ⟨sTIMED_OUT, ev_TIMED_OUT⟩ := exa_v g15
  have E_TIMED_OUT := Exa.start ev_TIMED_OUT g15
  have S_TIMED_OUT : Sta s s.heap "com/example/pacerd/pacerd/run/RunStatus" "TIMED_OUT" "Lcom/example/pacerd/pacerd/run/RunStatus;" (.ref sTIMED_OUT) := Sta.start ev_TIMED_OUT (Or.inr ⟨(w1 hw), (w52 hw)⟩)
  obtain ⟨sFAILED, ev_FAILED⟩ := exa_v g16
  have E_FAILED := Exa.start ev_FAILED g16
  have S_FAILED : Sta s s.heap "com/example/pacerd/pacerd/run/RunStatus" "FAILED" "Lcom/example/pacerd/pacerd/run/RunStatus;" (.ref sFAILED) := Sta.start ev_FAILED (Or.inr ⟨(w1 hw), (w54 hw)⟩)
  obtain ⟨n, o, h1, h2, h3, v, L, D', rfl, rfl, -, N, -, hq⟩ := own_law l s _ hw s.heap.size i0 i1 i2 i3 i4 sSUCCEEDED sFAILED sTIMED_OUT sABANDONED S_SUCCEEDED S_FAILED S_TIMED_OUT S_ABANDONED tables_1 p e ha hc hk s m _ below hf ((Spec.applies_iff_loose hf).mp happ).1 ⟨rfl, State.Warmed39.refl s, rfl, Old.start s, ⟨#[], EW.nil⟩, ch0, fun _ q => nomatch q⟩ trivial
  have hq : FrameEnd s _ _ L _ _ := hq
  refine ⟨n, _, h1, h2, h3, hpost _ _ _ _ _ _ ⟨Cond.after_iff.mpr rfl, Cond.after_iff.mpr (eq_i res_at (Term.int_eval (1)) rfl), trivial⟩ ⟨hq.1, hq.2.1, (hq.2.2.sift fun y hy => Or.inr (N y hy)).mono (by decide) (by decide)⟩⟩
theorem main_1_1 : Claimed_1_1 := comes_1 fun _ _ _ _ _ _ h hF => ⟨h.1, hF⟩
theorem main_1_2 : Claimed_1_2 := comes_1 fun _ _ _ _ _ _ h hF => ⟨h.2.1, hF⟩
end Jvm.Pilot.@@N@@
namespace Jvm.Pilot.@@N@@
open Jvm Jvm.ClassFile Sem Op Lib Jvm.Free Jvm.Stand Jvm.Pilot.@@N@@.Jvm.D
/-! MADE BY PROGRAM (witnessworld.py) out of the Statement's table words and the real class files: 14 classes; the members and pool entries that the words name. The judged class is class 1, her method 1. -/
namespace start1
open Jvm.ClassFile
def u (s : String) : CpInfo := .utf8 (stringToUtf16 s)
/-- a pool by its gaps: so many unusable entries, then the entry; so many at the end -/
def gap : Nat → List CpInfo → List CpInfo
  | 0, r => r
  | n + 1, r => .unusable :: gap n r
def poolList (es : List (Nat × CpInfo)) (last : Nat) : List CpInfo := es.foldr (fun e r => gap e.1 (e.2 :: r)) (gap last [])
def pool (es : List (Nat × CpInfo)) (last : Nat) : Array CpInfo := ⟨poolList es last⟩
def fileOf (pool : Array CpInfo) (this : Nat) (attrs : Array Attribute := #[]) (ms : Array MethodInfo := #[]) (fl : Nat := 33) (sup : Nat := 0) (ifs : Array Nat := #[]) (fds : Array FieldInfo := #[]) : ClassFile where
  minorVersion := 0
  majorVersion := 65
  constantPool := pool
  accessFlags := fl
  thisClass := this
  superClass := sup
  interfaces := ifs
  fields := fds
  methods := ms
  attributes := attrs
def plain (name : String) (sup : Option ClassId) : Class where
  name := name
  kind := .ordinary
  loader := none
  accessFlags := 33
  super := sup
  interfaces := #[]
  cf := none
  fields := #[]
  methods := #[]
  instanceTypes := #[]
  staticTypes := #[]
  resolved := #[]
  callSites := []
  init := .initialized
  statics := none
  mirror := none

def pool0 : Array CpInfo := pool [(5, u "<init>"), (0, u "()V"), (1, .class_ 10), (1, u "java/lang/Object")] 113

def k0c0 : Code := { maxStack := 0, maxLocals := 1, code := object_method_1_code, exceptionTable := #[], attributes := #[] }
def k0m0 : Method := { name := "<init>", desc := "()V", sig := { parameters := [], returnType := none }, accessFlags := 1, code := some k0c0 }
/-- java/lang/Object -/
def k0 : Class := { plain "java/lang/Object" none with
  accessFlags := 33
  interfaces := #[]
  cf := some (fileOf pool0 8 #[] #[{ accessFlags := 1, nameIndex := 5, descriptorIndex := 6, attributes := #[] }] 33 0 #[] #[])
  fields := #[]
  methods := #[k0m0]
  instanceTypes := #[]
  staticTypes := #[]
  resolved := Array.replicate 124 none
  statics := none }

def pool1 : Array CpInfo := pool [(2, .class_ 4), (1, u "java/lang/Object"), (0, u "<init>"), (0, u "()V"), (0, .fieldref 8 9), (0, .class_ 10), (0, .nameAndType 11 12), (0, u "com/example/pacerd/pacerd/run/RunStatus"), (0, u "SUCCEEDED"), (0, u "Lcom/example/pacerd/pacerd/run/RunStatus;"), (0, .fieldref 8 14), (0, .nameAndType 15 12), (0, u "FAILED"), (0, .fieldref 8 17), (0, .nameAndType 18 12), (0, u "TIMED_OUT"), (0, .fieldref 8 20), (0, .nameAndType 21 12), (0, u "ABANDONED"), (0, .methodref 23 24), (0, .class_ 25), (0, .nameAndType 26 27), (0, u "com/example/pacerd/pacerd/run/Outcome"), (0, u "cutShort"), (0, u "(Lcom/example/pacerd/pacerd/run/RunStatus;[B)Lcom/example/pacerd/pacerd/run/Outcome;"), (0, .methodref 23 29), (0, .nameAndType 30 31), (0, u "status"), (0, u "()Lcom/example/pacerd/pacerd/run/RunStatus;"), (0, .methodref 23 33), (0, .nameAndType 34 35), (0, u "exitCode"), (0, u "()Ljava/lang/Integer;"), (0, .methodref 23 37), (0, .nameAndType 38 35), (0, u "httpStatus"), (0, .methodref 23 40), (0, .nameAndType 41 42), (0, u "output"), (0, u "()[B"), (0, .class_ 44), (0, u "com/example/pacerd/pacerd/run/OutcomeCutShortPinLaw"), (2, u "law"), (0, u "(IIIII)Z")] 5

def k1m0 : Method := { name := "<init>", desc := "()V", sig := { parameters := [], returnType := none }, accessFlags := 1, code := none }
def k1c1 : Code := { maxStack := 4, maxLocals := 15, code := code, exceptionTable := #[], attributes := #[] }
def k1m1 : Method := { name := "law", desc := "(IIIII)Z", sig := { parameters := [.int, .int, .int, .int, .int], returnType := some .boolean }, accessFlags := 9, code := some k1c1 }
/-- com/example/pacerd/pacerd/run/OutcomeCutShortPinLaw -/
def k1 : Class := { plain "com/example/pacerd/pacerd/run/OutcomeCutShortPinLaw" (some 0) with
  accessFlags := 49
  interfaces := #[]
  cf := some (fileOf pool1 43 #[] #[{ accessFlags := 1, nameIndex := 5, descriptorIndex := 6, attributes := #[] }, { accessFlags := 9, nameIndex := 47, descriptorIndex := 48, attributes := #[] }] 49 2 #[] #[])
  fields := #[]
  methods := #[k1m0, k1m1]
  instanceTypes := #[]
  staticTypes := #[]
  resolved := Array.replicate 54 none
  statics := none }

def pool2 : Array CpInfo := pool [(1, .class_ 2), (0, u "java/lang/constant/Constable"), (0, .class_ 4), (0, u "java/lang/Object")] 6

/-- java/lang/constant/Constable -/
def k2 : Class := { plain "java/lang/constant/Constable" (some 0) with
  accessFlags := 1537
  interfaces := #[]
  cf := some (fileOf pool2 1 #[] #[] 1537 3 #[] #[])
  fields := #[]
  methods := #[]
  instanceTypes := #[]
  staticTypes := #[]
  resolved := Array.replicate 11 none
  statics := none }

def pool3 : Array CpInfo := pool [(1, .class_ 2), (0, u "java/lang/Comparable"), (0, .class_ 4), (0, u "java/lang/Object")] 7

/-- java/lang/Comparable -/
def k3 : Class := { plain "java/lang/Comparable" (some 0) with
  accessFlags := 1537
  interfaces := #[]
  cf := some (fileOf pool3 1 #[] #[] 1537 3 #[] #[])
  fields := #[]
  methods := #[]
  instanceTypes := #[]
  staticTypes := #[]
  resolved := Array.replicate 12 none
  statics := none }

def pool4 : Array CpInfo := pool [(1, .class_ 2), (0, u "java/io/Serializable"), (0, .class_ 4), (0, u "java/lang/Object")] 2

/-- java/io/Serializable -/
def k4 : Class := { plain "java/io/Serializable" (some 0) with
  accessFlags := 1537
  interfaces := #[]
  cf := some (fileOf pool4 1 #[] #[] 1537 3 #[] #[])
  fields := #[]
  methods := #[]
  instanceTypes := #[]
  staticTypes := #[]
  resolved := Array.replicate 7 none
  statics := none }

def pool5 : Array CpInfo := pool [(2, .class_ 4), (1, u "java/lang/Enum"), (0, u "name"), (0, u "Ljava/lang/String;"), (2, u "ordinal"), (0, u "I"), (1, .class_ 14), (1, u "java/lang/Object"), (4, u "hash"), (86, .class_ 108), (1, u "java/lang/Enum$EnumDesc"), (2, .class_ 112), (0, u "java/lang/constant/Constable"), (0, .class_ 114), (0, u "java/lang/Comparable"), (0, .class_ 116), (0, u "java/io/Serializable")] 87

/-- java/lang/Enum -/
def k5 : Class := { plain "java/lang/Enum" (some 0) with
  accessFlags := 1057
  interfaces := #[2, 3, 4]
  cf := some (fileOf pool5 2 #[.nestMembers #[106]] #[] 1057 12 #[111, 113, 115] #[{ accessFlags := 18, nameIndex := 5, descriptorIndex := 6, attributes := #[] }, { accessFlags := 18, nameIndex := 9, descriptorIndex := 10, attributes := #[] }, { accessFlags := 2, nameIndex := 19, descriptorIndex := 10, attributes := #[] }])
  fields := #[{ name := "name", type := (.object "java/lang/String"), accessFlags := 18, slot := 0, constantValue := 0 }, { name := "ordinal", type := .int, accessFlags := 18, slot := 1, constantValue := 0 }, { name := "hash", type := .int, accessFlags := 2, slot := 2, constantValue := 0 }]
  methods := #[]
  instanceTypes := #[(.object "java/lang/String"), .int, .int]
  staticTypes := #[]
  resolved := Array.replicate 204 none
  statics := none }

def pool6 : Array CpInfo := pool [(1, .class_ 2), (0, u "com/example/pacerd/pacerd/run/RunStatus"), (2, u "RUNNING"), (0, u "Lcom/example/pacerd/pacerd/run/RunStatus;"), (2, u "SUCCEEDED"), (2, u "FAILED"), (2, u "TIMED_OUT"), (2, u "ABANDONED"), (2, u "$VALUES"), (0, u "[Lcom/example/pacerd/pacerd/run/RunStatus;"), (6, .class_ 31), (1, u "java/lang/Enum"), (8, u "label"), (0, u "Ljava/lang/String;")] 71

/-- com/example/pacerd/pacerd/run/RunStatus -/
def k6 : Class := { plain "com/example/pacerd/pacerd/run/RunStatus" (some 5) with
  accessFlags := 16433
  interfaces := #[]
  cf := some (fileOf pool6 1 #[] #[] 16433 29 #[] #[{ accessFlags := 16409, nameIndex := 5, descriptorIndex := 6, attributes := #[] }, { accessFlags := 16409, nameIndex := 9, descriptorIndex := 6, attributes := #[] }, { accessFlags := 16409, nameIndex := 12, descriptorIndex := 6, attributes := #[] }, { accessFlags := 16409, nameIndex := 15, descriptorIndex := 6, attributes := #[] }, { accessFlags := 16409, nameIndex := 18, descriptorIndex := 6, attributes := #[] }, { accessFlags := 18, nameIndex := 40, descriptorIndex := 41, attributes := #[] }, { accessFlags := 4122, nameIndex := 21, descriptorIndex := 22, attributes := #[] }])
  fields := #[{ name := "RUNNING", type := (.object "com/example/pacerd/pacerd/run/RunStatus"), accessFlags := 16409, slot := 0, constantValue := 0 }, { name := "SUCCEEDED", type := (.object "com/example/pacerd/pacerd/run/RunStatus"), accessFlags := 16409, slot := 1, constantValue := 0 }, { name := "FAILED", type := (.object "com/example/pacerd/pacerd/run/RunStatus"), accessFlags := 16409, slot := 2, constantValue := 0 }, { name := "TIMED_OUT", type := (.object "com/example/pacerd/pacerd/run/RunStatus"), accessFlags := 16409, slot := 3, constantValue := 0 }, { name := "ABANDONED", type := (.object "com/example/pacerd/pacerd/run/RunStatus"), accessFlags := 16409, slot := 4, constantValue := 0 }, { name := "label", type := (.object "java/lang/String"), accessFlags := 18, slot := 3, constantValue := 0 }, { name := "$VALUES", type := (.array (.object "com/example/pacerd/pacerd/run/RunStatus")), accessFlags := 4122, slot := 5, constantValue := 0 }]
  methods := #[]
  instanceTypes := #[(.object "java/lang/String"), .int, .int, (.object "java/lang/String")]
  staticTypes := #[(.object "com/example/pacerd/pacerd/run/RunStatus"), (.object "com/example/pacerd/pacerd/run/RunStatus"), (.object "com/example/pacerd/pacerd/run/RunStatus"), (.object "com/example/pacerd/pacerd/run/RunStatus"), (.object "com/example/pacerd/pacerd/run/RunStatus"), (.array (.object "com/example/pacerd/pacerd/run/RunStatus"))]
  resolved := Array.replicate 113 none
  statics := some 0 }

def pool7 : Array CpInfo := pool [(1, .methodref 2 3), (0, .class_ 4), (0, .nameAndType 5 6), (0, u "java/lang/Object"), (0, u "<init>"), (0, u "()V"), (0, .class_ 8), (0, u "java/lang/Record")] 13

def k7c0 : Code := { maxStack := 1, maxLocals := 1, code := jdk_30_method_1_code, exceptionTable := #[], attributes := #[] }
def k7m0 : Method := { name := "<init>", desc := "()V", sig := { parameters := [], returnType := none }, accessFlags := 4, code := some k7c0 }
/-- java/lang/Record -/
def k7 : Class := { plain "java/lang/Record" (some 0) with
  accessFlags := 1057
  interfaces := #[]
  cf := some (fileOf pool7 7 #[] #[{ accessFlags := 4, nameIndex := 5, descriptorIndex := 6, attributes := #[] }] 1057 2 #[] #[])
  fields := #[]
  methods := #[k7m0]
  instanceTypes := #[]
  staticTypes := #[]
  resolved := Array.replicate 22 none
  statics := none }

def pool8 : Array CpInfo := pool [(1, .methodref 2 3), (0, .class_ 4), (0, .nameAndType 5 6), (0, u "java/lang/Record"), (0, u "<init>"), (0, u "()V"), (0, .fieldref 8 9), (0, .class_ 10), (0, .nameAndType 11 12), (0, u "com/example/pacerd/pacerd/run/Outcome"), (0, u "status"), (0, u "Lcom/example/pacerd/pacerd/run/RunStatus;"), (0, .fieldref 8 14), (0, .nameAndType 15 16), (0, u "exitCode"), (0, u "Ljava/lang/Integer;"), (0, .fieldref 8 18), (0, .nameAndType 19 16), (0, u "httpStatus"), (0, .fieldref 8 21), (0, .nameAndType 22 23), (0, u "output"), (0, u "[B"), (21, .methodref 8 46), (0, .nameAndType 5 47), (0, u "(Lcom/example/pacerd/pacerd/run/RunStatus;Ljava/lang/Integer;Ljava/lang/Integer;[B)V"), (12, u "OUTPUT_LIMIT"), (0, u "I"), (7, u "cutShort"), (0, u "(Lcom/example/pacerd/pacerd/run/RunStatus;[B)Lcom/example/pacerd/pacerd/run/Outcome;"), (3, u "()Lcom/example/pacerd/pacerd/run/RunStatus;"), (0, u "()Ljava/lang/Integer;"), (0, u "()[B")] 31

def k8c0 : Code := { maxStack := 2, maxLocals := 5, code := prog_25_method_1_code, exceptionTable := #[], attributes := #[] }
def k8m0 : Method := { name := "<init>", desc := "(Lcom/example/pacerd/pacerd/run/RunStatus;Ljava/lang/Integer;Ljava/lang/Integer;[B)V", sig := { parameters := [(.object "com/example/pacerd/pacerd/run/RunStatus"), (.object "java/lang/Integer"), (.object "java/lang/Integer"), (.array .byte)], returnType := none }, accessFlags := 1, code := some k8c0 }
def k8c1 : Code := { maxStack := 6, maxLocals := 2, code := prog_25_method_3_code, exceptionTable := #[], attributes := #[] }
def k8m1 : Method := { name := "cutShort", desc := "(Lcom/example/pacerd/pacerd/run/RunStatus;[B)Lcom/example/pacerd/pacerd/run/Outcome;", sig := { parameters := [(.object "com/example/pacerd/pacerd/run/RunStatus"), (.array .byte)], returnType := some (.object "com/example/pacerd/pacerd/run/Outcome") }, accessFlags := 9, code := some k8c1 }
def k8c2 : Code := { maxStack := 1, maxLocals := 1, code := prog_25_method_7_code, exceptionTable := #[], attributes := #[] }
def k8m2 : Method := { name := "status", desc := "()Lcom/example/pacerd/pacerd/run/RunStatus;", sig := { parameters := [], returnType := some (.object "com/example/pacerd/pacerd/run/RunStatus") }, accessFlags := 1, code := some k8c2 }
def k8c3 : Code := { maxStack := 1, maxLocals := 1, code := prog_25_method_8_code, exceptionTable := #[], attributes := #[] }
def k8m3 : Method := { name := "exitCode", desc := "()Ljava/lang/Integer;", sig := { parameters := [], returnType := some (.object "java/lang/Integer") }, accessFlags := 1, code := some k8c3 }
def k8c4 : Code := { maxStack := 1, maxLocals := 1, code := prog_25_method_9_code, exceptionTable := #[], attributes := #[] }
def k8m4 : Method := { name := "httpStatus", desc := "()Ljava/lang/Integer;", sig := { parameters := [], returnType := some (.object "java/lang/Integer") }, accessFlags := 1, code := some k8c4 }
def k8c5 : Code := { maxStack := 1, maxLocals := 1, code := prog_25_method_10_code, exceptionTable := #[], attributes := #[] }
def k8m5 : Method := { name := "output", desc := "()[B", sig := { parameters := [], returnType := some (.array .byte) }, accessFlags := 1, code := some k8c5 }
/-- com/example/pacerd/pacerd/run/Outcome -/
def k8 : Class := { plain "com/example/pacerd/pacerd/run/Outcome" (some 7) with
  accessFlags := 49
  interfaces := #[]
  cf := some (fileOf pool8 8 #[] #[{ accessFlags := 1, nameIndex := 5, descriptorIndex := 47, attributes := #[] }, { accessFlags := 9, nameIndex := 69, descriptorIndex := 70, attributes := #[] }, { accessFlags := 1, nameIndex := 11, descriptorIndex := 74, attributes := #[] }, { accessFlags := 1, nameIndex := 15, descriptorIndex := 75, attributes := #[] }, { accessFlags := 1, nameIndex := 19, descriptorIndex := 75, attributes := #[] }, { accessFlags := 1, nameIndex := 22, descriptorIndex := 76, attributes := #[] }] 49 2 #[] #[{ accessFlags := 18, nameIndex := 11, descriptorIndex := 12, attributes := #[] }, { accessFlags := 18, nameIndex := 15, descriptorIndex := 16, attributes := #[] }, { accessFlags := 18, nameIndex := 19, descriptorIndex := 16, attributes := #[] }, { accessFlags := 18, nameIndex := 22, descriptorIndex := 23, attributes := #[] }, { accessFlags := 25, nameIndex := 60, descriptorIndex := 61, attributes := #[] }])
  fields := #[{ name := "status", type := (.object "com/example/pacerd/pacerd/run/RunStatus"), accessFlags := 18, slot := 0, constantValue := 0 }, { name := "exitCode", type := (.object "java/lang/Integer"), accessFlags := 18, slot := 1, constantValue := 0 }, { name := "httpStatus", type := (.object "java/lang/Integer"), accessFlags := 18, slot := 2, constantValue := 0 }, { name := "output", type := (.array .byte), accessFlags := 18, slot := 3, constantValue := 0 }, { name := "OUTPUT_LIMIT", type := .int, accessFlags := 25, slot := 0, constantValue := 0 }]
  methods := #[k8m0, k8m1, k8m2, k8m3, k8m4, k8m5]
  instanceTypes := #[(.object "com/example/pacerd/pacerd/run/RunStatus"), (.object "java/lang/Integer"), (.object "java/lang/Integer"), (.array .byte)]
  staticTypes := #[.int]
  resolved := Array.replicate 108 none
  statics := none }

def pool9 : Array CpInfo := pool [(1, u "java/lang/Cloneable"), (0, .class_ 1), (0, u "java/lang/Object"), (0, .class_ 3)] 3

/-- java/lang/Cloneable -/
def k9 : Class := { plain "java/lang/Cloneable" (some 0) with
  accessFlags := 1537
  interfaces := #[]
  cf := some (fileOf pool9 2 #[] #[] 1537 4 #[] #[])
  fields := #[]
  methods := #[]
  instanceTypes := #[]
  staticTypes := #[]
  resolved := Array.replicate 8 none
  statics := none }

/-- the primitive byte -/
def k10 : Class := { plain "byte" none with kind := .primitive 'B', accessFlags := 0x411 }
/-- [B -/
def k11 : Class := { plain "[B" (some 0) with kind := .array 10 .byte, interfaces := #[9, 4], accessFlags := 1041 }

/-- the primitive int -/
def k12 : Class := { plain "int" none with kind := .primitive 'I', accessFlags := 0x411 }
/-- [I -/
def k13 : Class := { plain "[I" (some 0) with kind := .array 12 .int, interfaces := #[9, 4], accessFlags := 1041 }

def heap : Heap := #[{ cls := 6, slots := #[.null, .ref 1, .ref 2, .ref 3, .ref 4, .null], vm := .statics 6 },
  { cls := 6, slots := #[.null, .int 0, .int 0, .null], vm := .none },
  { cls := 6, slots := #[.null, .int 1, .int 0, .null], vm := .none },
  { cls := 6, slots := #[.null, .int 2, .int 0, .null], vm := .none },
  { cls := 6, slots := #[.null, .int 3, .int 0, .null], vm := .none }]
def classes : Array Class := #[k0, k1, k2, k3, k4, k5, k6, k7, k8, k9, k10, k11, k12, k13]
def interned : List (Array UInt16 × Addr) := []
def slotsUsed : Nat := 22
def theMethod : MethodId := ⟨1, 1⟩
def args0 : Array Value := #[.int 5, .int 2, .int 3, .int 4, .int 5]
def aboutOver (below : List Frame) : State where
  vm := { classes := classes, interned := interned.toArray }
  heap := heap
  slotsUsed := slotsUsed
  threads := #[{ frames := .invoking theMethod args0 :: below }]
def below0 : List Frame := [.native { method := ⟨0, 0⟩, args := #[] }]
def about1 : State := aboutOver below0
def p0 : Program := .bare "" "" ""
def e0 : Env := launch0.env 0 0 0
theorem w_frames : about1.frames = Frame.invoking theMethod args0 :: below0 := rfl
set_option maxRecDepth 65536 in
theorem w_args : argsFit about1.vm theMethod args0 = true := by decide +kernel
set_option maxRecDepth 65536 in
theorem w_heap : heapFits about1 = true := by decide +kernel
set_option maxRecDepth 65536 in
theorem w_runnable : about1.curStatus? = some .runnable := by decide +kernel
set_option maxRecDepth 65536 in
theorem w_alone : about1.alone = true := by decide +kernel
set_option maxRecDepth 65536 in
theorem w_named : about1.methodNamed? x = some theMethod := by decide +kernel
set_option maxRecDepth 65536 in
theorem w_hears : about1.hears theMethod below0 = true := by decide +kernel
set_option maxRecDepth 65536 in
theorem w_ripe : about1.ripe theMethod args0 below0 = true := by decide +kernel
theorem w_running : about1.status = .running := rfl
set_option maxRecDepth 65536 in
theorem w_room : about1.hasRoom e0.platform room_1 = true :=
  launch0.hasRoom_least _ room_1 (by decide +kernel) (by decide +kernel) (by decide +kernel) (by decide +kernel) (by decide +kernel) (by decide +kernel)
theorem allAtoms_all (ts : List Jvm.Cond) (a : Array Jvm.Value) (st : Jvm.State) : (allAtoms ts).before a st = ts.all (fun c => c.before a st) := by
  induction ts with
  | nil => rfl
  | cons c t ih =>
    show (Jvm.Cond.and c (allAtoms t)).before a st = _
    rw [Jvm.Cond.before_and, ih, List.all_cons]
def words1 : List Jvm.Cond := Jvm.Cond.code x code maxLocals ret :: tables_1
/-- a 'code' word, met by the world's own term for the bytes: nothing is compared byte by byte -/
theorem code_word {y : MethodName} {bytes : ByteArray} {mx : Nat} {rt : Option FieldType} {a : Array Value} {s : State} {m : MethodId} {meth : Method} {c : Code} (h1 : s.methodNamed? y = some m) (h2 : s.vm.method? m = some meth) (h3 : meth.code = some c) (h4 : c.code = bytes)
    (h5 : (c.maxLocals == mx && c.exceptionTable.isEmpty && decide (c.maxStack ≤ mostOperands) && decide (meth.sig.returnType = rt) && !meth.locks && decide (parseMethodDescriptor y.desc = some meth.sig)) = true) : (Jvm.Cond.code y bytes mx rt).before a s = true := by
  simp only [Bool.and_eq_true, beq_iff_eq, Bool.not_eq_true', decide_eq_true_eq] at h5
  obtain ⟨⟨⟨⟨⟨g1, g2⟩, g3⟩, g4⟩, g5⟩, g6⟩ := h5
  simp [Cond.before, Cond.holds, Cond.value, h1, h2, h3, h4, g1, g2, g3, g4, g5, g6]
def isCode : Jvm.Cond → Bool
  | .code _ _ _ _ => true
  | _ => false
theorem all_split {L : List Jvm.Cond} {P : Jvm.Cond → Bool} (h1 : L.all (fun c => isCode c || P c) = true) (h2 : ∀ c ∈ L.filter isCode, P c = true) : L.all P = true := by
  refine List.all_eq_true.mpr fun c hc => ?_
  have h := List.all_eq_true.mp h1 c hc
  rcases Bool.eq_false_or_eq_true (isCode c) with hi | hi
  · exact h2 c (List.mem_filter.mpr ⟨hc, hi⟩)
  · simpa [hi] using h
set_option maxRecDepth 65536 in
theorem w_c0 : (Jvm.Cond.code x code maxLocals ret).before args0 about1 = true := code_word (m := ⟨1, 1⟩) (meth := k1m1) (c := k1c1) (by decide +kernel) rfl rfl rfl (by decide +kernel)
set_option maxRecDepth 65536 in
theorem w_c1 : (Jvm.Cond.code ({ cls := "com/example/pacerd/pacerd/run/Outcome", name := "cutShort", desc := "(Lcom/example/pacerd/pacerd/run/RunStatus;[B)Lcom/example/pacerd/pacerd/run/Outcome;" } : Jvm.MethodName) prog_25_method_3_code (2 : Nat) (Option.some (Jvm.ClassFile.FieldType.object "com/example/pacerd/pacerd/run/Outcome"))).before args0 about1 = true := code_word (m := ⟨8, 1⟩) (meth := k8m1) (c := k8c1) (by decide +kernel) rfl rfl rfl (by decide +kernel)
set_option maxRecDepth 65536 in
theorem w_c2 : (Jvm.Cond.code ({ cls := "com/example/pacerd/pacerd/run/Outcome", name := "<init>", desc := "(Lcom/example/pacerd/pacerd/run/RunStatus;Ljava/lang/Integer;Ljava/lang/Integer;[B)V" } : Jvm.MethodName) prog_25_method_1_code (5 : Nat) (Option.none : Option Jvm.ClassFile.FieldType)).before args0 about1 = true := code_word (m := ⟨8, 0⟩) (meth := k8m0) (c := k8c0) (by decide +kernel) rfl rfl rfl (by decide +kernel)
set_option maxRecDepth 65536 in
theorem w_c3 : (Jvm.Cond.code ({ cls := "java/lang/Record", name := "<init>", desc := "()V" } : Jvm.MethodName) jdk_30_method_1_code (1 : Nat) (Option.none : Option Jvm.ClassFile.FieldType)).before args0 about1 = true := code_word (m := ⟨7, 0⟩) (meth := k7m0) (c := k7c0) (by decide +kernel) rfl rfl rfl (by decide +kernel)
set_option maxRecDepth 65536 in
theorem w_c4 : (Jvm.Cond.code ({ cls := "java/lang/Object", name := "<init>", desc := "()V" } : Jvm.MethodName) object_method_1_code (1 : Nat) (Option.none : Option Jvm.ClassFile.FieldType)).before args0 about1 = true := code_word (m := ⟨0, 0⟩) (meth := k0m0) (c := k0c0) (by decide +kernel) rfl rfl rfl (by decide +kernel)
set_option maxRecDepth 65536 in
theorem w_c5 : (Jvm.Cond.code ({ cls := "com/example/pacerd/pacerd/run/Outcome", name := "status", desc := "()Lcom/example/pacerd/pacerd/run/RunStatus;" } : Jvm.MethodName) prog_25_method_7_code (1 : Nat) (Option.some (Jvm.ClassFile.FieldType.object "com/example/pacerd/pacerd/run/RunStatus"))).before args0 about1 = true := code_word (m := ⟨8, 2⟩) (meth := k8m2) (c := k8c2) (by decide +kernel) rfl rfl rfl (by decide +kernel)
set_option maxRecDepth 65536 in
theorem w_c6 : (Jvm.Cond.code ({ cls := "com/example/pacerd/pacerd/run/Outcome", name := "exitCode", desc := "()Ljava/lang/Integer;" } : Jvm.MethodName) prog_25_method_8_code (1 : Nat) (Option.some (Jvm.ClassFile.FieldType.object "java/lang/Integer"))).before args0 about1 = true := code_word (m := ⟨8, 3⟩) (meth := k8m3) (c := k8c3) (by decide +kernel) rfl rfl rfl (by decide +kernel)
set_option maxRecDepth 65536 in
theorem w_c7 : (Jvm.Cond.code ({ cls := "com/example/pacerd/pacerd/run/Outcome", name := "httpStatus", desc := "()Ljava/lang/Integer;" } : Jvm.MethodName) prog_25_method_9_code (1 : Nat) (Option.some (Jvm.ClassFile.FieldType.object "java/lang/Integer"))).before args0 about1 = true := code_word (m := ⟨8, 4⟩) (meth := k8m4) (c := k8c4) (by decide +kernel) rfl rfl rfl (by decide +kernel)
set_option maxRecDepth 65536 in
theorem w_c8 : (Jvm.Cond.code ({ cls := "com/example/pacerd/pacerd/run/Outcome", name := "output", desc := "()[B" } : Jvm.MethodName) prog_25_method_10_code (1 : Nat) (Option.some (Jvm.ClassFile.FieldType.array Jvm.ClassFile.FieldType.byte))).before args0 about1 = true := code_word (m := ⟨8, 5⟩) (meth := k8m5) (c := k8c5) (by decide +kernel) rfl rfl rfl (by decide +kernel)
def codes1 : List Jvm.Cond := [Jvm.Cond.code x code maxLocals ret, Jvm.Cond.code ({ cls := "com/example/pacerd/pacerd/run/Outcome", name := "cutShort", desc := "(Lcom/example/pacerd/pacerd/run/RunStatus;[B)Lcom/example/pacerd/pacerd/run/Outcome;" } : Jvm.MethodName) prog_25_method_3_code (2 : Nat) (Option.some (Jvm.ClassFile.FieldType.object "com/example/pacerd/pacerd/run/Outcome")), Jvm.Cond.code ({ cls := "com/example/pacerd/pacerd/run/Outcome", name := "<init>", desc := "(Lcom/example/pacerd/pacerd/run/RunStatus;Ljava/lang/Integer;Ljava/lang/Integer;[B)V" } : Jvm.MethodName) prog_25_method_1_code (5 : Nat) (Option.none : Option Jvm.ClassFile.FieldType), Jvm.Cond.code ({ cls := "java/lang/Record", name := "<init>", desc := "()V" } : Jvm.MethodName) jdk_30_method_1_code (1 : Nat) (Option.none : Option Jvm.ClassFile.FieldType), Jvm.Cond.code ({ cls := "java/lang/Object", name := "<init>", desc := "()V" } : Jvm.MethodName) object_method_1_code (1 : Nat) (Option.none : Option Jvm.ClassFile.FieldType), Jvm.Cond.code ({ cls := "com/example/pacerd/pacerd/run/Outcome", name := "status", desc := "()Lcom/example/pacerd/pacerd/run/RunStatus;" } : Jvm.MethodName) prog_25_method_7_code (1 : Nat) (Option.some (Jvm.ClassFile.FieldType.object "com/example/pacerd/pacerd/run/RunStatus")), Jvm.Cond.code ({ cls := "com/example/pacerd/pacerd/run/Outcome", name := "exitCode", desc := "()Ljava/lang/Integer;" } : Jvm.MethodName) prog_25_method_8_code (1 : Nat) (Option.some (Jvm.ClassFile.FieldType.object "java/lang/Integer")), Jvm.Cond.code ({ cls := "com/example/pacerd/pacerd/run/Outcome", name := "httpStatus", desc := "()Ljava/lang/Integer;" } : Jvm.MethodName) prog_25_method_9_code (1 : Nat) (Option.some (Jvm.ClassFile.FieldType.object "java/lang/Integer")), Jvm.Cond.code ({ cls := "com/example/pacerd/pacerd/run/Outcome", name := "output", desc := "()[B" } : Jvm.MethodName) prog_25_method_10_code (1 : Nat) (Option.some (Jvm.ClassFile.FieldType.array Jvm.ClassFile.FieldType.byte))]
set_option maxRecDepth 65536 in
theorem codes_eq : words1.filter isCode = codes1 := rfl
theorem w_codes : ∀ c ∈ words1.filter isCode, c.before args0 about1 = true := by
  rw [codes_eq]
  intro c hc
  simp only [codes1, List.mem_cons, List.not_mem_nil, or_false] at hc
  rcases hc with rfl | rfl | rfl | rfl | rfl | rfl | rfl | rfl | rfl
  · exact w_c0
  · exact w_c1
  · exact w_c2
  · exact w_c3
  · exact w_c4
  · exact w_c5
  · exact w_c6
  · exact w_c7
  · exact w_c8
set_option maxRecDepth 65536 in
theorem w_t1 : (words1.take 24).all (fun c => isCode c || c.before args0 about1) = true := by decide +kernel
set_option maxRecDepth 65536 in
theorem w_t2 : ((words1.drop 24).take 24).all (fun c => isCode c || c.before args0 about1) = true := by decide +kernel
set_option maxRecDepth 65536 in
theorem w_t3 : ((words1.drop 24).drop 24).all (fun c => isCode c || c.before args0 about1) = true := by decide +kernel
theorem w_tables : (allAtoms (Jvm.Cond.code x code maxLocals ret :: tables_1)).before args0 about1 = true := by
  rw [allAtoms_all]
  show words1.all (fun c => c.before args0 about1) = true
  refine all_split ?_ w_codes
  rw [← List.take_append_drop 24 words1, List.all_append, w_t1, ← List.take_append_drop 24 (words1.drop 24), List.all_append, w_t2, w_t3]
  rfl
set_option maxRecDepth 65536 in
theorem w_case : (Jvm.Cond.and given_1 narrow_1).before args0 about1 = true := by decide +kernel
theorem w_applies : (headSpec (Jvm.Cond.code x code maxLocals ret :: tables_1) room_1).applies x e0.platform about1 = true :=
  (Spec.applies_iff w_frames).mpr ⟨w_running, w_runnable, w_alone, w_named, w_hears, w_ripe, w_room, w_tables⟩
theorem atStart : AtStart classFile x code maxLocals ret World_1 tables_1 room_1 Calls_1 rest_1 Pre_1 launch0 p0 e0 about1 theMethod args0 below0 :=
  ⟨lists_1, trivial, launch0.admits_env _ _ _, launch0.least_env, fairChoices_fair.cas, fairChoices_fair.clock, w_frames, w_args, w_heap, w_applies, trivial, trivial, w_case⟩
end start1
theorem witness_1 : WitnessClaimed_1 := ⟨start1.p0, start1.e0, start1.about1, start1.theMethod, start1.args0, start1.below0, start1.atStart⟩
end Jvm.Pilot.@@N@@
