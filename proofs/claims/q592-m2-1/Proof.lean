import JvmDerived
import JvmDerived.Pilot.@@N@@Statement
import JvmDerived.Pilot.@@N@@Code
set_option linter.unusedVariables false
set_option linter.unusedSimpArgs false

namespace Jvm.OwnW
open Sem ClassFile Op Lib Jvm.Stand Jvm.Free Jvm.LawKit Jvm.RoadKit
/-- the instruction i stands at pc, n bytes long; the next one stands at nx -/
def Ins (code : ByteArray) (pc : Nat) (i : Instr) (n nx : Nat) : Prop := decode code pc = .ok (i, n) ∧ pc + n = nx
/-- a jump by o from pc leads to t -/
def Jmp (pc : Nat) (o : Int) (t : Nat) : Prop := 0 ≤ (pc : Int) + o ∧ ((pc : Int) + o).toNat = t
instance {pc : Nat} {o : Int} {t : Nat} : Decidable (Jmp pc o t) := inferInstanceAs (Decidable (_ ∧ _))
/-- what is fixed through a body's walk -/
def Ctx (p : Program) (s : State) (m : MethodId) (meth : Method) (c : Code) (Z : State) (own nm : String) (code : ByteArray) (ml : Nat) (ret : Option FieldType) : Prop :=
  p.tables.exec = Jvm.exec ∧ Z.Warmed39 s.vm ∧ c.code = code ∧ c.maxLocals = ml ∧ s.vm.findClass own = some m.cls ∧ meth.sig.returnType = ret ∧ meth.locks = false ∧ meth.name = nm
/-- what is carried unseen: the tables since the start; the constants that are held; D: arrays and Strings of our own, which no constant names -/
def Hid (w : Bool) (Z : State) (EL : List (String × Nat)) (D : List Addr) (s : State) (vm0 : Vm) (h : Heap) : Prop :=
  (if w = true then ∃ k0, s.Since vm0 k0 ∧ k0 ≤ h.size else vm0 = s.vm) ∧ (∃ a0, EW Z a0 EL) ∧ CHr Z EL s.vm s.heap vm0 h ∧ ∀ x ∈ D, x < h.size ∧ Safe Z EL vm0 h x
def En (w : Bool) (s : State) (o : Outcome) (t : State) (L : List Loc) (k n : Nat) : Prop := if w = true then ReturnedEndW s o t L k n else FrameEnd s o t L k n
/-- how a body ends -/
def Done (w : Bool) (Z : State) (EL : List (String × Nat)) (n0 : Nat) (R : Room) (Q : Option Value → Heap → List Addr → Prop) (s : State) (o : Outcome) (t : State) : Prop :=
  ∃ v L D', o = .returned v ∧ Q v t.heap D' ∧ Old Z n0 t.heap ∧ Fr n0 L ∧ (CHr Z EL s.vm s.heap t.vm t.heap ∧ ∀ x ∈ D', x < t.heap.size ∧ Safe Z EL t.vm t.heap x) ∧ En w s o t L R.cells R.slots
/-- from pc, with these locals, this stack and this heap, the body comes to an end that Q allows -/
def Runs (w : Bool) (l : Launch) (Z : State) (EL : List (String × Nat)) (n0 : Nat) (own nm : String) (code : ByteArray) (ml : Nat) (ret : Option FieldType) (R : Room) (Q : Option Value → Heap → List Addr → Prop) (D : List Addr) (h : Heap) (kc ks pc : Nat) (ls : Array Slot) (st : List Value) : Prop :=
  ∀ (p : Program) (e : Env) (s : State) (vm0 : Vm) (m : MethodId) (args : Array Value) (below : List Frame) (meth : Method) (c : Code) (T : State) (locs : List Loc),
    Ctx p (s.setVm vm0) m meth c Z own nm code ml ret → Stand p l e R (s.setVm vm0) m args below meth c T locs kc ks → T.heap = h → Fr n0 locs → Old Z n0 h → Hid w Z EL D s vm0 h →
    ∃ s₂ o, Steps p.tables e below (T.setTop (mkF m pc ls st)) s₂ ∧ s₂.status = .running ∧ Ended s₂ below o ∧ Done w Z EL n0 R Q s o s₂
/-- a method's contract -/
def Con (w : Bool) (l : Launch) (Z : State) (EL : List (String × Nat)) (n0 : Nat) (y : MethodName) (code : ByteArray) (ml : Nat) (ret : Option FieldType) (R : Room) (as' : Array Value) (D : List Addr) (h : Heap) (Q : Option Value → Heap → List Addr → Prop) : Prop :=
  ∀ ws : List Jvm.Cond, MetFree l y (head1 (Jvm.Cond.code y code ml ret :: ws) R) (fun a U => a = as' ∧ Z.Warmed39 U.vm ∧ U.heap = h ∧ Old Z n0 h ∧ (∃ a0, EW Z a0 EL) ∧ CHv Z EL U.vm h ∧ ∀ x ∈ D, x < h.size ∧ Safe Z EL U.vm h x) (fun _ _ _ _ _ => True) (fun _ U o U' => Done w Z EL n0 R Q U o U')
section W
variable {w : Bool} {l : Launch} {Z : State} {EL : List (String × Nat)} {n0 : Nat} {own nm : String} {code : ByteArray} {ml : Nat} {ret : Option FieldType} {R : Room} {Q : Option Value → Heap → List Addr → Prop} {D : List Addr} {h : Heap} {kc ks pc pc' : Nat} {ls ls' : Array Slot} {st st' rest : List Value} {a0 : Array Value}
theorem Con.of_runs {y : MethodName} {as' : Array Value} (hp : plainFor y = true) (he : ∀ m, entryFrame m as' ml = mkF m 0 ls []) (K : Runs w l Z EL n0 y.cls y.name code ml ret R Q D h 0 0 0 ls []) : Con w l Z EL n0 y code ml ret R as' D h Q := by
  intro ws
  refine MetFree.of_bodySF hp hisR ?_
  intro p e s m args below meth c s₁ Bd hml0 hP hK
  obtain ⟨rfl, hZ, hh, hO, hE, hC, hD⟩ := hP
  have hnm := (name_of_methodNamed Bd.named Bd.method).1
  have hown : s.vm.findClass y.cls = some m.cls := findClass_of_methodNamed Bd.named
  have X0 : Stand p l e R s m args below meth c s₁ [] 0 0 := Stand.of_body Bd
  have e0 : s₁.heap = h := by rw [← hh, Bd.state]; rfl
  obtain ⟨s₂, o, S, r1, r2, r3⟩ := K p e s s.vm m args below meth c s₁ [] ⟨Bd.exec, hZ, Bd.bytes, hml0, hown, Bd.returns, Bd.notSynchronized, hnm⟩ X0 e0 (Fr.nil n0) hO
    ⟨by split; exact ⟨0, (State.WarmedH.refl s).since 0, Nat.zero_le _⟩; rfl, hE, by rw [← hh] at hC ⊢; exact CHr.refl hC, hD⟩
  exact ⟨s₂, o, castTop (he m) S, r1, r2, r3⟩
theorem Runs.plain (K : Runs w l Z EL n0 own nm code ml ret R Q D h kc ks pc' ls' st')
    (f : ∀ (p : Program) (e : Env) (m : MethodId) (below : List Frame) (c : Code) (T target : State), p.tables.exec = Jvm.exec → c.code = code → At T m c below → Steps p.tables e below (T.setTop (mkF m pc' ls' st')) target → Steps p.tables e below (T.setTop (mkF m pc ls st)) target) : Runs w l Z EL n0 own nm code ml ret R Q D h kc ks pc ls st := by
  intro p e s vm0 m args below meth c T locs C X eT N O H
  obtain ⟨s₂, o, S, r⟩ := K p e s vm0 m args below meth c T locs C X eT N O H
  exact ⟨s₂, o, f p e m below c T s₂ C.1 C.2.2.1 X.here S, r⟩
/-- a step whose law moves the tables alone -/
theorem Runs.warm (K : Runs w l Z EL n0 own nm code ml ret R Q D h kc ks pc' ls' st')
    (f : ∀ (p : Program) (e : Env) (s : State) (m : MethodId) (args : Array Value) (below : List Frame) (meth : Method) (c : Code) (T : State) (locs : List Loc), Ctx p s m meth c Z own nm code ml ret → Stand p l e R s m args below meth c T locs kc ks → T.heap = h → Old Z n0 h →
      ∃ T', Stand p l e R s m args below meth c T' locs kc ks ∧ T'.heap = h ∧ ∀ target, Steps p.tables e below (T'.setTop (mkF m pc' ls' st')) target → Steps p.tables e below (T.setTop (mkF m pc ls st)) target) : Runs w l Z EL n0 own nm code ml ret R Q D h kc ks pc ls st := by
  intro p e s vm0 m args below meth c T locs C X eT N O H
  obtain ⟨T', X', e', S'⟩ := f p e _ m args below meth c T locs C X eT O
  obtain ⟨s₂, o, S, r⟩ := K p e s vm0 m args below meth c T' locs C X' e' N O H
  exact ⟨s₂, o, S' _ S, r⟩
theorem Runs.old (K : Old Z n0 h → Runs w l Z EL n0 own nm code ml ret R Q D h kc ks pc ls st) : Runs w l Z EL n0 own nm code ml ret R Q D h kc ks pc ls st :=
  fun p e s vm0 m args below meth c T locs C X eT N O H => K O p e s vm0 m args below meth c T locs C X eT N O H
theorem Runs.weak {D1 : List Addr} (hs : ∀ x ∈ D1, x ∈ D) (K : Runs w l Z EL n0 own nm code ml ret R Q D1 h kc ks pc ls st) : Runs w l Z EL n0 own nm code ml ret R Q D h kc ks pc ls st :=
  fun p e s vm0 m args below meth c T locs C X eT N O H => K p e s vm0 m args below meth c T locs C X eT N O ⟨H.1, H.2.1, H.2.2.1, fun x hx => H.2.2.2 x (hs x hx)⟩
/-- fewer cells, fewer slots made: at most more -/
theorem Runs.mono {kc' ks' : Nat} (h1 : kc ≤ kc') (h2 : ks ≤ ks') (K : Runs w l Z EL n0 own nm code ml ret R Q D h kc' ks' pc ls st) : Runs w l Z EL n0 own nm code ml ret R Q D h kc ks pc ls st :=
  fun p e s vm0 m args below meth c T locs C X eT N O H => K p e s vm0 m args below meth c T locs C (X.mono h1 h2) eT N O H

theorem Runs.iloadN {k : Fin 4} {v : Int32} (hd : Ins code pc (.iload_n k) 1 pc') (hl : ls[k.val]? = some (.val (.int v))) (K : Runs w l Z EL n0 own nm code ml ret R Q D h kc ks pc' ls (.int v :: st)) : Runs w l Z EL n0 own nm code ml ret R Q D h kc ks pc ls st := by
  obtain ⟨hd, rfl⟩ := hd
  exact K.plain fun p e m below c T t hx hb X S => XS.iloadN (g := mkF m pc ls st) X hx rfl (Jvm.hb hb hd) hl S
theorem Runs.iload {k : Nat} {v : Int32} (hd : Ins code pc (.iload k) 2 pc') (hl : ls[k]? = some (.val (.int v))) (K : Runs w l Z EL n0 own nm code ml ret R Q D h kc ks pc' ls (.int v :: st)) : Runs w l Z EL n0 own nm code ml ret R Q D h kc ks pc ls st := by
  obtain ⟨hd, rfl⟩ := hd
  exact K.plain fun p e m below c T t hx hb X S => XS.iload (g := mkF m pc ls st) X hx rfl (Jvm.hb hb hd) hl S
theorem Runs.istoreN {k : Fin 4} {x : Int32} (hd : Ins code pc (.istore_n k) 1 pc') (hl : storeLocals ls k.val (.int x) = some ls') (K : Runs w l Z EL n0 own nm code ml ret R Q D h kc ks pc' ls' rest) : Runs w l Z EL n0 own nm code ml ret R Q D h kc ks pc ls (.int x :: rest) := by
  obtain ⟨hd, rfl⟩ := hd
  exact K.plain fun p e m below c T t hx hb X S => XS.istoreN (g := mkF m pc ls (.int x :: rest)) X hx rfl (Jvm.hb hb hd) rfl hl S
theorem Runs.istore {k : Nat} {x : Int32} (hd : Ins code pc (.istore k) 2 pc') (hl : storeLocals ls k (.int x) = some ls') (K : Runs w l Z EL n0 own nm code ml ret R Q D h kc ks pc' ls' rest) : Runs w l Z EL n0 own nm code ml ret R Q D h kc ks pc ls (.int x :: rest) := by
  obtain ⟨hd, rfl⟩ := hd
  exact K.plain fun p e m below c T t hx hb X S => XS.istore (g := mkF m pc ls (.int x :: rest)) X hx rfl (Jvm.hb hb hd) rfl hl S
theorem Runs.lloadN {k : Fin 4} {v : Int64} (hd : Ins code pc (.lload_n k) 1 pc') (hl : ls[k.val]? = some (.val (.long v))) (K : Runs w l Z EL n0 own nm code ml ret R Q D h kc ks pc' ls (.long v :: st)) : Runs w l Z EL n0 own nm code ml ret R Q D h kc ks pc ls st := by
  obtain ⟨hd, rfl⟩ := hd
  exact K.plain fun p e m below c T t hx hb X S => XT.lloadN (g := mkF m pc ls st) X hx rfl (Jvm.hb hb hd) hl S
theorem Runs.lload {k : Nat} {v : Int64} (hd : Ins code pc (.lload k) 2 pc') (hl : ls[k]? = some (.val (.long v))) (K : Runs w l Z EL n0 own nm code ml ret R Q D h kc ks pc' ls (.long v :: st)) : Runs w l Z EL n0 own nm code ml ret R Q D h kc ks pc ls st := by
  obtain ⟨hd, rfl⟩ := hd
  exact K.plain fun p e m below c T t hx hb X S => XT.lload (g := mkF m pc ls st) X hx rfl (Jvm.hb hb hd) hl S
theorem Runs.lstoreN {k : Fin 4} {x : Int64} (hd : Ins code pc (.lstore_n k) 1 pc') (hl : storeLocals ls k.val (.long x) = some ls') (K : Runs w l Z EL n0 own nm code ml ret R Q D h kc ks pc' ls' rest) : Runs w l Z EL n0 own nm code ml ret R Q D h kc ks pc ls (.long x :: rest) := by
  obtain ⟨hd, rfl⟩ := hd
  exact K.plain fun p e m below c T t hx hb X S => XT.lstoreN (g := mkF m pc ls (.long x :: rest)) X hx rfl (Jvm.hb hb hd) rfl hl S
theorem Runs.lstore {k : Nat} {x : Int64} (hd : Ins code pc (.lstore k) 2 pc') (hl : storeLocals ls k (.long x) = some ls') (K : Runs w l Z EL n0 own nm code ml ret R Q D h kc ks pc' ls' rest) : Runs w l Z EL n0 own nm code ml ret R Q D h kc ks pc ls (.long x :: rest) := by
  obtain ⟨hd, rfl⟩ := hd
  exact K.plain fun p e m below c T t hx hb X S => XT.lstore (g := mkF m pc ls (.long x :: rest)) X hx rfl (Jvm.hb hb hd) rfl hl S
theorem Runs.aloadN {k : Fin 4} {v : Value} (hd : Ins code pc (.aload_n k) 1 pc') (hl : ls[k.val]? = some (.val v)) (hv : v.isRef = true) (K : Runs w l Z EL n0 own nm code ml ret R Q D h kc ks pc' ls (v :: st)) : Runs w l Z EL n0 own nm code ml ret R Q D h kc ks pc ls st := by
  obtain ⟨hd, rfl⟩ := hd
  exact K.plain fun p e m below c T t hx hb X S => XS.aloadN (g := mkF m pc ls st) X hx rfl (Jvm.hb hb hd) hl hv S
theorem Runs.aload {k : Nat} {v : Value} (hd : Ins code pc (.aload k) 2 pc') (hl : ls[k]? = some (.val v)) (hv : v.isRef = true) (K : Runs w l Z EL n0 own nm code ml ret R Q D h kc ks pc' ls (v :: st)) : Runs w l Z EL n0 own nm code ml ret R Q D h kc ks pc ls st := by
  obtain ⟨hd, rfl⟩ := hd
  exact K.plain fun p e m below c T t hx hb X S => XS.aload (g := mkF m pc ls st) X hx rfl (Jvm.hb hb hd) hl hv S
theorem Runs.astoreN {k : Fin 4} {x : Value} (hd : Ins code pc (.astore_n k) 1 pc') (hv : x.isRef = true) (hl : storeLocals ls k.val x = some ls') (K : Runs w l Z EL n0 own nm code ml ret R Q D h kc ks pc' ls' rest) : Runs w l Z EL n0 own nm code ml ret R Q D h kc ks pc ls (x :: rest) := by
  obtain ⟨hd, rfl⟩ := hd
  exact K.plain fun p e m below c T t hx hb X S => XS.astoreN (g := mkF m pc ls (x :: rest)) X hx rfl (Jvm.hb hb hd) rfl hv hl S
theorem Runs.astore {k : Nat} {x : Value} (hd : Ins code pc (.astore k) 2 pc') (hv : x.isRef = true) (hl : storeLocals ls k x = some ls') (K : Runs w l Z EL n0 own nm code ml ret R Q D h kc ks pc' ls' rest) : Runs w l Z EL n0 own nm code ml ret R Q D h kc ks pc ls (x :: rest) := by
  obtain ⟨hd, rfl⟩ := hd
  exact K.plain fun p e m below c T t hx hb X S => XS.astore (g := mkF m pc ls (x :: rest)) X hx rfl (Jvm.hb hb hd) rfl hv hl S
theorem Runs.iconst {i : Int} {v : Int32} (hd : Ins code pc (.iconst i) 1 pc') (hz : Int32.ofInt i = v) (K : Runs w l Z EL n0 own nm code ml ret R Q D h kc ks pc' ls (.int v :: st)) : Runs w l Z EL n0 own nm code ml ret R Q D h kc ks pc ls st := by
  obtain ⟨hd, rfl⟩ := hd
  subst hz
  exact K.plain fun p e m below c T t hx hb X S => XS.iconst (g := mkF m pc ls st) X hx rfl (Jvm.hb hb hd) S
theorem Runs.bipush {i : Int} {v : Int32} (hd : Ins code pc (.bipush i) 2 pc') (hz : (Int8.ofInt i).toInt32 = v) (K : Runs w l Z EL n0 own nm code ml ret R Q D h kc ks pc' ls (.int v :: st)) : Runs w l Z EL n0 own nm code ml ret R Q D h kc ks pc ls st := by
  obtain ⟨hd, rfl⟩ := hd
  subst hz
  exact K.plain fun p e m below c T t hx hb X S => XS.bipush (g := mkF m pc ls st) X hx rfl (Jvm.hb hb hd) S
theorem Runs.sipush {i : Int} {v : Int32} (hd : Ins code pc (.sipush i) 3 pc') (hz : (Int16.ofInt i).toInt32 = v) (K : Runs w l Z EL n0 own nm code ml ret R Q D h kc ks pc' ls (.int v :: st)) : Runs w l Z EL n0 own nm code ml ret R Q D h kc ks pc ls st := by
  obtain ⟨hd, rfl⟩ := hd
  subst hz
  exact K.plain fun p e m below c T t hx hb X S => XS.sipush (g := mkF m pc ls st) X hx rfl (Jvm.hb hb hd) S
theorem Runs.lconst {k : Fin 2} {v : Int64} (hd : Ins code pc (.lconst k) 1 pc') (hz : Int64.ofNat k = v) (K : Runs w l Z EL n0 own nm code ml ret R Q D h kc ks pc' ls (.long v :: st)) : Runs w l Z EL n0 own nm code ml ret R Q D h kc ks pc ls st := by
  obtain ⟨hd, rfl⟩ := hd
  subst hz
  exact K.plain fun p e m below c T t hx hb X S => XT.lconst (g := mkF m pc ls st) X hx rfl (Jvm.hb hb hd) S
theorem Runs.aconstNull  (hd : Ins code pc (.aconst_null) 1 pc')  (K : Runs w l Z EL n0 own nm code ml ret R Q D h kc ks pc' ls (.null :: st)) : Runs w l Z EL n0 own nm code ml ret R Q D h kc ks pc ls st := by
  obtain ⟨hd, rfl⟩ := hd
  exact K.plain fun p e m below c T t hx hb X S => XS.aconstNull (g := mkF m pc ls st) X hx rfl (Jvm.hb hb hd) S
theorem Runs.iadd {x y z : Int32} (hd : Ins code pc (.iadd) 1 pc') (hz : x + y = z) (K : Runs w l Z EL n0 own nm code ml ret R Q D h kc ks pc' ls (.int z :: rest)) : Runs w l Z EL n0 own nm code ml ret R Q D h kc ks pc ls (.int y :: .int x :: rest) := by
  obtain ⟨hd, rfl⟩ := hd
  subst hz
  exact K.plain fun p e m below c T t hx hb X S => XS.iadd (g := mkF m pc ls (.int y :: .int x :: rest)) X hx rfl (Jvm.hb hb hd) rfl S
theorem Runs.isub {x y z : Int32} (hd : Ins code pc (.isub) 1 pc') (hz : x - y = z) (K : Runs w l Z EL n0 own nm code ml ret R Q D h kc ks pc' ls (.int z :: rest)) : Runs w l Z EL n0 own nm code ml ret R Q D h kc ks pc ls (.int y :: .int x :: rest) := by
  obtain ⟨hd, rfl⟩ := hd
  subst hz
  exact K.plain fun p e m below c T t hx hb X S => XS.isub (g := mkF m pc ls (.int y :: .int x :: rest)) X hx rfl (Jvm.hb hb hd) rfl S
theorem Runs.imul {x y z : Int32} (hd : Ins code pc (.imul) 1 pc') (hz : x * y = z) (K : Runs w l Z EL n0 own nm code ml ret R Q D h kc ks pc' ls (.int z :: rest)) : Runs w l Z EL n0 own nm code ml ret R Q D h kc ks pc ls (.int y :: .int x :: rest) := by
  obtain ⟨hd, rfl⟩ := hd
  subst hz
  exact K.plain fun p e m below c T t hx hb X S => XS.imul (g := mkF m pc ls (.int y :: .int x :: rest)) X hx rfl (Jvm.hb hb hd) rfl S
theorem Runs.iand {x y z : Int32} (hd : Ins code pc (.iand) 1 pc') (hz : x &&& y = z) (K : Runs w l Z EL n0 own nm code ml ret R Q D h kc ks pc' ls (.int z :: rest)) : Runs w l Z EL n0 own nm code ml ret R Q D h kc ks pc ls (.int y :: .int x :: rest) := by
  obtain ⟨hd, rfl⟩ := hd
  subst hz
  exact K.plain fun p e m below c T t hx hb X S => XS.iand (g := mkF m pc ls (.int y :: .int x :: rest)) X hx rfl (Jvm.hb hb hd) rfl S
theorem Runs.ior {x y z : Int32} (hd : Ins code pc (.ior) 1 pc') (hz : x ||| y = z) (K : Runs w l Z EL n0 own nm code ml ret R Q D h kc ks pc' ls (.int z :: rest)) : Runs w l Z EL n0 own nm code ml ret R Q D h kc ks pc ls (.int y :: .int x :: rest) := by
  obtain ⟨hd, rfl⟩ := hd
  subst hz
  exact K.plain fun p e m below c T t hx hb X S => XT.ior (g := mkF m pc ls (.int y :: .int x :: rest)) X hx rfl (Jvm.hb hb hd) rfl S
theorem Runs.ixor {x y z : Int32} (hd : Ins code pc (.ixor) 1 pc') (hz : x ^^^ y = z) (K : Runs w l Z EL n0 own nm code ml ret R Q D h kc ks pc' ls (.int z :: rest)) : Runs w l Z EL n0 own nm code ml ret R Q D h kc ks pc ls (.int y :: .int x :: rest) := by
  obtain ⟨hd, rfl⟩ := hd
  subst hz
  exact K.plain fun p e m below c T t hx hb X S => XT.ixor (g := mkF m pc ls (.int y :: .int x :: rest)) X hx rfl (Jvm.hb hb hd) rfl S
theorem Runs.ishl {x y z : Int32} (hd : Ins code pc (.ishl) 1 pc') (hz : x <<< (y &&& 31) = z) (K : Runs w l Z EL n0 own nm code ml ret R Q D h kc ks pc' ls (.int z :: rest)) : Runs w l Z EL n0 own nm code ml ret R Q D h kc ks pc ls (.int y :: .int x :: rest) := by
  obtain ⟨hd, rfl⟩ := hd
  subst hz
  exact K.plain fun p e m below c T t hx hb X S => XT.ishl (g := mkF m pc ls (.int y :: .int x :: rest)) X hx rfl (Jvm.hb hb hd) rfl S
theorem Runs.ishr {x y z : Int32} (hd : Ins code pc (.ishr) 1 pc') (hz : x >>> (y &&& 31) = z) (K : Runs w l Z EL n0 own nm code ml ret R Q D h kc ks pc' ls (.int z :: rest)) : Runs w l Z EL n0 own nm code ml ret R Q D h kc ks pc ls (.int y :: .int x :: rest) := by
  obtain ⟨hd, rfl⟩ := hd
  subst hz
  exact K.plain fun p e m below c T t hx hb X S => XT.ishr (g := mkF m pc ls (.int y :: .int x :: rest)) X hx rfl (Jvm.hb hb hd) rfl S
theorem Runs.iushr {x y z : Int32} (hd : Ins code pc (.iushr) 1 pc') (hz : XT.ushr x y = z) (K : Runs w l Z EL n0 own nm code ml ret R Q D h kc ks pc' ls (.int z :: rest)) : Runs w l Z EL n0 own nm code ml ret R Q D h kc ks pc ls (.int y :: .int x :: rest) := by
  obtain ⟨hd, rfl⟩ := hd
  subst hz
  exact K.plain fun p e m below c T t hx hb X S => XT.iushr (g := mkF m pc ls (.int y :: .int x :: rest)) X hx rfl (Jvm.hb hb hd) rfl S
theorem Runs.ladd {x y z : Int64} (hd : Ins code pc (.ladd) 1 pc') (hz : x + y = z) (K : Runs w l Z EL n0 own nm code ml ret R Q D h kc ks pc' ls (.long z :: rest)) : Runs w l Z EL n0 own nm code ml ret R Q D h kc ks pc ls (.long y :: .long x :: rest) := by
  obtain ⟨hd, rfl⟩ := hd
  subst hz
  exact K.plain fun p e m below c T t hx hb X S => XT.ladd (g := mkF m pc ls (.long y :: .long x :: rest)) X hx rfl (Jvm.hb hb hd) rfl S
theorem Runs.lsub {x y z : Int64} (hd : Ins code pc (.lsub) 1 pc') (hz : x - y = z) (K : Runs w l Z EL n0 own nm code ml ret R Q D h kc ks pc' ls (.long z :: rest)) : Runs w l Z EL n0 own nm code ml ret R Q D h kc ks pc ls (.long y :: .long x :: rest) := by
  obtain ⟨hd, rfl⟩ := hd
  subst hz
  exact K.plain fun p e m below c T t hx hb X S => XT.lsub (g := mkF m pc ls (.long y :: .long x :: rest)) X hx rfl (Jvm.hb hb hd) rfl S
theorem Runs.lmul {x y z : Int64} (hd : Ins code pc (.lmul) 1 pc') (hz : x * y = z) (K : Runs w l Z EL n0 own nm code ml ret R Q D h kc ks pc' ls (.long z :: rest)) : Runs w l Z EL n0 own nm code ml ret R Q D h kc ks pc ls (.long y :: .long x :: rest) := by
  obtain ⟨hd, rfl⟩ := hd
  subst hz
  exact K.plain fun p e m below c T t hx hb X S => XT.lmul (g := mkF m pc ls (.long y :: .long x :: rest)) X hx rfl (Jvm.hb hb hd) rfl S
theorem Runs.land {x y z : Int64} (hd : Ins code pc (.land) 1 pc') (hz : x &&& y = z) (K : Runs w l Z EL n0 own nm code ml ret R Q D h kc ks pc' ls (.long z :: rest)) : Runs w l Z EL n0 own nm code ml ret R Q D h kc ks pc ls (.long y :: .long x :: rest) := by
  obtain ⟨hd, rfl⟩ := hd
  subst hz
  exact K.plain fun p e m below c T t hx hb X S => XT.land (g := mkF m pc ls (.long y :: .long x :: rest)) X hx rfl (Jvm.hb hb hd) rfl S
theorem Runs.lor {x y z : Int64} (hd : Ins code pc (.lor) 1 pc') (hz : x ||| y = z) (K : Runs w l Z EL n0 own nm code ml ret R Q D h kc ks pc' ls (.long z :: rest)) : Runs w l Z EL n0 own nm code ml ret R Q D h kc ks pc ls (.long y :: .long x :: rest) := by
  obtain ⟨hd, rfl⟩ := hd
  subst hz
  exact K.plain fun p e m below c T t hx hb X S => XT.lor (g := mkF m pc ls (.long y :: .long x :: rest)) X hx rfl (Jvm.hb hb hd) rfl S
theorem Runs.lxor {x y z : Int64} (hd : Ins code pc (.lxor) 1 pc') (hz : x ^^^ y = z) (K : Runs w l Z EL n0 own nm code ml ret R Q D h kc ks pc' ls (.long z :: rest)) : Runs w l Z EL n0 own nm code ml ret R Q D h kc ks pc ls (.long y :: .long x :: rest) := by
  obtain ⟨hd, rfl⟩ := hd
  subst hz
  exact K.plain fun p e m below c T t hx hb X S => XT.lxor (g := mkF m pc ls (.long y :: .long x :: rest)) X hx rfl (Jvm.hb hb hd) rfl S
theorem Runs.irem {x y z : Int32} (hd : Ins code pc (.irem) 1 pc') (hy : y ≠ 0) (hz : x % y = z) (K : Runs w l Z EL n0 own nm code ml ret R Q D h kc ks pc' ls (.int z :: rest)) : Runs w l Z EL n0 own nm code ml ret R Q D h kc ks pc ls (.int y :: .int x :: rest) := by
  obtain ⟨hd, rfl⟩ := hd
  subst hz
  exact K.plain fun p e m below c T t hx hb X S => XS.irem (g := mkF m pc ls (.int y :: .int x :: rest)) X hx rfl (Jvm.hb hb hd) rfl hy (by rw [show x - x / y * y = x % y from irem_eq_mod x y]; exact S)
theorem Runs.idiv {x y z : Int32} (hd : Ins code pc (.idiv) 1 pc') (hy : y ≠ 0) (hz : x / y = z) (K : Runs w l Z EL n0 own nm code ml ret R Q D h kc ks pc' ls (.int z :: rest)) : Runs w l Z EL n0 own nm code ml ret R Q D h kc ks pc ls (.int y :: .int x :: rest) := by
  obtain ⟨hd, rfl⟩ := hd
  subst hz
  exact K.plain fun p e m below c T t hx hb X S => XS.idiv (g := mkF m pc ls (.int y :: .int x :: rest)) X hx rfl (Jvm.hb hb hd) rfl hy S
theorem Runs.lcmp {x y : Int64} {z : Int32} (hd : Ins code pc (.lcmp) 1 pc') (hz : XT.cmpL x y = z) (K : Runs w l Z EL n0 own nm code ml ret R Q D h kc ks pc' ls (.int z :: rest)) : Runs w l Z EL n0 own nm code ml ret R Q D h kc ks pc ls (.long y :: .long x :: rest) := by
  obtain ⟨hd, rfl⟩ := hd
  subst hz
  exact K.plain fun p e m below c T t hx hb X S => XT.lcmp (g := mkF m pc ls (.long y :: .long x :: rest)) X hx rfl (Jvm.hb hb hd) rfl S
theorem Runs.ineg {x : Int32} {z : Int32} (hd : Ins code pc (.ineg) 1 pc') (hz : -x = z) (K : Runs w l Z EL n0 own nm code ml ret R Q D h kc ks pc' ls (.int z :: rest)) : Runs w l Z EL n0 own nm code ml ret R Q D h kc ks pc ls (.int x :: rest) := by
  obtain ⟨hd, rfl⟩ := hd
  subst hz
  exact K.plain fun p e m below c T t hx hb X S => XS.ineg (g := mkF m pc ls (.int x :: rest)) X hx rfl (Jvm.hb hb hd) rfl S
theorem Runs.i2l {x : Int32} {z : Int64} (hd : Ins code pc (.i2l) 1 pc') (hz : x.toInt64 = z) (K : Runs w l Z EL n0 own nm code ml ret R Q D h kc ks pc' ls (.long z :: rest)) : Runs w l Z EL n0 own nm code ml ret R Q D h kc ks pc ls (.int x :: rest) := by
  obtain ⟨hd, rfl⟩ := hd
  subst hz
  exact K.plain fun p e m below c T t hx hb X S => XT.i2l (g := mkF m pc ls (.int x :: rest)) X hx rfl (Jvm.hb hb hd) rfl S
theorem Runs.l2i {x : Int64} {z : Int32} (hd : Ins code pc (.l2i) 1 pc') (hz : x.toInt32 = z) (K : Runs w l Z EL n0 own nm code ml ret R Q D h kc ks pc' ls (.int z :: rest)) : Runs w l Z EL n0 own nm code ml ret R Q D h kc ks pc ls (.long x :: rest) := by
  obtain ⟨hd, rfl⟩ := hd
  subst hz
  exact K.plain fun p e m below c T t hx hb X S => XT.l2i (g := mkF m pc ls (.long x :: rest)) X hx rfl (Jvm.hb hb hd) rfl S
theorem Runs.i2b {x : Int32} {z : Int32} (hd : Ins code pc (.i2b) 1 pc') (hz : x.toInt8.toInt32 = z) (K : Runs w l Z EL n0 own nm code ml ret R Q D h kc ks pc' ls (.int z :: rest)) : Runs w l Z EL n0 own nm code ml ret R Q D h kc ks pc ls (.int x :: rest) := by
  obtain ⟨hd, rfl⟩ := hd
  subst hz
  exact K.plain fun p e m below c T t hx hb X S => XT.i2b (g := mkF m pc ls (.int x :: rest)) X hx rfl (Jvm.hb hb hd) rfl S
theorem Runs.i2c {x : Int32} {z : Int32} (hd : Ins code pc (.i2c) 1 pc') (hz : x.toUInt32.toUInt16.toUInt32.toInt32 = z) (K : Runs w l Z EL n0 own nm code ml ret R Q D h kc ks pc' ls (.int z :: rest)) : Runs w l Z EL n0 own nm code ml ret R Q D h kc ks pc ls (.int x :: rest) := by
  obtain ⟨hd, rfl⟩ := hd
  subst hz
  exact K.plain fun p e m below c T t hx hb X S => XT.i2c (g := mkF m pc ls (.int x :: rest)) X hx rfl (Jvm.hb hb hd) rfl S
theorem Runs.i2s {x : Int32} {z : Int32} (hd : Ins code pc (.i2s) 1 pc') (hz : x.toInt16.toInt32 = z) (K : Runs w l Z EL n0 own nm code ml ret R Q D h kc ks pc' ls (.int z :: rest)) : Runs w l Z EL n0 own nm code ml ret R Q D h kc ks pc ls (.int x :: rest) := by
  obtain ⟨hd, rfl⟩ := hd
  subst hz
  exact K.plain fun p e m below c T t hx hb X S => XT.i2s (g := mkF m pc ls (.int x :: rest)) X hx rfl (Jvm.hb hb hd) rfl S
theorem Runs.lneg {x : Int64} {z : Int64} (hd : Ins code pc (.lneg) 1 pc') (hz : -x = z) (K : Runs w l Z EL n0 own nm code ml ret R Q D h kc ks pc' ls (.long z :: rest)) : Runs w l Z EL n0 own nm code ml ret R Q D h kc ks pc ls (.long x :: rest) := by
  obtain ⟨hd, rfl⟩ := hd
  subst hz
  exact K.plain fun p e m below c T t hx hb X S => XT.lneg (g := mkF m pc ls (.long x :: rest)) X hx rfl (Jvm.hb hb hd) rfl S
theorem Runs.iinc {k : Nat} {cst : Int} {x z : Int32} (hd : Ins code pc (.iinc k cst) 3 pc') (hl : ls[k]? = some (.val (.int x))) (hz : x + Int32.ofInt cst = z) (hl' : storeLocals ls k (.int z) = some ls') (K : Runs w l Z EL n0 own nm code ml ret R Q D h kc ks pc' ls' st) : Runs w l Z EL n0 own nm code ml ret R Q D h kc ks pc ls st := by
  obtain ⟨hd, rfl⟩ := hd
  subst hz
  exact K.plain fun p e m below c T t hx hb X S => XS.iinc (g := mkF m pc ls st) X hx rfl (Jvm.hb hb hd) hl hl' S
theorem Runs.dup {x : Value} (hd : Ins code pc (.dup) 1 pc') (hc : x.category = 1) (K : Runs w l Z EL n0 own nm code ml ret R Q D h kc ks pc' ls (x :: x :: rest)) : Runs w l Z EL n0 own nm code ml ret R Q D h kc ks pc ls (x :: rest) := by
  obtain ⟨hd, rfl⟩ := hd
  exact K.plain fun p e m below c T t hx hb X S => XS.dup (g := mkF m pc ls (x :: rest)) X hx rfl (Jvm.hb hb hd) rfl hc S
theorem Runs.pop {x : Value} (hd : Ins code pc (.pop) 1 pc') (hc : x.category = 1) (K : Runs w l Z EL n0 own nm code ml ret R Q D h kc ks pc' ls rest) : Runs w l Z EL n0 own nm code ml ret R Q D h kc ks pc ls (x :: rest) := by
  obtain ⟨hd, rfl⟩ := hd
  exact K.plain fun p e m below c T t hx hb X S => XT.pop (g := mkF m pc ls (x :: rest)) X hx rfl (Jvm.hb hb hd) rfl hc S
theorem Runs.dupX1 {x y : Value} (hd : Ins code pc (.dup_x1) 1 pc') (hc : x.category = 1) (hc' : y.category = 1) (K : Runs w l Z EL n0 own nm code ml ret R Q D h kc ks pc' ls (x :: y :: x :: rest)) : Runs w l Z EL n0 own nm code ml ret R Q D h kc ks pc ls (x :: y :: rest) := by
  obtain ⟨hd, rfl⟩ := hd
  exact K.plain fun p e m below c T t hx hb X S => XT.dupX1 (g := mkF m pc ls (x :: y :: rest)) X hx rfl (Jvm.hb hb hd) rfl hc hc' S
theorem Runs.dup2 {x y : Value} (hd : Ins code pc (.dup2) 1 pc') (hc : x.category = 1) (hc' : y.category = 1) (K : Runs w l Z EL n0 own nm code ml ret R Q D h kc ks pc' ls (x :: y :: x :: y :: rest)) : Runs w l Z EL n0 own nm code ml ret R Q D h kc ks pc ls (x :: y :: rest) := by
  obtain ⟨hd, rfl⟩ := hd
  exact K.plain fun p e m below c T t hx hb X S => XT.dup2 (g := mkF m pc ls (x :: y :: rest)) X hx rfl (Jvm.hb hb hd) rfl hc hc' S
theorem Runs.goto  {o : Int} {t nx : Nat} (hd : Ins code pc (.goto o) 3 nx) (hj : Jmp pc o t)  (K : Runs w l Z EL n0 own nm code ml ret R Q D h kc ks t ls st) : Runs w l Z EL n0 own nm code ml ret R Q D h kc ks pc ls st :=
  K.plain fun p e m below c T tg hx hb X S => XS.goto (g := mkF m pc ls st) X hx rfl (pc0 := pc) rfl (Jvm.hb hb hd.1) hj.1 hj.2 S
theorem Runs.ifY {cd : ClassFile.Cond} {x : Int32} {o : Int} {t nx : Nat} (hd : Ins code pc (.ifCond cd o) 3 nx) (hj : Jmp pc o t) (hc : if_icmp.holds cd x 0 = true) (K : Runs w l Z EL n0 own nm code ml ret R Q D h kc ks t ls rest) : Runs w l Z EL n0 own nm code ml ret R Q D h kc ks pc ls (.int x :: rest) :=
  K.plain fun p e m below c T tg hx hb X S => XS.ifYes (g := mkF m pc ls (.int x :: rest)) X hx rfl (pc0 := pc) rfl (Jvm.hb hb hd.1) rfl ((if0 cd x).trans hc) hj.1 hj.2 S
theorem Runs.icY {cd : ClassFile.Cond} {x y : Int32} {o : Int} {t nx : Nat} (hd : Ins code pc (.if_icmp cd o) 3 nx) (hj : Jmp pc o t) (hc : if_icmp.holds cd x y = true) (K : Runs w l Z EL n0 own nm code ml ret R Q D h kc ks t ls rest) : Runs w l Z EL n0 own nm code ml ret R Q D h kc ks pc ls (.int y :: .int x :: rest) :=
  K.plain fun p e m below c T tg hx hb X S => XS.icmpYes (g := mkF m pc ls (.int y :: .int x :: rest)) X hx rfl (pc0 := pc) rfl (Jvm.hb hb hd.1) rfl hc hj.1 hj.2 S
theorem Runs.nullY  {o : Int} {t nx : Nat} (hd : Ins code pc (.ifnull o) 3 nx) (hj : Jmp pc o t)  (K : Runs w l Z EL n0 own nm code ml ret R Q D h kc ks t ls rest) : Runs w l Z EL n0 own nm code ml ret R Q D h kc ks pc ls (.null :: rest) :=
  K.plain fun p e m below c T tg hx hb X S => XS.ifnullYes (g := mkF m pc ls (.null :: rest)) X hx rfl (pc0 := pc) rfl (Jvm.hb hb hd.1) rfl hj.1 hj.2 S
theorem Runs.nnullY {b : Addr} {o : Int} {t nx : Nat} (hd : Ins code pc (.ifnonnull o) 3 nx) (hj : Jmp pc o t)  (K : Runs w l Z EL n0 own nm code ml ret R Q D h kc ks t ls rest) : Runs w l Z EL n0 own nm code ml ret R Q D h kc ks pc ls (.ref b :: rest) :=
  K.plain fun p e m below c T tg hx hb X S => XT.ifnonnullYes (g := mkF m pc ls (.ref b :: rest)) X hx rfl (pc0 := pc) rfl (Jvm.hb hb hd.1) rfl hj.1 hj.2 S
theorem Runs.acY {cd : ClassFile.ACond} {x y : Value} {o : Int} {t nx : Nat} (hd : Ins code pc (.if_acmp cd o) 3 nx) (hj : Jmp pc o t) (hx' : x.isRef = true) (hy' : y.isRef = true) (hc : XT.acmp cd x y = true) (K : Runs w l Z EL n0 own nm code ml ret R Q D h kc ks t ls rest) : Runs w l Z EL n0 own nm code ml ret R Q D h kc ks pc ls (y :: x :: rest) :=
  K.plain fun p e m below c T tg hx hb X S => XT.acmpYes (g := mkF m pc ls (y :: x :: rest)) X hx rfl (pc0 := pc) rfl (Jvm.hb hb hd.1) rfl hx' hy' hc hj.1 hj.2 S
theorem Runs.ifN {cd : ClassFile.Cond} {o : Int} {x : Int32} (hd : Ins code pc (.ifCond cd o) 3 pc') (hc : if_icmp.holds cd x 0 = false) (K : Runs w l Z EL n0 own nm code ml ret R Q D h kc ks pc' ls rest) : Runs w l Z EL n0 own nm code ml ret R Q D h kc ks pc ls (.int x :: rest) := by
  obtain ⟨hd, rfl⟩ := hd
  exact K.plain fun p e m below c T t hx hb X S => XS.ifNo (g := mkF m pc ls (.int x :: rest)) X hx rfl (Jvm.hb hb hd) rfl ((if0 cd x).trans hc) S
theorem Runs.icN {cd : ClassFile.Cond} {o : Int} {x y : Int32} (hd : Ins code pc (.if_icmp cd o) 3 pc') (hc : if_icmp.holds cd x y = false) (K : Runs w l Z EL n0 own nm code ml ret R Q D h kc ks pc' ls rest) : Runs w l Z EL n0 own nm code ml ret R Q D h kc ks pc ls (.int y :: .int x :: rest) := by
  obtain ⟨hd, rfl⟩ := hd
  exact K.plain fun p e m below c T t hx hb X S => XS.icmpNo (g := mkF m pc ls (.int y :: .int x :: rest)) X hx rfl (Jvm.hb hb hd) rfl hc S
theorem Runs.nullN {o : Int} {b : Addr} (hd : Ins code pc (.ifnull o) 3 pc')  (K : Runs w l Z EL n0 own nm code ml ret R Q D h kc ks pc' ls rest) : Runs w l Z EL n0 own nm code ml ret R Q D h kc ks pc ls (.ref b :: rest) := by
  obtain ⟨hd, rfl⟩ := hd
  exact K.plain fun p e m below c T t hx hb X S => XS.ifnullNo (g := mkF m pc ls (.ref b :: rest)) X hx rfl (Jvm.hb hb hd) rfl S
theorem Runs.nnullN {o : Int} (hd : Ins code pc (.ifnonnull o) 3 pc')  (K : Runs w l Z EL n0 own nm code ml ret R Q D h kc ks pc' ls rest) : Runs w l Z EL n0 own nm code ml ret R Q D h kc ks pc ls (.null :: rest) := by
  obtain ⟨hd, rfl⟩ := hd
  exact K.plain fun p e m below c T t hx hb X S => XT.ifnonnullNo (g := mkF m pc ls (.null :: rest)) X hx rfl (Jvm.hb hb hd) rfl S
theorem Runs.acN {cd : ClassFile.ACond} {o : Int} {x y : Value} (hd : Ins code pc (.if_acmp cd o) 3 pc') (hx' : x.isRef = true) (hy' : y.isRef = true) (hc : XT.acmp cd x y = false) (K : Runs w l Z EL n0 own nm code ml ret R Q D h kc ks pc' ls rest) : Runs w l Z EL n0 own nm code ml ret R Q D h kc ks pc ls (y :: x :: rest) := by
  obtain ⟨hd, rfl⟩ := hd
  exact K.plain fun p e m below c T t hx hb X S => XT.acmpNo (g := mkF m pc ls (y :: x :: rest)) X hx rfl (Jvm.hb hb hd) rfl hx' hy' hc S

/-! the returns -/
theorem Runs.leave {v : Option Value} (hv : ret = none → v = none)
    (f : ∀ (p : Program) (e : Env) (s : State) (m : MethodId) (args : Array Value) (below : List Frame) (meth : Method) (c : Code) (T : State) (locs : List Loc), Ctx p s m meth c Z own nm code ml ret → Stand p l e R s m args below meth c T locs kc ks → ∀ fs : List Frame,
      (∀ (f : JFrame) (acts : List Action), f.method = m → f.locked = none → f.entered = [] → (doReturn e (T.setTop f) acts v).1 = T.setFrames fs) → Steps p.tables e below (T.setTop (mkF m pc ls st)) (T.setFrames fs))
    (hc : kc ≤ R.cells) (hk : ks ≤ R.slots) (hQ : Q v h D) : Runs w l Z EL n0 own nm code ml ret R Q D h kc ks pc ls st := by
  intro p e s vm0 m args below meth c T locs C X eT N O H
  have hlk : meth.locks = false := C.2.2.2.2.2.2.1
  have hr : meth.sig.returnType = ret := C.2.2.2.2.2.1
  obtain ⟨H1, ⟨a0, H2⟩, H3, H4⟩ := H
  have A := CHv.at X C.2.1 H2 H3.1
  have hs : ∀ x ∈ D, x < h.size ∧ Safe Z EL T.vm h x := fun x hx => ⟨(H4 x hx).1, A.safe (H4 x hx).1 (H4 x hx).2⟩
  have A' := H3.trans A
  subst eT
  cases w
  · have e1 : vm0 = s.vm := H1
    subst e1
    obtain ⟨fs, h1, h2, h3, h4, h5⟩ := X.leave (v := v) (fun q => hv (hr ▸ q)) hlk
    exact ⟨_, _, f p e _ m args below meth c T locs C X fs h1, h2, h3, v, locs, D, rfl, hQ, O, N, ⟨A', hs⟩, ⟨v, rfl⟩, h4, h5.mono hc hk⟩
  · obtain ⟨k0, hS, hk0⟩ := H1
    obtain ⟨fs, h1, h2, h3, ⟨g1, g2, g3, g4⟩⟩ := X.leaveW hS hk0 (v := v) (fun q => hv (hr ▸ q)) hlk
    exact ⟨_, _, f p e _ m args below meth c T locs C X fs h1, h2, h3, v, locs, D, rfl, hQ, O, N, ⟨A', hs⟩, g1, g2, g3, g4.mono hc hk⟩
theorem Runs.retV {nx : Nat} (hd : Ins code pc .return_ 1 nx) (hr : ret = none) (hc : kc ≤ R.cells) (hk : ks ≤ R.slots) (hQ : Q none h D) : Runs w l Z EL n0 own nm code ml ret R Q D h kc ks pc ls [] :=
  Runs.leave (v := none) (fun _ => rfl) (fun p e s m args below meth c T locs C X fs hl => X.returnOut C.1 (C.2.2.2.2.2.1.trans hr) (Jvm.hb C.2.2.1 hd.1) hl) hc hk hQ
theorem Runs.retI {nx : Nat} {t : FieldType} {x z : Int32} (hd : Ins code pc .ireturn 1 nx) (hr : ret = some t) (ht : t = .int ∨ t = .boolean ∨ t = .byte ∨ t = .char ∨ t = .short) (hn : narrow t (.int x) = .int z) (hc : kc ≤ R.cells) (hk : ks ≤ R.slots) (hQ : Q (some (.int z)) h D) : Runs w l Z EL n0 own nm code ml ret R Q D h kc ks pc ls [.int x] :=
  Runs.leave (v := some (.int z)) (fun q => by rw [hr] at q; cases q) (fun p e s m args below meth c T locs C X fs hl => by
    have hm' : T.vm.method? m = some meth := X.method'
    have hx := C.1
    have hd' := Jvm.hb C.2.2.1 hd.1
    have hret : meth.sig.returnType = some t := C.2.2.2.2.2.1.trans hr
    show Steps p.tables e below (T.setTop { method := m, pc := pc, locals := ls, stack := [_], locked := none }) _
    rcases ht with rfl | rfl | rfl | rfl | rfl
    all_goals
      jvm_step X.here [X.here.top, hx, hd', hm', hret, hn]
      first | (intro acts; rw [hl _ acts rfl rfl rfl]) | rw [hl _ _ rfl rfl rfl]
      exact Steps.refl _) hc hk hQ
theorem Runs.retA {nx : Nat} {t : FieldType} {x : Value} (hd : Ins code pc .areturn 1 nx) (hr : ret = some t) (ht : t.isReference = true) (hx : x.isRef = true) (hc : kc ≤ R.cells) (hk : ks ≤ R.slots) (hQ : Q (some x) h D) : Runs w l Z EL n0 own nm code ml ret R Q D h kc ks pc ls [x] :=
  Runs.leave (v := some x) (fun q => by rw [hr] at q; cases q) (fun p e s m args below meth c T locs C X fs hl =>
    RoadKit.retOut X C.1 (C.2.2.2.2.2.1.trans hr) (by cases x <;> first | rfl | (simp [Value.isRef] at hx; done) | (cases t <;> first | rfl | (simp [FieldType.isReference] at ht; done))) (Or.inr (Or.inr (Or.inr (Or.inr ⟨rfl, ht, hx⟩)))) (Jvm.hb C.2.2.1 hd.1) hl) hc hk hQ
theorem Runs.retJ {nx : Nat} {x : Int64} (hd : Ins code pc .lreturn 1 nx) (hr : ret = some .long) (hc : kc ≤ R.cells) (hk : ks ≤ R.slots) (hQ : Q (some (.long x)) h D) : Runs w l Z EL n0 own nm code ml ret R Q D h kc ks pc ls [.long x] :=
  Runs.leave (v := some (.long x)) (fun q => by rw [hr] at q; cases q) (fun p e s m args below meth c T locs C X fs hl =>
    RoadKit.retOut X C.1 (C.2.2.2.2.2.1.trans hr) rfl (Or.inr (Or.inl ⟨rfl, rfl, x, rfl⟩)) (Jvm.hb C.2.2.1 hd.1) hl) hc hk hQ
/-! statics, fields, constants -/
theorem Runs.getS {R0 O n d : String} {index : Nat} {v : Value} (hd : Ins code pc (.getstatic index) 3 pc') (wl : (Cond.fieldLink own index R0 n d).before a0 Z = true) (via : Via Z R0 O n d) (F : Sta Z Z.heap O n d v) (K : Runs w l Z EL n0 own nm code ml ret R Q D h kc ks pc' ls (v :: st)) : Runs w l Z EL n0 own nm code ml ret R Q D h kc ks pc ls st := by
  obtain ⟨hd, rfl⟩ := hd
  exact K.warm fun p e s m args below meth c T locs C X eT O => RoadKit.getS (host := "") X C.1 C.2.1 C.2.2.2.2.1 wl via eT (F.ext O.2) (g := mkF m pc ls st) rfl (Jvm.hb C.2.2.1 hd)
theorem Runs.getSN {R0 O n d host : String} {index : Nat} {v : Value} (hd : Ins code pc (.getstatic index) 3 pc') (wl : (Cond.fieldLinkNest own index R0 n d host).before a0 Z = true) (via : Via Z R0 O n d) (F : Sta Z Z.heap O n d v) (K : Runs w l Z EL n0 own nm code ml ret R Q D h kc ks pc' ls (v :: st)) : Runs w l Z EL n0 own nm code ml ret R Q D h kc ks pc ls st := by
  obtain ⟨hd, rfl⟩ := hd
  exact K.warm fun p e s m args below meth c T locs C X eT O => RoadKit.getS2 (host := host) X C.1 C.2.1 C.2.2.2.2.1 (Or.inr wl) via eT (F.ext O.2) (g := mkF m pc ls st) rfl (Jvm.hb C.2.2.1 hd)
theorem Runs.getF {R0 O n d host : String} {index : Nat} {a : Addr} {v : Value} (hd : Ins code pc (.getfield index) 3 pc') (wl : (Cond.fieldLink own index R0 n d).before a0 Z = true ∨ (Cond.fieldLinkNest own index R0 n d host).before a0 Z = true) (via : Via Z R0 O n d) (F : Fld Z h a O n d v) (K : Runs w l Z EL n0 own nm code ml ret R Q D h kc ks pc' ls (v :: rest)) : Runs w l Z EL n0 own nm code ml ret R Q D h kc ks pc ls (.ref a :: rest) := by
  obtain ⟨hd, rfl⟩ := hd
  exact K.warm fun p e s m args below meth c T locs C X eT O => RoadKit.getF X C.1 C.2.1 C.2.2.2.2.1 wl via eT F (g := mkF m pc ls (.ref a :: rest)) rfl rfl (Jvm.hb C.2.2.1 hd)
theorem Runs.ldcI {index : Nat} {v : Int32} (hd : Ins code pc (.ldc index) 2 pc') (wl : (Cond.constant own index v).before a0 Z = true) (K : Runs w l Z EL n0 own nm code ml ret R Q D h kc ks pc' ls (.int v :: st)) : Runs w l Z EL n0 own nm code ml ret R Q D h kc ks pc ls st := by
  obtain ⟨hd, rfl⟩ := hd
  exact K.warm fun p e s m args below meth c T locs C X eT O => ⟨T, X, eT, fun t S => X.ldcI C.1 C.2.2.2.2.1 (mv C.2.1 wl) (g := mkF m pc ls st) rfl (Jvm.hb C.2.2.1 hd) S⟩
theorem Runs.ldcJ {index : Nat} {v : Int64} (hd : Ins code pc (.ldc2_w index) 3 pc') (wl : (Cond.constantLong own index v).before a0 Z = true) (K : Runs w l Z EL n0 own nm code ml ret R Q D h kc ks pc' ls (.long v :: st)) : Runs w l Z EL n0 own nm code ml ret R Q D h kc ks pc ls st := by
  obtain ⟨hd, rfl⟩ := hd
  exact K.warm fun p e s m args below meth c T locs C X eT O => ⟨T, X, eT, fun t S => X.ldc2J C.1 C.2.2.2.2.1 (mv C.2.1 wl) (g := mkF m pc ls st) rfl (Jvm.hb C.2.2.1 hd) S⟩
end W


/-! objects, arrays -/
abbrev FV := String × String × String × Value
def FV.key (f : FV) : String × String × String := (f.1, f.2.1, f.2.2.1)
/-- the object at a is exactly a C; its fields fs hold what they say -/
def Obj (Z : State) (h : Heap) (a : Addr) (C : String) (fs : List FV) : Prop := Exa Z h a C ∧ ∀ f ∈ fs, Fld Z h a f.1 f.2.1 f.2.2.1 f.2.2.2
/-- the fields of a C, at their first values -/
def LayD (Z : State) (a0 : Array Value) (C : String) (dl : List FV) : Prop := (∀ f ∈ dl, Laid Z a0 C f.1 f.2.1 f.2.2.1 ∧ ∃ t, parseFieldDescriptor f.2.2.1 = some t ∧ defaultValue t = f.2.2.2) ∧ (dl.map fun f => f.2.1).Nodup
section H
variable {Z : State} {h h' : Heap} {a b : Addr} {C : String} {fs dl : List FV} {ws : List Addr} {a0 : Array Value}
theorem Obj.fld {i : Nat} {o n d : String} {v : Value} (O : Obj Z h a C fs) (hi : fs[i]? = some (o, n, d, v)) : Fld Z h a o n d v := O.2 _ (List.mem_of_getElem? hi)
theorem Obj.keep (O : Obj Z h a C fs) (K : Keep h h' ws) (q : a ∉ ws) : Obj Z h' a C fs := ⟨O.1.keep K, fun f hf => (O.2 f hf).keep K q⟩
theorem Obj.ext (O : Obj Z h a C fs) (E : Ext h h') : Obj Z h' a C fs := ⟨O.1.ext E, fun f hf => (O.2 f hf).ext E⟩
theorem Obj.lt (O : Obj Z h a C fs) : a < h.size := O.1.lt
theorem Obj.sub {gs : List FV} (O : Obj Z h a C fs) (q : ∀ f ∈ gs, f ∈ fs) : Obj Z h a C gs := ⟨O.1, fun f hf => O.2 f (q f hf)⟩
theorem keepE (E : Ext h h') : Keep h h' ws := (Keep.refl h ws).ext E
theorem Keep.sub {ws' : List Addr} (K : Keep h h' ws) (q : ∀ x ∈ ws, x ∈ ws') : Keep h h' ws' := ⟨K.1, fun x c e r => K.2.1 x c e fun z => r (q x z), K.2.2⟩
theorem nodup_key : ∀ {dl : List FV} {i j : Nat} {f g : FV}, (dl.map fun f => f.2.1).Nodup → dl[i]? = some f → dl[j]? = some g → i ≠ j → f.2.1 ≠ g.2.1 := by
  intro dl i j f g hn hi hj hij he
  obtain ⟨h1, e1⟩ := List.getElem?_eq_some_iff.mp hi
  obtain ⟨h2, e2⟩ := List.getElem?_eq_some_iff.mp hj
  have hp := List.pairwise_iff_getElem.mp hn
  rcases Nat.lt_or_gt_of_ne hij with q | q
  · exact hp i j (by simpa using h1) (by simpa using h2) q (by simp only [List.getElem_map, e1, e2]; exact he)
  · exact hp j i (by simpa using h2) (by simpa using h1) q (by simp only [List.getElem_map, e1, e2]; exact he.symm)
theorem Obj.put {i : Nat} {o n d : String} {old v : Value} (O : Obj Z h a C fs) (hi : fs[i]? = some (o, n, d, old)) (L : LayD Z a0 C dl) (hk : fs.map FV.key = dl.map FV.key) (W : Wr h h' a (RoadKit.slotOf Z o n d) v) : Obj Z h' a C (fs.set i (o, n, d, v)) := by
  refine ⟨O.1.wr W, fun f hf => ?_⟩
  obtain ⟨j, hj⟩ := List.mem_iff_getElem?.mp hf
  by_cases e : i = j
  · subst e
    rw [List.getElem?_set_self (by exact (List.getElem?_eq_some_iff.mp hi).1)] at hj
    cases hj
    exact (O.fld hi).same W
  · rw [List.getElem?_set_ne e] at hj
    obtain ⟨o', n', d', v'⟩ := f
    have F := O.fld hj
    have key : ∀ {k : Nat} {g : FV}, fs[k]? = some g → ∃ g' : FV, dl[k]? = some g' ∧ g'.key = g.key := fun {k g} q => by
      have q' : (fs.map FV.key)[k]? = some g.key := by simp [q]
      rw [hk, List.getElem?_map] at q'
      cases hd : dl[k]? with
      | none => simp [hd] at q'
      | some g' => exact ⟨g', rfl, by simpa [hd] using q'⟩
    obtain ⟨f1, q1, k1⟩ := key hi
    obtain ⟨f2, q2, k2⟩ := key hj
    have hne := nodup_key L.2 q1 q2 e
    obtain ⟨L1, t1, p1, -⟩ := L.1 f1 (List.mem_of_getElem? q1)
    obtain ⟨L2, t2, p2, -⟩ := L.1 f2 (List.mem_of_getElem? q2)
    simp only [FV.key, Prod.mk.injEq] at k1 k2
    obtain ⟨a1, b1, c1⟩ := k1
    obtain ⟨a2, b2, c2⟩ := k2
    rw [a1, b1, c1] at L1; rw [a2, b2, c2] at L2; rw [c1] at p1; rw [c2] at p2
    exact F.other W (Or.inr (slot_ne L2 L1 (by rw [← b1, ← b2]; exact fun z => hne z.symm) p2 p1))
end H
section W2
variable {w : Bool} {l : Launch} {Z : State} {EL : List (String × Nat)} {n0 : Nat} {own nm : String} {code : ByteArray} {ml : Nat} {ret : Option FieldType} {R : Room} {Q : Option Value → Heap → List Addr → Prop} {D : List Addr} {h h' : Heap} {kc ks pc pc' : Nat} {ls ls' : Array Slot} {st st' rest : List Value} {a0 : Array Value} {s : State} {vm0 : Vm}
theorem Hid.keep {ws : List Addr} (H : Hid w Z EL D s vm0 h) (K : Keep h h' ws) (q : ∀ x ∈ ws, Safe Z EL vm0 h x) : Hid w Z EL D s vm0 h' := by
  obtain ⟨H1, H2, H3, H4⟩ := H
  refine ⟨?_, H2, H3.trans (CHr.keep K q H3.1), fun x hx => ⟨Nat.lt_of_lt_of_le (H4 x hx).1 K.1, (H4 x hx).2.keep K q H3.1⟩⟩
  split
  · rename_i e; rw [if_pos e] at H1; obtain ⟨k0, g1, g2⟩ := H1; exact ⟨k0, g1, Nat.le_trans g2 K.1⟩
  · rename_i e; rw [if_neg e] at H1; exact H1
theorem Hid.more {b : Addr} (H : Hid w Z EL D s vm0 h) (E : Ext h h') (hb : h.size ≤ b) (hb' : b < h'.size) : Hid w Z EL (b :: D) s vm0 h' := by
  have H' := H.keep (keepE (ws := []) E) (fun x q => nomatch q)
  refine ⟨H'.1, H'.2.1, H'.2.2.1, fun x hx => ?_⟩
  rcases List.mem_cons.mp hx with rfl | hx
  · exact ⟨hb', (Safe.new hb).ext E H.2.2.1.1⟩
  · exact H'.2.2.2 x hx
/-- a step that writes one old place, or none -/
theorem Runs.write {ws : List Addr} {P : Heap → Prop} (hg : ∀ x ∈ ws, n0 ≤ x) (hs : ∀ vm0 : Vm, Z.vm.Alike vm0 → (∀ x ∈ D, Safe Z EL vm0 h x) → ∀ x ∈ ws, Safe Z EL vm0 h x)
    (K : ∀ h', Keep h h' ws → P h' → Runs w l Z EL n0 own nm code ml ret R Q D h' kc ks pc' ls' st')
    (f : ∀ (p : Program) (e : Env) (s : State) (m : MethodId) (args : Array Value) (below : List Frame) (meth : Method) (c : Code) (T : State) (locs : List Loc), Ctx p s m meth c Z own nm code ml ret → Stand p l e R s m args below meth c T locs kc ks → T.heap = h → Old Z n0 h → Fr n0 locs →
      ∃ T' locs', Stand p l e R s m args below meth c T' locs' kc ks ∧ Fr n0 locs' ∧ Keep h T'.heap ws ∧ P T'.heap ∧ ∀ target, Steps p.tables e below (T'.setTop (mkF m pc' ls' st')) target → Steps p.tables e below (T.setTop (mkF m pc ls st)) target) : Runs w l Z EL n0 own nm code ml ret R Q D h kc ks pc ls st := by
  intro p e s vm0 m args below meth c T locs C X eT N O H
  obtain ⟨T', locs', X', N', K', P', S'⟩ := f p e _ m args below meth c T locs C X eT O N
  obtain ⟨s₂, o, S, r⟩ := K _ K' P' p e s vm0 m args below meth c T' locs' C X' rfl N' (O.keep K' hg) (H.keep K' (hs vm0 C.2.1.alike (fun x hx => (H.2.2.2 x hx).2)))
  exact ⟨s₂, o, S' _ S, r⟩
theorem safeC {a : Addr} {C : String} (E : Exa Z h a C) (hs : a ∈ D ∨ (C ≠ "java/lang/String" ∧ C ≠ "[B")) : ∀ vm0 : Vm, Z.vm.Alike vm0 → (∀ x ∈ D, Safe Z EL vm0 h x) → ∀ x ∈ [a], Safe Z EL vm0 h x := fun vm0 hal hD x hx => by
  cases List.mem_singleton.mp hx
  rcases hs with hs | hs
  · exact hD _ hs
  · exact Safe.exa hal E hs.1 hs.2
theorem safeA {a : Addr} {k : ClassId} {ty : FieldType} {z : Int32} {vs : List Value} {d : Value} (A : Arv Z h a k ty z vs d) (hs : a ∈ D ∨ ty ≠ .byte) : ∀ vm0 : Vm, Z.vm.Alike vm0 → (∀ x ∈ D, Safe Z EL vm0 h x) → ∀ x ∈ [a], Safe Z EL vm0 h x := fun vm0 hal hD x hx => by
  cases List.mem_singleton.mp hx
  rcases hs with hs | hs
  · exact hD _ hs
  · exact Safe.arv hal A hs
theorem one_ge {a : Addr} (hg : n0 ≤ a) : ∀ x ∈ [a], n0 ≤ x := fun x hx => by cases List.mem_singleton.mp hx; exact hg
theorem Runs.putF {R0 O n d host C : String} {index kk i : Nat} {ty : FieldType} {a : Addr} {v old : Value} {fs dl : List FV} (hd : Ins code pc (.putfield index) 3 pc') (wl : (Cond.fieldLink own index R0 n d).before a0 Z = true ∨ (Cond.fieldLinkNest own index R0 n d host).before a0 Z = true) (via : Via Z R0 O n d)
    (B : Obj Z h a C fs) (hi : fs[i]? = some (O, n, d, old)) (LD : LayD Z a0 C dl) (hk : fs.map FV.key = dl.map FV.key) (L : (Cond.lays C O n d).before a0 Z = true ∨ ((Cond.laysFinal C O n d).before a0 Z = true ∧ own = O ∧ nm = "<init>")) (wi : (Cond.instantiable C kk).before a0 Z = true)
    (hty : parseFieldDescriptor d = some ty) (hn : narrow ty v = v) (hf : fits ty v = true) (hg : n0 ≤ a) (hs : a ∈ D ∨ (C ≠ "java/lang/String" ∧ C ≠ "[B"))
    (K : ∀ h', Keep h h' [a] → Obj Z h' a C (fs.set i (O, n, d, v)) → Runs w l Z EL n0 own nm code ml ret R Q D h' kc ks pc' ls rest) : Runs w l Z EL n0 own nm code ml ret R Q D h kc ks pc ls (v :: .ref a :: rest) := by
  obtain ⟨hd, rfl⟩ := hd
  refine Runs.write (P := fun h' => Obj Z h' a C (fs.set i (O, n, d, v))) (one_ge hg) (safeC B.1 hs) K fun p e s m args below meth c T locs Cx X eT Ol N => ?_
  obtain ⟨T', h1, X', e1, W1, S1⟩ := RoadKit.putF X Cx.1 Cx.2.1 Cx.2.2.2.2.1 wl via eT (B.fld hi) B.1 (L.imp id fun q => ⟨q.1, q.2.1, Cx.2.2.2.2.2.2.2.trans q.2.2⟩) wi hty hn hf (g := mkF m pc ls (v :: .ref a :: rest)) rfl rfl (Jvm.hb Cx.2.2.1 hd)
  subst e1
  exact ⟨T', _, X', Fr.snoc X' N hg, Keep.of_wr W1, B.put hi LD hk W1, S1⟩
theorem Runs.newO {C : String} {index n : Nat} {dl : List FV} (hd : Ins code pc (.new index) 3 pc') (w1 : (Cond.classLink own index C).before a0 Z = true) (w2 : (Cond.instantiable C n).before a0 Z = true) (w3 : (Cond.initialized C).before a0 Z = true) (LD : LayD Z a0 C dl) (hc : kc + 1 ≤ R.cells) (hl : ks + n ≤ R.slots)
    (K : ∀ h' b, h.size ≤ b → n0 ≤ b → Keep h h' [] → Obj Z h' b C dl → Unt h' b → Runs w l Z EL n0 own nm code ml ret R Q (b :: D) h' (kc + 1) (ks + n) pc' ls (.ref b :: st)) : Runs w l Z EL n0 own nm code ml ret R Q D h kc ks pc ls st := by
  obtain ⟨hd, rfl⟩ := hd
  intro p e s vm0 m args below meth c T locs C' X eT N O H
  obtain ⟨T', h1, X', e1, E1, A1, D1, U1, S1⟩ := RoadKit.newO X C'.1 C'.2.1 C'.2.2.2.2.1 w1 w2 w3 eT (g := mkF m pc ls st) rfl (Jvm.hb C'.2.2.1 hd) hc hl
  subst e1
  have hO : n0 ≤ h.size := by rw [← O.1]; exact O.2.1
  obtain ⟨s₂, o, S, r⟩ := K _ h.size (Nat.le_refl _) hO (keepE E1) ⟨A1, fun f hf => by obtain ⟨L1, t, p1, d1⟩ := LD.1 f hf; rw [← d1]; exact D1 L1 p1⟩ U1 p e s vm0 m args below meth c T' locs C' X' rfl N (O.ext E1) (H.more E1 (Nat.le_refl _) A1.lt)
  exact ⟨s₂, o, S1 _ S, r⟩
theorem Runs.newP {aty : ArrayType} {n : Int32} {cap : Nat} {ad : String} (hd : Ins code pc (.newarray aty) 2 pc') (w1 : (Cond.arrayClass (newarray.typeOf aty)).before a0 Z = true) (hn : ¬ n < 0) (hcap : n.toNatClampNeg ≤ cap) (hb : cap * 8 ≤ 536870912) (hc : kc + 1 ≤ R.cells) (hl : ks + cap ≤ R.slots) (had : "[" ++ (newarray.typeOf aty).toString = ad)
    (K : ∀ h' b k, h.size ≤ b → n0 ≤ b → Keep h h' [] → Arv Z h' b k (newarray.typeOf aty) n [] (defaultValue (newarray.typeOf aty)) → Exa Z h' b ad → Runs w l Z EL n0 own nm code ml ret R Q (b :: D) h' (kc + 1) (ks + cap) pc' ls (.ref b :: rest)) : Runs w l Z EL n0 own nm code ml ret R Q D h kc ks pc ls (.int n :: rest) := by
  obtain ⟨hd, rfl⟩ := hd
  intro p e s vm0 m args below meth c T locs C' X eT N O H
  obtain ⟨T', h1, cA, X', e1, E1, A1, x1, S1⟩ := RoadKit.newPE X C'.1 C'.2.1 w1 eT (g := mkF m pc ls (.int n :: rest)) rfl (Jvm.hb C'.2.2.1 hd) rfl hn hcap hb hc hl had
  subst e1
  have hO : n0 ≤ h.size := by rw [← O.1]; exact O.2.1
  obtain ⟨s₂, o, S, r⟩ := K _ h.size cA (Nat.le_refl _) hO (keepE E1) (Arv.new A1 hn) x1 p e s vm0 m args below meth c T' locs C' X' rfl N (O.ext E1) (H.more E1 (Nat.le_refl _) x1.lt)
  exact ⟨s₂, o, S1 _ S, r⟩
theorem Runs.arrlen {a : Addr} {k : ClassId} {ty : FieldType} {z : Int32} {vs : List Value} {d : Value} (hd : Ins code pc .arraylength 1 pc') (A : Arv Z h a k ty z vs d) (K : Runs w l Z EL n0 own nm code ml ret R Q D h kc ks pc' ls (.int z :: rest)) : Runs w l Z EL n0 own nm code ml ret R Q D h kc ks pc ls (.ref a :: rest) := by
  obtain ⟨hd, rfl⟩ := hd
  obtain ⟨cl, A1, -, S1, q, -⟩ := A
  refine K.warm fun p e s m args below meth c T locs C X eT O => ⟨T, X, eT, fun t S => X.arraylength C.1 (by rw [eT]; exact A1.1) (State.isArrayOf_alike C.2.1.alike A1.2.1) (g := mkF m pc ls (.ref a :: rest)) rfl rfl (Jvm.hb C.2.2.1 hd) t ?_⟩
  rw [len_of S1 q]; exact S

theorem Runs.baload {a : Addr} {k : ClassId} {z j : Int32} {vs : List Value} {d v : Value} (hd : Ins code pc .baload 1 pc') (A : Arv Z h a k .byte z vs d) (hj : ¬ j < 0 ∧ j < z) (hv : vs.getD j.toNatClampNeg d = v) (K : Runs w l Z EL n0 own nm code ml ret R Q D h kc ks pc' ls (v :: rest)) : Runs w l Z EL n0 own nm code ml ret R Q D h kc ks pc ls (.int j :: .ref a :: rest) := by
  obtain ⟨hd, rfl⟩ := hd
  obtain ⟨cl, A1, -, S1, q, H1, -⟩ := A
  have hin := inb_of S1 hj
  exact K.warm fun p e s m args below meth c T locs C X eT O => ⟨T, X, eT, fun t S => X.baloadBytes C.1 (by rw [eT]; exact A1.1) (State.isArrayOf_alike C.2.1.alike A1.2.1) A1.2.2 hin (H1.at hin hv) (g := mkF m pc ls (.int j :: .ref a :: rest)) rfl rfl (Jvm.hb C.2.2.1 hd) t S⟩
theorem Runs.caload {a : Addr} {k : ClassId} {z j : Int32} {vs : List Value} {d v : Value} (hd : Ins code pc .caload 1 pc') (A : Arv Z h a k .char z vs d) (hj : ¬ j < 0 ∧ j < z) (hv : vs.getD j.toNatClampNeg d = v) (K : Runs w l Z EL n0 own nm code ml ret R Q D h kc ks pc' ls (v :: rest)) : Runs w l Z EL n0 own nm code ml ret R Q D h kc ks pc ls (.int j :: .ref a :: rest) := by
  obtain ⟨hd, rfl⟩ := hd
  obtain ⟨cl, A1, -, S1, q, H1, -⟩ := A
  have hin := inb_of S1 hj
  exact K.warm fun p e s m args below meth c T locs C X eT O => ⟨T, X, eT, fun t S => X.caload C.1 (by rw [eT]; exact A1.1) (State.isArrayOf_alike C.2.1.alike A1.2.1) A1.2.2 hin (H1.at hin hv) (g := mkF m pc ls (.int j :: .ref a :: rest)) rfl rfl (Jvm.hb C.2.2.1 hd) t S⟩
theorem Runs.iaload {a : Addr} {k : ClassId} {z j : Int32} {vs : List Value} {d v : Value} (hd : Ins code pc .iaload 1 pc') (A : Arv Z h a k .int z vs d) (hj : ¬ j < 0 ∧ j < z) (hv : vs.getD j.toNatClampNeg d = v) (K : Runs w l Z EL n0 own nm code ml ret R Q D h kc ks pc' ls (v :: rest)) : Runs w l Z EL n0 own nm code ml ret R Q D h kc ks pc ls (.int j :: .ref a :: rest) := by
  obtain ⟨hd, rfl⟩ := hd
  obtain ⟨cl, A1, -, S1, q, H1, -⟩ := A
  have hin := inb_of S1 hj
  exact K.warm fun p e s m args below meth c T locs C X eT O => ⟨T, X, eT, fun t S => X.iaload C.1 (by rw [eT]; exact A1.1) (State.isArrayOf_alike C.2.1.alike A1.2.1) A1.2.2 hin (H1.at hin hv) (g := mkF m pc ls (.int j :: .ref a :: rest)) rfl rfl (Jvm.hb C.2.2.1 hd) t S⟩
theorem Runs.aaload {a : Addr} {k : ClassId} {z j : Int32} {vs : List Value} {d v : Value} {ty : FieldType} (hd : Ins code pc .aaload 1 pc') (A : Arv Z h a k ty z vs d) (hty : ty.isReference = true) (hj : ¬ j < 0 ∧ j < z) (hv : vs.getD j.toNatClampNeg d = v) (K : Runs w l Z EL n0 own nm code ml ret R Q D h kc ks pc' ls (v :: rest)) : Runs w l Z EL n0 own nm code ml ret R Q D h kc ks pc ls (.int j :: .ref a :: rest) := by
  obtain ⟨hd, rfl⟩ := hd
  obtain ⟨cl, A1, -, S1, q, H1, -⟩ := A
  have hin := inb_of S1 hj
  exact K.warm fun p e s m args below meth c T locs C X eT O => ⟨T, X, eT, fun t S => X.aaload C.1 (by rw [eT]; exact A1.1) (State.isArrayOf_alike C.2.1.alike A1.2.1) hty A1.2.2 hin (H1.at hin hv) (g := mkF m pc ls (.int j :: .ref a :: rest)) rfl rfl (Jvm.hb C.2.2.1 hd) t S⟩
theorem Runs.bastore {a : Addr} {k : ClassId} {z j x y : Int32} {vs : List Value} {d : Value} {i : Nat} (hd : Ins code pc .bastore 1 pc') (A : Arv Z h a k .byte z vs d) (hj : ¬ j < 0 ∧ j < z) (hi : j.toNatClampNeg = i) (hil : i < vs.length) (hy : x.toInt8.toInt32 = y) (hg : n0 ≤ a) (hs : a ∈ D ∨ (.byte : FieldType) ≠ .byte) (K : ∀ h', Keep h h' [a] → Arv Z h' a k .byte z (vs.set i (.int y)) d → Runs w l Z EL n0 own nm code ml ret R Q D h' kc ks pc' ls rest) : Runs w l Z EL n0 own nm code ml ret R Q D h kc ks pc ls (.int x :: .int j :: .ref a :: rest) := by
  obtain ⟨hd, rfl⟩ := hd
  subst hy
  refine Runs.write (P := fun h' => Arv Z h' a k .byte z (vs.set i (.int (x.toInt8.toInt32))) d) (one_ge hg) (safeA A hs) K fun p e s m args below meth c T locs Cx X eT Ol N => ?_
  obtain ⟨cl, A1, q1, S1, q, H1, G1⟩ := A
  obtain ⟨T', h1, X', e1, W1, st1⟩ := RoadKit.stB X Cx.1 Cx.2.1 eT A1 (inb_of S1 hj) (g := mkF m pc ls (.int x :: .int j :: .ref a :: rest)) rfl rfl (Jvm.hb Cx.2.2.1 hd)
  subst e1
  exact ⟨T', _, X', Fr.snoc X' N hg, Keep.of_wr W1, Arv.set A1 q1 S1 q H1 G1 (fits_nar_byte x) W1 i hi hil, st1⟩
theorem Runs.castore {a : Addr} {k : ClassId} {z j x y : Int32} {vs : List Value} {d : Value} {i : Nat} (hd : Ins code pc .castore 1 pc') (A : Arv Z h a k .char z vs d) (hj : ¬ j < 0 ∧ j < z) (hi : j.toNatClampNeg = i) (hil : i < vs.length) (hy : nar .char x = y) (hg : n0 ≤ a) (hs : a ∈ D ∨ (.char : FieldType) ≠ .byte) (K : ∀ h', Keep h h' [a] → Arv Z h' a k .char z (vs.set i (.int y)) d → Runs w l Z EL n0 own nm code ml ret R Q D h' kc ks pc' ls rest) : Runs w l Z EL n0 own nm code ml ret R Q D h kc ks pc ls (.int x :: .int j :: .ref a :: rest) := by
  obtain ⟨hd, rfl⟩ := hd
  subst hy
  refine Runs.write (P := fun h' => Arv Z h' a k .char z (vs.set i (.int (nar .char x))) d) (one_ge hg) (safeA A hs) K fun p e s m args below meth c T locs Cx X eT Ol N => ?_
  obtain ⟨cl, A1, q1, S1, q, H1, G1⟩ := A
  obtain ⟨T', h1, X', e1, W1, st1⟩ := RoadKit.stC X Cx.1 Cx.2.1 eT A1 (inb_of S1 hj) (g := mkF m pc ls (.int x :: .int j :: .ref a :: rest)) rfl rfl (Jvm.hb Cx.2.2.1 hd)
  subst e1
  exact ⟨T', _, X', Fr.snoc X' N hg, Keep.of_wr W1, Arv.set A1 q1 S1 q H1 G1 (fits_nar_char x) W1 i hi hil, st1⟩
theorem Runs.iastore {a : Addr} {k : ClassId} {z j x y : Int32} {vs : List Value} {d : Value} {i : Nat} (hd : Ins code pc .iastore 1 pc') (A : Arv Z h a k .int z vs d) (hj : ¬ j < 0 ∧ j < z) (hi : j.toNatClampNeg = i) (hil : i < vs.length) (hy : x = y) (hg : n0 ≤ a) (hs : a ∈ D ∨ (.int : FieldType) ≠ .byte) (K : ∀ h', Keep h h' [a] → Arv Z h' a k .int z (vs.set i (.int y)) d → Runs w l Z EL n0 own nm code ml ret R Q D h' kc ks pc' ls rest) : Runs w l Z EL n0 own nm code ml ret R Q D h kc ks pc ls (.int x :: .int j :: .ref a :: rest) := by
  obtain ⟨hd, rfl⟩ := hd
  subst hy
  refine Runs.write (P := fun h' => Arv Z h' a k .int z (vs.set i (.int (x))) d) (one_ge hg) (safeA A hs) K fun p e s m args below meth c T locs Cx X eT Ol N => ?_
  obtain ⟨cl, A1, q1, S1, q, H1, G1⟩ := A
  obtain ⟨T', h1, X', e1, W1, st1⟩ := RoadKit.stI X Cx.1 Cx.2.1 eT A1 (inb_of S1 hj) (g := mkF m pc ls (.int x :: .int j :: .ref a :: rest)) rfl rfl (Jvm.hb Cx.2.2.1 hd)
  subst e1
  exact ⟨T', _, X', Fr.snoc X' N hg, Keep.of_wr W1, Arv.set A1 q1 S1 q H1 G1 (rfl) W1 i hi hil, st1⟩

theorem Runs.initO {idx W : Nat} {a : Addr} (hd : Ins code pc (.invokespecial idx) 3 pc') (w1 : (Cond.methodLink own idx Lib.objectInit).before a0 Z = true) (w2 : (Cond.instanceMethod Lib.objectInit).before a0 Z = true) (w3 : (Cond.code Lib.objectInit ⟨#[0xb1]⟩ 1 none).before a0 Z = true) (hls : ls.size = ml) (hf : 1 ≤ R.frames) (hW : (rest.map fun v => v.category).sum = W) (hl : W + 12 ≤ R.locals)
    (K : Runs w l Z EL n0 own nm code ml ret R Q D h kc ks pc' ls rest) : Runs w l Z EL n0 own nm code ml ret R Q D h kc ks pc ls (.ref a :: rest) := by
  obtain ⟨hd, rfl⟩ := hd
  exact K.warm fun p e s m args below meth c T locs C X eT O => RoadKit.initO X C.1 C.2.1 C.2.2.2.2.1 w1 w2 w3 eT (g := mkF m pc ls (.ref a :: rest)) rfl (by rw [C.2.2.2.1]; exact hls) rfl (Jvm.hb C.2.2.1 hd) hf (W := W) (by show 2 * 0 + _ ≤ _; omega) hl
end W2


/-! calls by a contract: no constant is interned (w = false) -/
section P
variable {l : Launch} {Z : State} {n0 : Nat} {own nm : String} {code : ByteArray} {ml : Nat} {ret : Option FieldType} {R : Room} {Q : Option Value → Heap → List Addr → Prop} {D : List Addr} {h : Heap} {kc ks pc pc' : Nat} {ls : Array Slot} {st rest : List Value} {a0 : Array Value}
theorem ch0 {vm : Vm} {h : Heap} : CHv Z [] vm h := fun p hp => by cases hp
theorem safe0 {vm : Vm} {h : Heap} {x : Addr} : Safe Z [] vm h x := fun ⟨p, hp, _⟩ => by cases hp
theorem chr0 {vm vm1 : Vm} {h h1 : Heap} (q : h.size ≤ h1.size) : CHr Z [] vm h vm1 h1 := ⟨ch0, q, fun _ ⟨p, hp, _⟩ => by cases hp⟩
theorem hid0 {s : State} {h : Heap} (q : s.heap.size ≤ h.size) (hD : ∀ x ∈ D, x < h.size) : Hid false Z [] D s s.vm h := ⟨rfl, ⟨#[], EW.nil⟩, chr0 q, fun x hx => ⟨hD x hx, safe0⟩⟩
/-- a callee's contract as what the call laws ask -/
theorem Con.back {p : Program} {e : Env} {s : State} {args : Array Value} {below : List Frame} {y : MethodName} {bytes : ByteArray} {maxL : Nat} {rt : Option FieldType} {rm : Room} {as' : Array Value} {Q' : Option Value → Heap → List Addr → Prop} {len W : Nat}
    (H : Con false l Z [] n0 y bytes maxL rt rm as' D h Q') (hO : Old Z n0 h) (hD : ∀ x ∈ D, x < h.size) (hZ : Z.Warmed39 s.vm) (wc : (Cond.code y bytes maxL rt).before a0 Z = true) (wz : (Cond.initialized y.cls).before a0 Z = true) (hf : rm.frames + 1 ≤ R.frames) (hl : W + (maxL + 11) + rm.locals ≤ R.locals) :
    Back l R p e below s args y len W (fun A a => a = as' ∧ A.U.heap = h ∧ A.cells + rm.cells ≤ R.cells ∧ A.slots + rm.slots ≤ R.slots)
      (fun A _ v B => ∃ L D', Q' v B.U.heap D' ∧ Old Z n0 B.U.heap ∧ Fr n0 L ∧ h.size ≤ B.U.heap.size ∧ (∀ x ∈ D', x < B.U.heap.size) ∧ B.locs = A.locs ++ L ∧ B.cells = A.cells + rm.cells ∧ B.slots = A.slots + rm.slots) :=
  Back.of_free (bytes := bytes) (maxL := maxL) (ret := rt) (E := fun _ first o t L k n => k = rm.cells ∧ n = rm.slots ∧ ∃ v D', o = .returned v ∧ Q' v t.heap D' ∧ Old Z n0 t.heap ∧ Fr n0 L ∧ first.heap.size ≤ t.heap.size ∧ ∀ x ∈ D', x < t.heap.size) (H []) hf hl
    (fun m meth c A a Y hp => have hU : Z.Warmed39 A.U.vm := wtrans hZ Y.warmed
      ⟨by show (Cond.and _ .tt).before a A.U = true; rw [Cond.before_and, mv hU wc]; rfl, mv hU wc, mv hU wz, hp.2.2.1, hp.2.2.2⟩)
    (fun m meth c A a g mk Y hp => ⟨hp.1, wtrans hZ Y.warmed, hp.2.1, hO, ⟨#[], EW.nil⟩, ch0, fun x hx => ⟨hD x hx, safe0⟩⟩) (fun _ _ _ _ _ _ _ _ _ => trivial)
    (fun _ _ _ _ ⟨v, L, D', h1, h2, h3, h4, h5, h6⟩ => ⟨L, _, _, h6, rfl, rfl, v, D', h1, h2, h3, h4, h5.1.2.1, fun x hx => (h5.2 x hx).1⟩)
    (fun m meth c A a g mk v t L k n Y hp _ _ ⟨e1, e2, v', D', e3, e4, e5, e6, e7, e8⟩ => by
      cases e3; subst e1 e2
      exact ⟨L, D', e4, e5, e6, by rw [← hp.2.1]; exact e7, e8, rfl, rfl, rfl⟩)
/-- the walk goes on behind a call -/
theorem goOn {p : Program} {e : Env} {s : State} {m : MethodId} {args : Array Value} {below : List Frame} {meth : Method} {c : Code} {T : State} {locs : List Loc} {Q' : Option Value → Heap → List Addr → Prop} {kc' ks' : Nat}
    (K : ∀ v h' D', Q' v h' D' → h.size ≤ h'.size → Runs false l Z [] n0 own nm code ml ret R Q (D' ++ D) h' kc' ks' pc' ls (v.toList ++ rest))
    (C : Ctx p s m meth c Z own nm code ml ret) (hs : s.heap.size ≤ h.size) (hD : ∀ x ∈ D, x < h.size) (N : Fr n0 locs) {v : Option Value} {B : Pt} (X : Stand p l e R s m args below meth c B.U B.locs B.cells B.slots)
    (P : ∃ L D', Q' v B.U.heap D' ∧ Old Z n0 B.U.heap ∧ Fr n0 L ∧ h.size ≤ B.U.heap.size ∧ (∀ x ∈ D', x < B.U.heap.size) ∧ B.locs = locs ++ L ∧ B.cells = kc' ∧ B.slots = ks')
    (S : ∀ target, Steps p.tables e below (B.U.setTop (mkF m pc' ls (v.toList ++ rest))) target → Steps p.tables e below (T.setTop (mkF m pc ls st)) target) :
    ∃ s₂ o, Steps p.tables e below (T.setTop (mkF m pc ls st)) s₂ ∧ s₂.status = .running ∧ Ended s₂ below o ∧ Done false Z [] n0 R Q s o s₂ := by
  obtain ⟨L, D', h1, h2, h3, h4, h5, h6, h7, h8⟩ := P
  obtain ⟨U, Ls, kk, nn⟩ := B
  dsimp only [Pt.U, Pt.locs, Pt.cells, Pt.slots] at *
  subst h6 h7 h8
  obtain ⟨s₂, o, S₂, r⟩ := K v U.heap D' h1 h4 p e s s.vm m args below meth c U _ C X rfl (N.app h3) h2 (hid0 (Nat.le_trans hs h4) (fun x hx => (List.mem_append.mp hx).elim (h5 x) (fun q => Nat.lt_of_lt_of_le (hD x q) h4)))
  exact ⟨s₂, o, S _ S₂, r⟩
theorem Runs.callS {y : MethodName} {index : Nat} {bytes : ByteArray} {maxL : Nat} {rt : Option FieldType} {rm : Room} {argsL : List Value} {Q' : Option Value → Heap → List Addr → Prop} {W : Nat} {ps : List FieldType} {rr : Option FieldType}
    (hd : Ins code pc (.invokestatic index) 3 pc') (w1 : (Cond.methodLink own index y).before a0 Z = true) (w2 : (Cond.static y).before a0 Z = true) (w3 : (Cond.initialized y.cls).before a0 Z = true) (w4 : (Cond.code y bytes maxL rt).before a0 Z = true) (hy : y.cls ≠ "java/lang/invoke/MethodHandle" ∧ y.cls ≠ "java/lang/invoke/VarHandle")
    (pd : parseMethodDescriptor y.desc = some ⟨ps, rr⟩) (hn : argsL.length = ps.length) (hls : ls.size = ml) (hst : st = argsL.reverse ++ rest) (hW : (rest.map fun v => v.category).sum = W) (hf : rm.frames + 1 ≤ R.frames) (hl : W + (maxL + 11) + rm.locals ≤ R.locals) (hc : kc + rm.cells ≤ R.cells) (hs : ks + rm.slots ≤ R.slots)
    {D0 : List Addr} (hD0 : ∀ x ∈ D0, x ∈ D) (H : Con false l Z [] n0 y bytes maxL rt rm argsL.toArray D0 h Q')
    (K : ∀ v h' D', Q' v h' D' → h.size ≤ h'.size → Runs false l Z [] n0 own nm code ml ret R Q (D' ++ D) h' (kc + rm.cells) (ks + rm.slots) pc' ls (v.toList ++ rest)) : Runs false l Z [] n0 own nm code ml ret R Q D h kc ks pc ls st := by
  obtain ⟨hd, rfl⟩ := hd
  intro p e s vm0 m args below meth c T locs C X eT N O Hd
  obtain ⟨e1, -, H3, H4⟩ := Hd
  have e1 : vm0 = s.vm := e1
  subst e1
  have hD : ∀ x ∈ D, x < h.size := fun x hx => (H4 x hx).1
  have C' : Ctx p s m meth c Z own nm code ml ret := C
  have X' : Stand p l e R s m args below meth c T locs kc ks := X
  obtain ⟨v, vm₁, B, -, XB, P, S⟩ := Jvm.LawKit.callS X' C'.1 (y := y) C'.2.2.2.2.1 (mvT C'.2.1 w1) (mvT C'.2.1 w2) (mvT C'.2.1 w3) (mvT C'.2.1 w4) hy (H.back (W := W) O (fun x hx => hD x (hD0 x hx)) C'.2.1 w4 w3 hf hl) (g := mkF m pc ls st) rfl (by rw [C'.2.2.2.1]; exact hls) (argsL := argsL) (rest := rest) (lenOf pd hn) hst (by show 2 * 0 + _ ≤ _; omega) (Jvm.hb C'.2.2.1 hd) (fun _ _ => ⟨rfl, eT, hc, hs⟩)
  exact goOn K C' H3.2.1 hD N XB P S
theorem Runs.callV {y z : MethodName} {index : Nat} {CC : String} {bytes : ByteArray} {maxL : Nat} {rt : Option FieldType} {rm : Room} {b : Addr} {argsL : List Value} {Q' : Option Value → Heap → List Addr → Prop} {W : Nat} {ps : List FieldType} {rr : Option FieldType}
    (hd : Ins code pc (.invokevirtual index) 3 pc') (w1 : (Cond.methodLink own index y).before a0 Z = true) (w2 : (Cond.declares y).before a0 Z = true) (nf : ∀ s : State, Z.Warmed39 s.vm → NotFace s y) (w3 : (Cond.selects CC y z).before a0 Z = true) (w4 : (Cond.instanceMethod z).before a0 Z = true) (w5 : (Cond.code z bytes maxL rt).before a0 Z = true) (w6 : (Cond.initialized z.cls).before a0 Z = true) (hy : y.cls ≠ "java/lang/invoke/MethodHandle" ∧ y.cls ≠ "java/lang/invoke/VarHandle")
    (E : Exa Z h b CC) (pd : parseMethodDescriptor y.desc = some ⟨ps, rr⟩) (hn : argsL.length = ps.length) (hls : ls.size = ml) (hst : st = argsL.reverse ++ .ref b :: rest) (hW : (rest.map fun v => v.category).sum = W) (hf : rm.frames + 1 ≤ R.frames) (hl : W + (maxL + 11) + rm.locals ≤ R.locals) (hc : kc + rm.cells ≤ R.cells) (hs : ks + rm.slots ≤ R.slots)
    {D0 : List Addr} (hD0 : ∀ x ∈ D0, x ∈ D) (H : Con false l Z [] n0 z bytes maxL rt rm (.ref b :: argsL).toArray D0 h Q')
    (K : ∀ v h' D', Q' v h' D' → h.size ≤ h'.size → Runs false l Z [] n0 own nm code ml ret R Q (D' ++ D) h' (kc + rm.cells) (ks + rm.slots) pc' ls (v.toList ++ rest)) : Runs false l Z [] n0 own nm code ml ret R Q D h kc ks pc ls st := by
  obtain ⟨hd, rfl⟩ := hd
  intro p e s vm0 m args below meth c T locs C X eT N O Hd
  obtain ⟨e1, -, H3, H4⟩ := Hd
  have e1 : vm0 = s.vm := e1
  subst e1
  have hD : ∀ x ∈ D, x < h.size := fun x hx => (H4 x hx).1
  have C' : Ctx p s m meth c Z own nm code ml ret := C
  have X' : Stand p l e R s m args below meth c T locs kc ks := X
  obtain ⟨cB, kB, q1, -, q3⟩ := isOf C'.2.1 eT E
  obtain ⟨v, vm₁, B, -, XB, P, S⟩ := X'.virtualBack C'.1 (y := y) (z := z) C'.2.2.2.2.1 (mvT C'.2.1 w1) (mvT C'.2.1 w2) (nf s C'.2.1) (mvT C'.2.1 w3) (mvT C'.2.1 w4) hy (H.back (W := W) O (fun x hx => hD x (hD0 x hx)) C'.2.1 w5 w6 hf hl) q1 q3 (g := mkF m pc ls st) rfl (by rw [C'.2.2.2.1]; exact hls) (Steps.refl _) (argsL := argsL) (rest := rest) (lenOf pd hn) hst (by show 2 * 0 + _ ≤ _; omega) (Jvm.hb C'.2.2.1 hd) (fun _ _ => ⟨rfl, eT, hc, hs⟩)
  exact goOn K C' H3.2.1 hD N XB P (fun t k => S.trans k)
theorem Runs.callC {y : MethodName} {index : Nat} {bytes : ByteArray} {maxL : Nat} {rm : Room} {b : Addr} {argsL : List Value} {Q' : Option Value → Heap → List Addr → Prop} {W : Nat} {ps : List FieldType} {rr : Option FieldType}
    (hd : Ins code pc (.invokespecial index) 3 pc') (hi : y.name = "<init>") (w1 : (Cond.methodLink own index y).before a0 Z = true) (w2 : (Cond.instanceMethod y).before a0 Z = true) (w3 : (Cond.code y bytes maxL none).before a0 Z = true) (w4 : (Cond.initialized y.cls).before a0 Z = true) (hy : y.cls ≠ "java/lang/invoke/MethodHandle" ∧ y.cls ≠ "java/lang/invoke/VarHandle")
    (pd : parseMethodDescriptor y.desc = some ⟨ps, rr⟩) (hn : argsL.length = ps.length) (hls : ls.size = ml) (hst : st = argsL.reverse ++ .ref b :: rest) (hW : (rest.map fun v => v.category).sum = W) (hf : rm.frames + 1 ≤ R.frames) (hl : W + (maxL + 11) + rm.locals ≤ R.locals) (hc : kc + rm.cells ≤ R.cells) (hs : ks + rm.slots ≤ R.slots)
    {D0 : List Addr} (hD0 : ∀ x ∈ D0, x ∈ D) (H : Con false l Z [] n0 y bytes maxL none rm (.ref b :: argsL).toArray D0 h Q')
    (K : ∀ v h' D', Q' v h' D' → h.size ≤ h'.size → Runs false l Z [] n0 own nm code ml ret R Q (D' ++ D) h' (kc + rm.cells) (ks + rm.slots) pc' ls (v.toList ++ rest)) : Runs false l Z [] n0 own nm code ml ret R Q D h kc ks pc ls st := by
  obtain ⟨hd, rfl⟩ := hd
  intro p e s vm0 m args below meth c T locs C X eT N O Hd
  obtain ⟨e1, -, H3, H4⟩ := Hd
  have e1 : vm0 = s.vm := e1
  subst e1
  have hD : ∀ x ∈ D, x < h.size := fun x hx => (H4 x hx).1
  have C' : Ctx p s m meth c Z own nm code ml ret := C
  have X' : Stand p l e R s m args below meth c T locs kc ks := X
  obtain ⟨v, vm₁, B, -, XB, P, S⟩ := X'.specialBack C'.1 (y := y) hi C'.2.2.2.2.1 (mvT C'.2.1 w1) (mvT C'.2.1 w2) (mvT C'.2.1 w3) hy (H.back (W := W) O (fun x hx => hD x (hD0 x hx)) C'.2.1 w3 w4 hf hl) (g := mkF m pc ls st) rfl (by rw [C'.2.2.2.1]; exact hls) (Steps.refl _) (a := b) (argsL := argsL) (rest := rest) (lenOf pd hn) hst (by show 2 * 0 + _ ≤ _; omega) (Jvm.hb C'.2.2.1 hd) (fun _ _ => ⟨rfl, eT, hc, hs⟩)
  exact goOn K C' H3.2.1 hD N XB P (fun t k => S.trans k)
end P


/-! the wide walk (w = true): constants of strings may come to be interned -/
section Wd
variable {l : Launch} {Z : State} {EL : List (String × Nat)} {n0 : Nat} {own nm : String} {code : ByteArray} {ml : Nat} {ret : Option FieldType} {R : Room} {Q : Option Value → Heap → List Addr → Prop} {D : List Addr} {h : Heap} {kc ks pc pc' : Nat} {ls : Array Slot} {st rest : List Value} {a0 : Array Value}
theorem Ctx.later {p : Program} {s : State} {vm0 vm1 : Vm} {n : Nat} {m : MethodId} {meth : Method} {c : Code} (C : Ctx p (s.setVm vm0) m meth c Z own nm code ml ret) (h1 : (s.setVm vm0).Since vm1 n) : Ctx p (s.setVm vm1) m meth c Z own nm code ml ret :=
  ⟨C.1, State.Warmed39.trans (t := s.setVm vm0) C.2.1 h1.1, C.2.2.1, C.2.2.2.1, by rw [show (s.setVm vm1).vm = vm1 from rfl, h1.1.alike.findClass]; exact C.2.2.2.2.1, C.2.2.2.2.2⟩
theorem Con.backW {p : Program} {e : Env} {s : State} {vm0 : Vm} {args : Array Value} {below : List Frame} {y : MethodName} {bytes : ByteArray} {maxL : Nat} {rt : Option FieldType} {rm : Room} {as' : Array Value} {D0 : List Addr} {Q' : Option Value → Heap → List Addr → Prop} {len W : Nat}
    (H : Con true l Z EL n0 y bytes maxL rt rm as' D0 h Q') (hO : Old Z n0 h) (hE : ∃ a0, EW Z a0 EL) (hC : CHv Z EL vm0 h) (hD : ∀ x ∈ D0, x < h.size ∧ Safe Z EL vm0 h x) (hZ : Z.Warmed39 vm0) (wc : (Cond.code y bytes maxL rt).before a0 Z = true) (wz : (Cond.initialized y.cls).before a0 Z = true) (hf : rm.frames + 1 ≤ R.frames) (hl : W + (maxL + 11) + rm.locals ≤ R.locals) :
    BackS l R p e below (s.setVm vm0) args y len W (fun A a => a = as' ∧ A.U.heap = h ∧ A.cells + rm.cells ≤ R.cells ∧ A.slots + rm.slots ≤ R.slots)
      (fun A _ v B => ∃ L D', Q' v B.U.heap D' ∧ Old Z n0 B.U.heap ∧ Fr n0 L ∧ CHr Z EL vm0 h B.U.vm B.U.heap ∧ (∀ x ∈ D', x < B.U.heap.size ∧ Safe Z EL B.U.vm B.U.heap x) ∧ B.locs = A.locs ++ L ∧ B.cells = A.cells + rm.cells ∧ B.slots = A.slots + rm.slots) := by
  obtain ⟨a1, hE1⟩ := id hE
  exact BackS.of_freeW (bytes := bytes) (maxL := maxL) (ret := rt) (E := fun _ first o t L k n => k = rm.cells ∧ n = rm.slots ∧ ∃ v D', o = .returned v ∧ Q' v t.heap D' ∧ Old Z n0 t.heap ∧ Fr n0 L ∧ CHr Z EL first.vm first.heap t.vm t.heap ∧ ∀ x ∈ D', x < t.heap.size ∧ Safe Z EL t.vm t.heap x) (H []) hf hl
    (fun m meth c A a Y hp => have hU : Z.Warmed39 A.U.vm := wtrans (s := s.setVm vm0) hZ Y.warmed
      ⟨by show (Cond.and _ .tt).before a A.U = true; rw [Cond.before_and, mv hU wc]; rfl, mv hU wc, mv hU wz, hp.2.2.1, hp.2.2.2⟩)
    (fun m meth c A a g mk Y hp => ⟨hp.1, wtrans (s := s.setVm vm0) hZ Y.warmed, hp.2.1, hO, hE, (CHv.at Y hZ hE1 hC).1, fun x hx => ⟨(hD x hx).1, (CHv.at Y hZ hE1 hC).safe (hD x hx).1 (hD x hx).2⟩⟩) (fun _ _ _ _ _ _ _ _ _ => trivial)
    (fun _ _ _ _ ⟨v, L, D', h1, h2, h3, h4, h5, h6⟩ => ⟨L, _, _, h6, rfl, rfl, v, D', h1, h2, h3, h4, h5.1, h5.2⟩)
    (fun m meth c A a g mk v t L k n Y hp _ _ ⟨e1, e2, v', D', e3, e4, e5, e6, e7, e8⟩ => by
      cases e3; subst e1 e2
      refine ⟨L, D', e4, e5, e6, (CHv.at Y hZ hE1 hC).trans ?_, e8, rfl, rfl, rfl⟩
      rw [← hp.2.1]; exact e7)
theorem goOnW {p : Program} {e : Env} {s : State} {vm0 : Vm} {m : MethodId} {args : Array Value} {below : List Frame} {meth : Method} {c : Code} {T : State} {locs : List Loc} {Q' : Option Value → Heap → List Addr → Prop} {kc' ks' : Nat}
    (K : ∀ v h' D', Q' v h' D' → h.size ≤ h'.size → Runs true l Z EL n0 own nm code ml ret R Q (D' ++ D) h' kc' ks' pc' ls (v.toList ++ rest))
    (C : Ctx p (s.setVm vm0) m meth c Z own nm code ml ret) (H : Hid true Z EL D s vm0 h) (N : Fr n0 locs) {v : Option Value} {B : Pt} (X : Stand p l e R ((s.setVm vm0).setVm B.U.vm) m args below meth c B.U B.locs B.cells B.slots)
    (hS : (s.setVm vm0).Since B.U.vm B.U.heap.size)
    (P : ∃ L D', Q' v B.U.heap D' ∧ Old Z n0 B.U.heap ∧ Fr n0 L ∧ CHr Z EL vm0 h B.U.vm B.U.heap ∧ (∀ x ∈ D', x < B.U.heap.size ∧ Safe Z EL B.U.vm B.U.heap x) ∧ B.locs = locs ++ L ∧ B.cells = kc' ∧ B.slots = ks')
    (S : Steps p.tables e below (T.setTop (mkF m pc ls st)) (B.U.setTop (mkF m pc' ls (v.toList ++ rest)))) :
    ∃ s₂ o, Steps p.tables e below (T.setTop (mkF m pc ls st)) s₂ ∧ s₂.status = .running ∧ Ended s₂ below o ∧ Done true Z EL n0 R Q s o s₂ := by
  obtain ⟨L, D', h1, h2, h3, h4, h5, h6, h7, h8⟩ := P
  obtain ⟨U, Ls, kk, nn⟩ := B
  dsimp only [Pt.U, Pt.locs, Pt.cells, Pt.slots] at *
  subst h6 h7 h8
  obtain ⟨H1, H2, H3, H4⟩ := H
  obtain ⟨k0, g1, g2⟩ : ∃ k0, s.Since vm0 k0 ∧ k0 ≤ h.size := H1
  have hsz : h.size ≤ U.heap.size := h4.2.1
  have C1 : Ctx p (s.setVm U.vm) m meth c Z own nm code ml ret := C.later hS
  have X1 : Stand p l e R (s.setVm U.vm) m args below meth c U (locs ++ L) kk nn := X
  have HN : Hid true Z EL (D' ++ D) s U.vm U.heap := ⟨⟨U.heap.size, g1.trans hS (Nat.le_trans g2 hsz), Nat.le_refl _⟩, H2, H3.trans h4, fun x hx => by
    rcases List.mem_append.mp hx with q | q
    · exact h5 x q
    · exact ⟨Nat.lt_of_lt_of_le (H4 x q).1 hsz, h4.safe (H4 x q).1 (H4 x q).2⟩⟩
  obtain ⟨s₂, o, S₂, r⟩ := K v U.heap D' h1 hsz p e s U.vm m args below meth c U _ C1 X1 rfl (N.app h3) h2 HN
  exact ⟨s₂, o, S.trans S₂, r⟩
theorem Runs.callSW {y : MethodName} {index : Nat} {bytes : ByteArray} {maxL : Nat} {rt : Option FieldType} {rm : Room} {argsL : List Value} {Q' : Option Value → Heap → List Addr → Prop} {W : Nat} {ps : List FieldType} {rr : Option FieldType}
    (hd : Ins code pc (.invokestatic index) 3 pc') (w1 : (Cond.methodLink own index y).before a0 Z = true) (w2 : (Cond.static y).before a0 Z = true) (w3 : (Cond.initialized y.cls).before a0 Z = true) (w4 : (Cond.code y bytes maxL rt).before a0 Z = true) (hy : y.cls ≠ "java/lang/invoke/MethodHandle" ∧ y.cls ≠ "java/lang/invoke/VarHandle")
    (pd : parseMethodDescriptor y.desc = some ⟨ps, rr⟩) (hn : argsL.length = ps.length) (hls : ls.size = ml) (hst : st = argsL.reverse ++ rest) (hW : (rest.map fun v => v.category).sum = W) (hf : rm.frames + 1 ≤ R.frames) (hl : W + (maxL + 11) + rm.locals ≤ R.locals) (hc : kc + rm.cells ≤ R.cells) (hs : ks + rm.slots ≤ R.slots)
    {D0 : List Addr} (hD0 : ∀ x ∈ D0, x ∈ D) (H : Con true l Z EL n0 y bytes maxL rt rm argsL.toArray D0 h Q')
    (K : ∀ v h' D', Q' v h' D' → h.size ≤ h'.size → Runs true l Z EL n0 own nm code ml ret R Q (D' ++ D) h' (kc + rm.cells) (ks + rm.slots) pc' ls (v.toList ++ rest)) : Runs true l Z EL n0 own nm code ml ret R Q D h kc ks pc ls st := by
  obtain ⟨hd, rfl⟩ := hd
  intro p e s vm0 m args below meth c T locs C X eT N O Hd
  obtain ⟨v, vm₁, B, -, XB, hS, -, P, S⟩ := callSS X C.1 (y := y) C.2.2.2.2.1 (mvT C.2.1 w1) (mvT C.2.1 w2) (mvT C.2.1 w3) (mvT C.2.1 w4) hy (H.backW (W := W) O Hd.2.1 Hd.2.2.1.1 (fun x hx => Hd.2.2.2 x (hD0 x hx)) C.2.1 w4 w3 hf hl) (g := mkF m pc ls st) rfl (by rw [C.2.2.2.1]; exact hls) (argsL := argsL) (rest := rest) (lenOf pd hn) hst (by show 2 * 0 + _ ≤ _; omega) (Jvm.hb C.2.2.1 hd) (fun _ _ => ⟨rfl, eT, hc, hs⟩)
  exact goOnW K C Hd N XB hS P S
theorem Runs.callVW {y z : MethodName} {index : Nat} {CC : String} {bytes : ByteArray} {maxL : Nat} {rt : Option FieldType} {rm : Room} {b : Addr} {argsL : List Value} {Q' : Option Value → Heap → List Addr → Prop} {W : Nat} {ps : List FieldType} {rr : Option FieldType}
    (hd : Ins code pc (.invokevirtual index) 3 pc') (w1 : (Cond.methodLink own index y).before a0 Z = true) (w2 : (Cond.declares y).before a0 Z = true) (nf : ∀ s : State, Z.Warmed39 s.vm → NotFace s y) (w3 : (Cond.selects CC y z).before a0 Z = true) (w4 : (Cond.instanceMethod z).before a0 Z = true) (w5 : (Cond.code z bytes maxL rt).before a0 Z = true) (w6 : (Cond.initialized z.cls).before a0 Z = true) (hy : y.cls ≠ "java/lang/invoke/MethodHandle" ∧ y.cls ≠ "java/lang/invoke/VarHandle")
    (E : Exa Z h b CC) (pd : parseMethodDescriptor y.desc = some ⟨ps, rr⟩) (hn : argsL.length = ps.length) (hls : ls.size = ml) (hst : st = argsL.reverse ++ .ref b :: rest) (hW : (rest.map fun v => v.category).sum = W) (hf : rm.frames + 1 ≤ R.frames) (hl : W + (maxL + 11) + rm.locals ≤ R.locals) (hc : kc + rm.cells ≤ R.cells) (hs : ks + rm.slots ≤ R.slots)
    {D0 : List Addr} (hD0 : ∀ x ∈ D0, x ∈ D) (H : Con true l Z EL n0 z bytes maxL rt rm (.ref b :: argsL).toArray D0 h Q')
    (K : ∀ v h' D', Q' v h' D' → h.size ≤ h'.size → Runs true l Z EL n0 own nm code ml ret R Q (D' ++ D) h' (kc + rm.cells) (ks + rm.slots) pc' ls (v.toList ++ rest)) : Runs true l Z EL n0 own nm code ml ret R Q D h kc ks pc ls st := by
  obtain ⟨hd, rfl⟩ := hd
  intro p e s vm0 m args below meth c T locs C X eT N O Hd
  obtain ⟨cB, kB, q1, -, q3⟩ := isOf C.2.1 eT E
  obtain ⟨v, vm₁, B, -, XB, hS, -, P, S⟩ := X.virtualBackS C.1 (y := y) (z := z) C.2.2.2.2.1 (mvT C.2.1 w1) (mvT C.2.1 w2) (nf _ C.2.1) (mvT C.2.1 w3) (mvT C.2.1 w4) hy (H.backW (W := W) O Hd.2.1 Hd.2.2.1.1 (fun x hx => Hd.2.2.2 x (hD0 x hx)) C.2.1 w5 w6 hf hl) q1 q3 (g := mkF m pc ls st) rfl (by rw [C.2.2.2.1]; exact hls) (Steps.refl _) (argsL := argsL) (rest := rest) (lenOf pd hn) hst (by show 2 * 0 + _ ≤ _; omega) (Jvm.hb C.2.2.1 hd) (fun _ _ => ⟨rfl, eT, hc, hs⟩)
  exact goOnW K C Hd N XB hS P S
theorem Runs.callCW {y : MethodName} {index : Nat} {bytes : ByteArray} {maxL : Nat} {rm : Room} {b : Addr} {argsL : List Value} {Q' : Option Value → Heap → List Addr → Prop} {W : Nat} {ps : List FieldType} {rr : Option FieldType}
    (hd : Ins code pc (.invokespecial index) 3 pc') (hi : y.name = "<init>") (w1 : (Cond.methodLink own index y).before a0 Z = true) (w2 : (Cond.instanceMethod y).before a0 Z = true) (w3 : (Cond.code y bytes maxL none).before a0 Z = true) (w4 : (Cond.initialized y.cls).before a0 Z = true) (hy : y.cls ≠ "java/lang/invoke/MethodHandle" ∧ y.cls ≠ "java/lang/invoke/VarHandle")
    (pd : parseMethodDescriptor y.desc = some ⟨ps, rr⟩) (hn : argsL.length = ps.length) (hls : ls.size = ml) (hst : st = argsL.reverse ++ .ref b :: rest) (hW : (rest.map fun v => v.category).sum = W) (hf : rm.frames + 1 ≤ R.frames) (hl : W + (maxL + 11) + rm.locals ≤ R.locals) (hc : kc + rm.cells ≤ R.cells) (hs : ks + rm.slots ≤ R.slots)
    {D0 : List Addr} (hD0 : ∀ x ∈ D0, x ∈ D) (H : Con true l Z EL n0 y bytes maxL none rm (.ref b :: argsL).toArray D0 h Q')
    (K : ∀ v h' D', Q' v h' D' → h.size ≤ h'.size → Runs true l Z EL n0 own nm code ml ret R Q (D' ++ D) h' (kc + rm.cells) (ks + rm.slots) pc' ls (v.toList ++ rest)) : Runs true l Z EL n0 own nm code ml ret R Q D h kc ks pc ls st := by
  obtain ⟨hd, rfl⟩ := hd
  intro p e s vm0 m args below meth c T locs C X eT N O Hd
  obtain ⟨v, vm₁, B, -, XB, hS, -, P, S⟩ := X.specialBackS C.1 (y := y) hi C.2.2.2.2.1 (mvT C.2.1 w1) (mvT C.2.1 w2) (mvT C.2.1 w3) hy (H.backW (W := W) O Hd.2.1 Hd.2.2.1.1 (fun x hx => Hd.2.2.2 x (hD0 x hx)) C.2.1 w3 w4 hf hl) (g := mkF m pc ls st) rfl (by rw [C.2.2.2.1]; exact hls) (Steps.refl _) (a := b) (argsL := argsL) (rest := rest) (lenOf pd hn) hst (by show 2 * 0 + _ ≤ _; omega) (Jvm.hb C.2.2.1 hd) (fun _ _ => ⟨rfl, eT, hc, hs⟩)
  exact goOnW K C Hd N XB hS P S
/-- ldc of a String constant: a String, no more is said -/
theorem Runs.ldcS {text : String} {index n : Nat} (hd : Ins code pc (.ldc index) 2 pc') (wl : (Cond.stringLink own index text).before a0 Z = true) (wS : ∀ a ∈ Bundle.stringAtoms, a.before a0 Z = true) (hEL : EW Z a0 EL) (hn : 4 * text.toList.length ≤ n) (hbig : n ≤ 536870912) (hc : kc + 2 ≤ R.cells) (hl : ks + (n + 4) ≤ R.slots)
    (K : ∀ h' a, Keep h h' [] → Runs true l Z EL n0 own nm code ml ret R Q D h' (kc + 2) (ks + (n + 4)) pc' ls (.ref a :: st)) : Runs true l Z EL n0 own nm code ml ret R Q D h kc ks pc ls st := by
  obtain ⟨hd, rfl⟩ := hd
  intro p e s vm0 m args below meth c T locs C X eT N O Hd
  obtain ⟨H1, H2, H3, H4⟩ := Hd
  obtain ⟨k0, g1, g2⟩ : ∃ k0, s.Since vm0 k0 ∧ k0 ≤ h.size := H1
  obtain ⟨a, T', h', k1, X', e', E', S1, hk1, W1, F1, C1, -, st1⟩ := ldcOH X C.1 C.2.1 C.2.2.2.2.1 wl wS eT g1 g2 hEL H3.1 (g := mkF m pc ls st) rfl (Jvm.hb C.2.2.1 hd) hn hbig hc hl
  subst e'
  obtain ⟨s₂, o, S, r⟩ := K _ a (keepE E') p e s T'.vm m args below meth c T' locs ⟨C.1, W1, C.2.2.1, C.2.2.2.1, F1, C.2.2.2.2.2⟩ X' rfl N (O.ext E') ⟨⟨k1, S1, hk1⟩, H2, H3.trans C1, fun x hx => ⟨Nat.lt_of_lt_of_le (H4 x hx).1 E'.1, C1.safe (H4 x hx).1 (H4 x hx).2⟩⟩
  exact ⟨s₂, o, st1 _ S, r⟩
/-- ldc of a String constant that is held: its text -/
theorem Runs.ldcT {text : String} {index n : Nat} {vs : List Value} {z : Int32} (hd : Ins code pc (.ldc index) 2 pc') (wl : (Cond.stringLink own index text).before a0 Z = true) (wS : ∀ a ∈ Bundle.stringAtoms, a.before a0 Z = true) (hEL : EW Z a0 EL) (hmem : (own, index) ∈ EL)
    (ht : (∀ c ∈ text.toList, c.toNat < 256) ∧ text.toList.map (fun c => Value.int (Jvm.Lit.byteI c.toNat.toUInt16)) = vs) (hz : ¬ z < 0) (hzl : z.toNatClampNeg = vs.length) (hn : 4 * text.toList.length ≤ n) (hbig : n ≤ 536870912) (hc : kc + 2 ≤ R.cells) (hl : ks + (n + 4) ≤ R.slots)
    (K : ∀ h' a b k, Keep h h' [] → Obj Z h' a "java/lang/String" [("java/lang/String", "value", "[B", .ref b), ("java/lang/String", "coder", "B", .int 0)] → Arv Z h' b k .byte z vs (.int 0) → (∀ x ∈ D, x ≠ a ∧ x ≠ b) → Runs true l Z EL n0 own nm code ml ret R Q D h' (kc + 2) (ks + (n + 4)) pc' ls (.ref a :: st)) : Runs true l Z EL n0 own nm code ml ret R Q D h kc ks pc ls st := by
  obtain ⟨hd, rfl⟩ := hd
  intro p e s vm0 m args below meth c T locs C X eT N O Hd
  obtain ⟨H1, H2, H3, H4⟩ := Hd
  obtain ⟨k0, g1, g2⟩ : ∃ k0, s.Since vm0 k0 ∧ k0 ≤ h.size := H1
  obtain ⟨a, T', h', k1, b, k, X', e', E', S1, hk1, W1, F1, x1, x2, x3, x4, -, -, C1, -, D1, st1⟩ := ldcCH X C.1 C.2.1 C.2.2.2.2.1 wl wS eT g1 g2 hEL hmem H3.1 ht hz hzl (g := mkF m pc ls st) rfl (Jvm.hb C.2.2.1 hd) hn hbig hc hl
  subst e'
  have hD : ∀ x ∈ D, x < T'.heap.size ∧ Safe Z EL T'.vm T'.heap x := fun x hx => ⟨Nat.lt_of_lt_of_le (H4 x hx).1 E'.1, C1.safe (H4 x hx).1 (H4 x hx).2⟩
  obtain ⟨s₂, o, S, r⟩ := K _ a b k (keepE E') ⟨x1, fun f hf => by simp only [List.mem_cons, List.not_mem_nil, or_false] at hf; rcases hf with rfl | rfl; exact x3; exact x2⟩ x4 (fun x hx => D1 x (hD x hx).2) p e s T'.vm m args below meth c T' locs ⟨C.1, W1, C.2.2.1, C.2.2.2.1, F1, C.2.2.2.2.2⟩ X' rfl N (O.ext E') ⟨⟨k1, S1, hk1⟩, H2, H3.trans C1, hD⟩
  exact ⟨s₂, o, st1 _ S, r⟩
end Wd


section W3
variable {w : Bool} {l : Launch} {Z : State} {EL : List (String × Nat)} {n0 : Nat} {own nm : String} {code : ByteArray} {ml : Nat} {ret : Option FieldType} {R : Room} {Q : Option Value → Heap → List Addr → Prop} {D : List Addr} {h h' : Heap} {kc ks pc pc' : Nat} {ls ls' : Array Slot} {st st' rest : List Value} {a0 : Array Value}
theorem Runs.instY {K : String} {index : Nat} {a : Addr} (hd : Ins code pc (.instanceof index) 3 pc') (wl : (Cond.classLink own index K).before a0 Z = true) (F : RoadKit.Ins Z h a K true) (k : Runs w l Z EL n0 own nm code ml ret R Q D h kc ks pc' ls (.int 1 :: rest)) : Runs w l Z EL n0 own nm code ml ret R Q D h kc ks pc ls (.ref a :: rest) := by
  obtain ⟨hd, rfl⟩ := hd
  exact k.warm fun p e s m args below meth c T locs C X eT O => RoadKit.instY X C.1 C.2.1 C.2.2.2.2.1 wl eT F (g := mkF m pc ls (.ref a :: rest)) rfl rfl (Jvm.hb C.2.2.1 hd)
theorem Runs.instN {K CC : String} {index : Nat} {a : Addr} (hd : Ins code pc (.instanceof index) 3 pc') (wl : (Cond.classLink own index K).before a0 Z = true) (E : Exa Z h a CC) (F : ∃ c t, Z.vm.findClass CC = some c ∧ Z.vm.findClass K = some t ∧ Z.vm.assignable c t = false) (k : Runs w l Z EL n0 own nm code ml ret R Q D h kc ks pc' ls (.int 0 :: rest)) : Runs w l Z EL n0 own nm code ml ret R Q D h kc ks pc ls (.ref a :: rest) := by
  obtain ⟨hd, rfl⟩ := hd
  exact k.warm fun p e s m args below meth c T locs C X eT O => RoadKit.instNo X C.1 C.2.1 C.2.2.2.2.1 wl eT E F (g := mkF m pc ls (.ref a :: rest)) rfl rfl (Jvm.hb C.2.2.1 hd)
theorem Runs.inst0 {index : Nat} (hd : Ins code pc (.instanceof index) 3 pc') (k : Runs w l Z EL n0 own nm code ml ret R Q D h kc ks pc' ls (.int 0 :: rest)) : Runs w l Z EL n0 own nm code ml ret R Q D h kc ks pc ls (.null :: rest) := by
  obtain ⟨hd, rfl⟩ := hd
  exact k.warm fun p e s m args below meth c T locs C X eT O => ⟨T, X, eT, fun t S => X.instanceofNull C.1 (g := mkF m pc ls (.null :: rest)) rfl rfl (Jvm.hb C.2.2.1 hd) t S⟩
theorem Runs.castY {K : String} {index : Nat} {a : Addr} (hd : Ins code pc (.checkcast index) 3 pc') (wl : (Cond.classLink own index K).before a0 Z = true) (F : RoadKit.Ins Z h a K true) (k : Runs w l Z EL n0 own nm code ml ret R Q D h kc ks pc' ls (.ref a :: rest)) : Runs w l Z EL n0 own nm code ml ret R Q D h kc ks pc ls (.ref a :: rest) := by
  obtain ⟨hd, rfl⟩ := hd
  exact k.warm fun p e s m args below meth c T locs C X eT O => RoadKit.castY X C.1 C.2.1 C.2.2.2.2.1 wl eT F (g := mkF m pc ls (.ref a :: rest)) rfl rfl (Jvm.hb C.2.2.1 hd)
/-- C is no K: C's superclass has none, and neither of them is K, which is a class that can be made -/
theorem notInst {C S K : String} {n : Nat} (wC : (Cond.superclass C S).before a0 Z = true) (wS : (Cond.noSuperclass S).before a0 Z = true) (wK : (Cond.instantiable K n).before a0 Z = true) (h1 : C ≠ K) (h2 : S ≠ K) : ∃ c t, Z.vm.findClass C = some c ∧ Z.vm.findClass K = some t ∧ Z.vm.assignable c t = false := by
  obtain ⟨cs, k0, f1, f2, f3, -, -⟩ := Cond.noSuperclass_spec wS
  obtain ⟨t, kt, g1, g2, g3, g4, -⟩ := Cond.instantiable_spec wK
  obtain ⟨c, h0⟩ := found_sup wC
  obtain ⟨p, k, kp, e1, e2, e3, e4, e5, -, e7⟩ := Cond.superclass_spec h0 wC
  cases f1.symm.trans e1
  have ne := ids_ne h0 g1 h1
  have ne2 := ids_ne f1 g1 h2
  have gi : kt.isInterface = false := by simp only [Bool.or_eq_false_iff] at g4; exact g4.1
  have key : ∀ fuel, Z.vm.isSubclassAux fuel c t = false := fun fuel => by
    cases fuel with
    | zero => rfl
    | succ f =>
      cases f with
      | zero => simp [Vm.isSubclassAux, ne, e2, e4]
      | succ f => simp [Vm.isSubclassAux, ne, e2, e4, ne2, f2, f3]
  refine ⟨c, t, h0, g1, ?_⟩
  show Z.vm.assignableAux (255 + 1) c t = false
  simp [Vm.assignableAux, ne, e2, g2, e5, g3, gi, Vm.isSubclass, key]
end W3

end Jvm.OwnW
namespace Jvm.Pilot.@@N@@
open Jvm Jvm.ClassFile Sem Op Lib Jvm.Free Jvm.Stand Jvm.LawKit Jvm.RoadKit Bundle Jvm.OwnW Jvm.Pilot.@@N@@.Jvm.D
abbrev Wds (Z : State) (a0 : Array Value) : Prop := ∀ d ∈ tables_1, d.before a0 Z = true
theorem w0 {Z : State} {a0 : Array Value} (hw : Wds Z a0) : (Jvm.Cond.constant "com/example/witnesseth/witnesseth/terms/TokenIsNumericPinLaw" (7 : Nat) (2147483647 : Int32)).before a0 Z = true := hw _ (List.mem_of_getElem? (i := 0) rfl)
theorem w1 {Z : State} {a0 : Array Value} (hw : Wds Z a0) : (Jvm.Cond.fieldLink "com/example/witnesseth/witnesseth/terms/TokenIsNumericPinLaw" (8 : Nat) "com/example/witnesseth/witnesseth/terms/Token$Kind" "WORD" "Lcom/example/witnesseth/witnesseth/terms/Token$Kind;").before a0 Z = true := hw _ (List.mem_of_getElem? (i := 1) rfl)
theorem w2 {Z : State} {a0 : Array Value} (hw : Wds Z a0) : (Jvm.Cond.initialized "com/example/witnesseth/witnesseth/terms/Token$Kind").before a0 Z = true := hw _ (List.mem_of_getElem? (i := 2) rfl)
theorem w3 {Z : State} {a0 : Array Value} (hw : Wds Z a0) : (Jvm.Cond.laysStatic "com/example/witnesseth/witnesseth/terms/Token$Kind" "WORD" "Lcom/example/witnesseth/witnesseth/terms/Token$Kind;").before a0 Z = true := hw _ (List.mem_of_getElem? (i := 3) rfl)
theorem w4 {Z : State} {a0 : Array Value} (hw : Wds Z a0) : (Jvm.Cond.methodLink "com/example/witnesseth/witnesseth/terms/TokenIsNumericPinLaw" (34 : Nat) ({ cls := "java/lang/String", name := "valueOf", desc := "(C)Ljava/lang/String;" } : Jvm.MethodName)).before a0 Z = true := hw _ (List.mem_of_getElem? (i := 4) rfl)
theorem w5 {Z : State} {a0 : Array Value} (hw : Wds Z a0) : (Jvm.Cond.static ({ cls := "java/lang/String", name := "valueOf", desc := "(C)Ljava/lang/String;" } : Jvm.MethodName)).before a0 Z = true := hw _ (List.mem_of_getElem? (i := 5) rfl)
theorem w6 {Z : State} {a0 : Array Value} (hw : Wds Z a0) : (Jvm.Cond.initialized "java/lang/String").before a0 Z = true := hw _ (List.mem_of_getElem? (i := 6) rfl)
theorem w7 {Z : State} {a0 : Array Value} (hw : Wds Z a0) : (Jvm.Cond.code ({ cls := "java/lang/String", name := "valueOf", desc := "(C)Ljava/lang/String;" } : Jvm.MethodName) jdk_42_method_139_code (1 : Nat) (Option.some (Jvm.ClassFile.FieldType.object "java/lang/String"))).before a0 Z = true := hw _ (List.mem_of_getElem? (i := 7) rfl)
theorem w8 {Z : State} {a0 : Array Value} (hw : Wds Z a0) : (Jvm.Cond.fieldLink "java/lang/String" (38 : Nat) "java/lang/String" "COMPACT_STRINGS" "Z").before a0 Z = true := hw _ (List.mem_of_getElem? (i := 8) rfl)
theorem w9 {Z : State} {a0 : Array Value} (hw : Wds Z a0) : (Jvm.Cond.methodLink "java/lang/String" (1015 : Nat) ({ cls := "java/lang/StringLatin1", name := "canEncode", desc := "(C)Z" } : Jvm.MethodName)).before a0 Z = true := hw _ (List.mem_of_getElem? (i := 9) rfl)
theorem w10 {Z : State} {a0 : Array Value} (hw : Wds Z a0) : (Jvm.Cond.static ({ cls := "java/lang/StringLatin1", name := "canEncode", desc := "(C)Z" } : Jvm.MethodName)).before a0 Z = true := hw _ (List.mem_of_getElem? (i := 10) rfl)
theorem w11 {Z : State} {a0 : Array Value} (hw : Wds Z a0) : (Jvm.Cond.initialized "java/lang/StringLatin1").before a0 Z = true := hw _ (List.mem_of_getElem? (i := 11) rfl)
theorem w12 {Z : State} {a0 : Array Value} (hw : Wds Z a0) : (Jvm.Cond.code ({ cls := "java/lang/StringLatin1", name := "canEncode", desc := "(C)Z" } : Jvm.MethodName) jdk_43_method_3_code (1 : Nat) (Option.some Jvm.ClassFile.FieldType.boolean)).before a0 Z = true := hw _ (List.mem_of_getElem? (i := 12) rfl)
theorem w13 {Z : State} {a0 : Array Value} (hw : Wds Z a0) : (Jvm.Cond.classLink "java/lang/String" (10 : Nat) "java/lang/String").before a0 Z = true := hw _ (List.mem_of_getElem? (i := 13) rfl)
theorem w14 {Z : State} {a0 : Array Value} (hw : Wds Z a0) : (Jvm.Cond.instantiable "java/lang/String" (4 : Nat)).before a0 Z = true := hw _ (List.mem_of_getElem? (i := 14) rfl)
theorem w15 {Z : State} {a0 : Array Value} (hw : Wds Z a0) : (Jvm.Cond.methodLink "java/lang/String" (1018 : Nat) ({ cls := "java/lang/StringLatin1", name := "toBytes", desc := "(C)[B" } : Jvm.MethodName)).before a0 Z = true := hw _ (List.mem_of_getElem? (i := 15) rfl)
theorem w16 {Z : State} {a0 : Array Value} (hw : Wds Z a0) : (Jvm.Cond.static ({ cls := "java/lang/StringLatin1", name := "toBytes", desc := "(C)[B" } : Jvm.MethodName)).before a0 Z = true := hw _ (List.mem_of_getElem? (i := 16) rfl)
theorem w17 {Z : State} {a0 : Array Value} (hw : Wds Z a0) : (Jvm.Cond.code ({ cls := "java/lang/StringLatin1", name := "toBytes", desc := "(C)[B" } : Jvm.MethodName) jdk_43_method_46_code (1 : Nat) (Option.some (Jvm.ClassFile.FieldType.array Jvm.ClassFile.FieldType.byte))).before a0 Z = true := hw _ (List.mem_of_getElem? (i := 17) rfl)
theorem w18 {Z : State} {a0 : Array Value} (hw : Wds Z a0) : (Jvm.Cond.arrayClass Jvm.ClassFile.FieldType.byte).before a0 Z = true := hw _ (List.mem_of_getElem? (i := 18) rfl)
theorem w19 {Z : State} {a0 : Array Value} (hw : Wds Z a0) : (Jvm.Cond.methodLink "java/lang/String" (209 : Nat) ({ cls := "java/lang/String", name := "<init>", desc := "([BB)V" } : Jvm.MethodName)).before a0 Z = true := hw _ (List.mem_of_getElem? (i := 19) rfl)
theorem w20 {Z : State} {a0 : Array Value} (hw : Wds Z a0) : (Jvm.Cond.instanceMethod ({ cls := "java/lang/String", name := "<init>", desc := "([BB)V" } : Jvm.MethodName)).before a0 Z = true := hw _ (List.mem_of_getElem? (i := 20) rfl)
theorem w22 {Z : State} {a0 : Array Value} (hw : Wds Z a0) : (Jvm.Cond.code ({ cls := "java/lang/String", name := "<init>", desc := "([BB)V" } : Jvm.MethodName) jdk_42_method_151_code (3 : Nat) (Option.none : Option Jvm.ClassFile.FieldType)).before a0 Z = true := hw _ (List.mem_of_getElem? (i := 22) rfl)
theorem w23 {Z : State} {a0 : Array Value} (hw : Wds Z a0) : (Jvm.Cond.methodLink "java/lang/String" (1 : Nat) ({ cls := "java/lang/Object", name := "<init>", desc := "()V" } : Jvm.MethodName)).before a0 Z = true := hw _ (List.mem_of_getElem? (i := 23) rfl)
theorem w24 {Z : State} {a0 : Array Value} (hw : Wds Z a0) : (Jvm.Cond.instanceMethod ({ cls := "java/lang/Object", name := "<init>", desc := "()V" } : Jvm.MethodName)).before a0 Z = true := hw _ (List.mem_of_getElem? (i := 24) rfl)
theorem w25 {Z : State} {a0 : Array Value} (hw : Wds Z a0) : (Jvm.Cond.code ({ cls := "java/lang/Object", name := "<init>", desc := "()V" } : Jvm.MethodName) object_method_1_code (1 : Nat) (Option.none : Option Jvm.ClassFile.FieldType)).before a0 Z = true := hw _ (List.mem_of_getElem? (i := 25) rfl)
theorem w26 {Z : State} {a0 : Array Value} (hw : Wds Z a0) : (Jvm.Cond.fieldLink "java/lang/String" (9 : Nat) "java/lang/String" "value" "[B").before a0 Z = true := hw _ (List.mem_of_getElem? (i := 26) rfl)
theorem w27 {Z : State} {a0 : Array Value} (hw : Wds Z a0) : (Jvm.Cond.laysFinal "java/lang/String" "java/lang/String" "value" "[B").before a0 Z = true := hw _ (List.mem_of_getElem? (i := 27) rfl)
theorem w28 {Z : State} {a0 : Array Value} (hw : Wds Z a0) : (Jvm.Cond.fieldLink "java/lang/String" (15 : Nat) "java/lang/String" "coder" "B").before a0 Z = true := hw _ (List.mem_of_getElem? (i := 28) rfl)
theorem w29 {Z : State} {a0 : Array Value} (hw : Wds Z a0) : (Jvm.Cond.laysFinal "java/lang/String" "java/lang/String" "coder" "B").before a0 Z = true := hw _ (List.mem_of_getElem? (i := 29) rfl)
theorem w30 {Z : State} {a0 : Array Value} (hw : Wds Z a0) : (Jvm.Cond.methodLink "com/example/witnesseth/witnesseth/terms/TokenIsNumericPinLaw" (38 : Nat) ({ cls := "com/example/witnesseth/witnesseth/input/Location", name := "of", desc := "(Ljava/lang/String;)Lcom/example/witnesseth/witnesseth/input/Location;" } : Jvm.MethodName)).before a0 Z = true := hw _ (List.mem_of_getElem? (i := 30) rfl)
theorem w31 {Z : State} {a0 : Array Value} (hw : Wds Z a0) : (Jvm.Cond.static ({ cls := "com/example/witnesseth/witnesseth/input/Location", name := "of", desc := "(Ljava/lang/String;)Lcom/example/witnesseth/witnesseth/input/Location;" } : Jvm.MethodName)).before a0 Z = true := hw _ (List.mem_of_getElem? (i := 31) rfl)
theorem w32 {Z : State} {a0 : Array Value} (hw : Wds Z a0) : (Jvm.Cond.initialized "com/example/witnesseth/witnesseth/input/Location").before a0 Z = true := hw _ (List.mem_of_getElem? (i := 32) rfl)
theorem w33 {Z : State} {a0 : Array Value} (hw : Wds Z a0) : (Jvm.Cond.code ({ cls := "com/example/witnesseth/witnesseth/input/Location", name := "of", desc := "(Ljava/lang/String;)Lcom/example/witnesseth/witnesseth/input/Location;" } : Jvm.MethodName) prog_16_method_2_code (1 : Nat) (Option.some (Jvm.ClassFile.FieldType.object "com/example/witnesseth/witnesseth/input/Location"))).before a0 Z = true := hw _ (List.mem_of_getElem? (i := 33) rfl)
theorem w34 {Z : State} {a0 : Array Value} (hw : Wds Z a0) : (Jvm.Cond.classLink "com/example/witnesseth/witnesseth/input/Location" (25 : Nat) "com/example/witnesseth/witnesseth/input/Location").before a0 Z = true := hw _ (List.mem_of_getElem? (i := 34) rfl)
theorem w35 {Z : State} {a0 : Array Value} (hw : Wds Z a0) : (Jvm.Cond.instantiable "com/example/witnesseth/witnesseth/input/Location" (3 : Nat)).before a0 Z = true := hw _ (List.mem_of_getElem? (i := 35) rfl)
theorem w36 {Z : State} {a0 : Array Value} (hw : Wds Z a0) : (Jvm.Cond.methodLink "com/example/witnesseth/witnesseth/input/Location" (36 : Nat) ({ cls := "com/example/witnesseth/witnesseth/input/Location", name := "<init>", desc := "(Ljava/lang/String;JJ)V" } : Jvm.MethodName)).before a0 Z = true := hw _ (List.mem_of_getElem? (i := 36) rfl)
theorem w37 {Z : State} {a0 : Array Value} (hw : Wds Z a0) : (Jvm.Cond.instanceMethod ({ cls := "com/example/witnesseth/witnesseth/input/Location", name := "<init>", desc := "(Ljava/lang/String;JJ)V" } : Jvm.MethodName)).before a0 Z = true := hw _ (List.mem_of_getElem? (i := 37) rfl)
theorem w38 {Z : State} {a0 : Array Value} (hw : Wds Z a0) : (Jvm.Cond.code ({ cls := "com/example/witnesseth/witnesseth/input/Location", name := "<init>", desc := "(Ljava/lang/String;JJ)V" } : Jvm.MethodName) prog_16_method_1_code (6 : Nat) (Option.none : Option Jvm.ClassFile.FieldType)).before a0 Z = true := hw _ (List.mem_of_getElem? (i := 38) rfl)
theorem w39 {Z : State} {a0 : Array Value} (hw : Wds Z a0) : (Jvm.Cond.methodLink "com/example/witnesseth/witnesseth/input/Location" (1 : Nat) ({ cls := "java/lang/Record", name := "<init>", desc := "()V" } : Jvm.MethodName)).before a0 Z = true := hw _ (List.mem_of_getElem? (i := 39) rfl)
theorem w40 {Z : State} {a0 : Array Value} (hw : Wds Z a0) : (Jvm.Cond.instanceMethod ({ cls := "java/lang/Record", name := "<init>", desc := "()V" } : Jvm.MethodName)).before a0 Z = true := hw _ (List.mem_of_getElem? (i := 40) rfl)
theorem w42 {Z : State} {a0 : Array Value} (hw : Wds Z a0) : (Jvm.Cond.initialized "java/lang/Record").before a0 Z = true := hw _ (List.mem_of_getElem? (i := 42) rfl)
theorem w43 {Z : State} {a0 : Array Value} (hw : Wds Z a0) : (Jvm.Cond.code ({ cls := "java/lang/Record", name := "<init>", desc := "()V" } : Jvm.MethodName) jdk_30_method_1_code (1 : Nat) (Option.none : Option Jvm.ClassFile.FieldType)).before a0 Z = true := hw _ (List.mem_of_getElem? (i := 43) rfl)
theorem w44 {Z : State} {a0 : Array Value} (hw : Wds Z a0) : (Jvm.Cond.methodLink "java/lang/Record" (1 : Nat) ({ cls := "java/lang/Object", name := "<init>", desc := "()V" } : Jvm.MethodName)).before a0 Z = true := hw _ (List.mem_of_getElem? (i := 44) rfl)
theorem w46 {Z : State} {a0 : Array Value} (hw : Wds Z a0) : (Jvm.Cond.soleField "java/lang/String" "value").before a0 Z = true := hw _ (List.mem_of_getElem? (i := 46) rfl)
theorem w47 {Z : State} {a0 : Array Value} (hw : Wds Z a0) : (Jvm.Cond.soleField "java/lang/String" "coder").before a0 Z = true := hw _ (List.mem_of_getElem? (i := 47) rfl)
theorem w48 {Z : State} {a0 : Array Value} (hw : Wds Z a0) : (Jvm.Cond.methodLink "com/example/witnesseth/witnesseth/input/Location" (9 : Nat) ({ cls := "java/util/Objects", name := "requireNonNull", desc := "(Ljava/lang/Object;Ljava/lang/String;)Ljava/lang/Object;" } : Jvm.MethodName)).before a0 Z = true := hw _ (List.mem_of_getElem? (i := 48) rfl)
theorem w49 {Z : State} {a0 : Array Value} (hw : Wds Z a0) : (Jvm.Cond.static ({ cls := "java/util/Objects", name := "requireNonNull", desc := "(Ljava/lang/Object;Ljava/lang/String;)Ljava/lang/Object;" } : Jvm.MethodName)).before a0 Z = true := hw _ (List.mem_of_getElem? (i := 49) rfl)
theorem w50 {Z : State} {a0 : Array Value} (hw : Wds Z a0) : (Jvm.Cond.initialized "java/util/Objects").before a0 Z = true := hw _ (List.mem_of_getElem? (i := 50) rfl)
theorem w51 {Z : State} {a0 : Array Value} (hw : Wds Z a0) : (Jvm.Cond.code ({ cls := "java/util/Objects", name := "requireNonNull", desc := "(Ljava/lang/Object;Ljava/lang/String;)Ljava/lang/Object;" } : Jvm.MethodName) jdk_31_method_11_code (2 : Nat) (Option.some (Jvm.ClassFile.FieldType.object "java/lang/Object"))).before a0 Z = true := hw _ (List.mem_of_getElem? (i := 51) rfl)
theorem w52 {Z : State} {a0 : Array Value} (hw : Wds Z a0) : (Jvm.Cond.fieldLink "com/example/witnesseth/witnesseth/input/Location" (24 : Nat) "com/example/witnesseth/witnesseth/input/Location" "file" "Ljava/lang/String;").before a0 Z = true := hw _ (List.mem_of_getElem? (i := 52) rfl)
theorem w53 {Z : State} {a0 : Array Value} (hw : Wds Z a0) : (Jvm.Cond.laysFinal "com/example/witnesseth/witnesseth/input/Location" "com/example/witnesseth/witnesseth/input/Location" "file" "Ljava/lang/String;").before a0 Z = true := hw _ (List.mem_of_getElem? (i := 53) rfl)
theorem w54 {Z : State} {a0 : Array Value} (hw : Wds Z a0) : (Jvm.Cond.fieldLink "com/example/witnesseth/witnesseth/input/Location" (29 : Nat) "com/example/witnesseth/witnesseth/input/Location" "line" "J").before a0 Z = true := hw _ (List.mem_of_getElem? (i := 54) rfl)
theorem w55 {Z : State} {a0 : Array Value} (hw : Wds Z a0) : (Jvm.Cond.laysFinal "com/example/witnesseth/witnesseth/input/Location" "com/example/witnesseth/witnesseth/input/Location" "line" "J").before a0 Z = true := hw _ (List.mem_of_getElem? (i := 55) rfl)
theorem w56 {Z : State} {a0 : Array Value} (hw : Wds Z a0) : (Jvm.Cond.fieldLink "com/example/witnesseth/witnesseth/input/Location" (33 : Nat) "com/example/witnesseth/witnesseth/input/Location" "column" "J").before a0 Z = true := hw _ (List.mem_of_getElem? (i := 56) rfl)
theorem w57 {Z : State} {a0 : Array Value} (hw : Wds Z a0) : (Jvm.Cond.laysFinal "com/example/witnesseth/witnesseth/input/Location" "com/example/witnesseth/witnesseth/input/Location" "column" "J").before a0 Z = true := hw _ (List.mem_of_getElem? (i := 57) rfl)
theorem w58 {Z : State} {a0 : Array Value} (hw : Wds Z a0) : (Jvm.Cond.classLink "com/example/witnesseth/witnesseth/terms/TokenIsNumericPinLaw" (44 : Nat) "com/example/witnesseth/witnesseth/terms/Token").before a0 Z = true := hw _ (List.mem_of_getElem? (i := 58) rfl)
theorem w59 {Z : State} {a0 : Array Value} (hw : Wds Z a0) : (Jvm.Cond.instantiable "com/example/witnesseth/witnesseth/terms/Token" (3 : Nat)).before a0 Z = true := hw _ (List.mem_of_getElem? (i := 59) rfl)
theorem w60 {Z : State} {a0 : Array Value} (hw : Wds Z a0) : (Jvm.Cond.initialized "com/example/witnesseth/witnesseth/terms/Token").before a0 Z = true := hw _ (List.mem_of_getElem? (i := 60) rfl)
theorem w61 {Z : State} {a0 : Array Value} (hw : Wds Z a0) : (Jvm.Cond.methodLink "com/example/witnesseth/witnesseth/terms/TokenIsNumericPinLaw" (46 : Nat) ({ cls := "com/example/witnesseth/witnesseth/terms/Token", name := "<init>", desc := "(Lcom/example/witnesseth/witnesseth/terms/Token$Kind;Ljava/lang/String;Lcom/example/witnesseth/witnesseth/input/Location;)V" } : Jvm.MethodName)).before a0 Z = true := hw _ (List.mem_of_getElem? (i := 61) rfl)
theorem w62 {Z : State} {a0 : Array Value} (hw : Wds Z a0) : (Jvm.Cond.instanceMethod ({ cls := "com/example/witnesseth/witnesseth/terms/Token", name := "<init>", desc := "(Lcom/example/witnesseth/witnesseth/terms/Token$Kind;Ljava/lang/String;Lcom/example/witnesseth/witnesseth/input/Location;)V" } : Jvm.MethodName)).before a0 Z = true := hw _ (List.mem_of_getElem? (i := 62) rfl)
theorem w63 {Z : State} {a0 : Array Value} (hw : Wds Z a0) : (Jvm.Cond.code ({ cls := "com/example/witnesseth/witnesseth/terms/Token", name := "<init>", desc := "(Lcom/example/witnesseth/witnesseth/terms/Token$Kind;Ljava/lang/String;Lcom/example/witnesseth/witnesseth/input/Location;)V" } : Jvm.MethodName) prog_56_method_1_code (4 : Nat) (Option.none : Option Jvm.ClassFile.FieldType)).before a0 Z = true := hw _ (List.mem_of_getElem? (i := 63) rfl)
theorem w64 {Z : State} {a0 : Array Value} (hw : Wds Z a0) : (Jvm.Cond.methodLink "com/example/witnesseth/witnesseth/terms/Token" (1 : Nat) ({ cls := "java/lang/Record", name := "<init>", desc := "()V" } : Jvm.MethodName)).before a0 Z = true := hw _ (List.mem_of_getElem? (i := 64) rfl)
theorem w65 {Z : State} {a0 : Array Value} (hw : Wds Z a0) : (Jvm.Cond.fieldLink "com/example/witnesseth/witnesseth/terms/Token" (7 : Nat) "com/example/witnesseth/witnesseth/terms/Token" "kind" "Lcom/example/witnesseth/witnesseth/terms/Token$Kind;").before a0 Z = true := hw _ (List.mem_of_getElem? (i := 65) rfl)
theorem w66 {Z : State} {a0 : Array Value} (hw : Wds Z a0) : (Jvm.Cond.laysFinal "com/example/witnesseth/witnesseth/terms/Token" "com/example/witnesseth/witnesseth/terms/Token" "kind" "Lcom/example/witnesseth/witnesseth/terms/Token$Kind;").before a0 Z = true := hw _ (List.mem_of_getElem? (i := 66) rfl)
theorem w67 {Z : State} {a0 : Array Value} (hw : Wds Z a0) : (Jvm.Cond.fieldLink "com/example/witnesseth/witnesseth/terms/Token" (13 : Nat) "com/example/witnesseth/witnesseth/terms/Token" "text" "Ljava/lang/String;").before a0 Z = true := hw _ (List.mem_of_getElem? (i := 67) rfl)
theorem w68 {Z : State} {a0 : Array Value} (hw : Wds Z a0) : (Jvm.Cond.laysFinal "com/example/witnesseth/witnesseth/terms/Token" "com/example/witnesseth/witnesseth/terms/Token" "text" "Ljava/lang/String;").before a0 Z = true := hw _ (List.mem_of_getElem? (i := 68) rfl)
theorem w69 {Z : State} {a0 : Array Value} (hw : Wds Z a0) : (Jvm.Cond.fieldLink "com/example/witnesseth/witnesseth/terms/Token" (17 : Nat) "com/example/witnesseth/witnesseth/terms/Token" "location" "Lcom/example/witnesseth/witnesseth/input/Location;").before a0 Z = true := hw _ (List.mem_of_getElem? (i := 69) rfl)
theorem w70 {Z : State} {a0 : Array Value} (hw : Wds Z a0) : (Jvm.Cond.laysFinal "com/example/witnesseth/witnesseth/terms/Token" "com/example/witnesseth/witnesseth/terms/Token" "location" "Lcom/example/witnesseth/witnesseth/input/Location;").before a0 Z = true := hw _ (List.mem_of_getElem? (i := 70) rfl)
theorem w71 {Z : State} {a0 : Array Value} (hw : Wds Z a0) : (Jvm.Cond.methodLink "com/example/witnesseth/witnesseth/terms/TokenIsNumericPinLaw" (49 : Nat) ({ cls := "com/example/witnesseth/witnesseth/terms/Token", name := "isNumeric", desc := "()Z" } : Jvm.MethodName)).before a0 Z = true := hw _ (List.mem_of_getElem? (i := 71) rfl)
theorem w72 {Z : State} {a0 : Array Value} (hw : Wds Z a0) : (Jvm.Cond.declares ({ cls := "com/example/witnesseth/witnesseth/terms/Token", name := "isNumeric", desc := "()Z" } : Jvm.MethodName)).before a0 Z = true := hw _ (List.mem_of_getElem? (i := 72) rfl)
theorem w73 {Z : State} {a0 : Array Value} (hw : Wds Z a0) : (Jvm.Cond.instanceMethod ({ cls := "com/example/witnesseth/witnesseth/terms/Token", name := "isNumeric", desc := "()Z" } : Jvm.MethodName)).before a0 Z = true := hw _ (List.mem_of_getElem? (i := 73) rfl)
theorem w74 {Z : State} {a0 : Array Value} (hw : Wds Z a0) : (Jvm.Cond.selects "com/example/witnesseth/witnesseth/terms/Token" ({ cls := "com/example/witnesseth/witnesseth/terms/Token", name := "isNumeric", desc := "()Z" } : Jvm.MethodName) ({ cls := "com/example/witnesseth/witnesseth/terms/Token", name := "isNumeric", desc := "()Z" } : Jvm.MethodName)).before a0 Z = true := hw _ (List.mem_of_getElem? (i := 74) rfl)
theorem w75 {Z : State} {a0 : Array Value} (hw : Wds Z a0) : (Jvm.Cond.code ({ cls := "com/example/witnesseth/witnesseth/terms/Token", name := "isNumeric", desc := "()Z" } : Jvm.MethodName) prog_56_method_2_code (1 : Nat) (Option.some Jvm.ClassFile.FieldType.boolean)).before a0 Z = true := hw _ (List.mem_of_getElem? (i := 75) rfl)
theorem w76 {Z : State} {a0 : Array Value} (hw : Wds Z a0) : (Jvm.Cond.fieldLink "com/example/witnesseth/witnesseth/terms/Token" (21 : Nat) "com/example/witnesseth/witnesseth/terms/Token$Kind" "NUMBER" "Lcom/example/witnesseth/witnesseth/terms/Token$Kind;").before a0 Z = true := hw _ (List.mem_of_getElem? (i := 76) rfl)
theorem w77 {Z : State} {a0 : Array Value} (hw : Wds Z a0) : (Jvm.Cond.laysStatic "com/example/witnesseth/witnesseth/terms/Token$Kind" "NUMBER" "Lcom/example/witnesseth/witnesseth/terms/Token$Kind;").before a0 Z = true := hw _ (List.mem_of_getElem? (i := 77) rfl)
theorem w78 {Z : State} {a0 : Array Value} (hw : Wds Z a0) : (Jvm.Cond.fieldLink "com/example/witnesseth/witnesseth/terms/Token" (26 : Nat) "com/example/witnesseth/witnesseth/terms/Token$Kind" "PERCENTAGE" "Lcom/example/witnesseth/witnesseth/terms/Token$Kind;").before a0 Z = true := hw _ (List.mem_of_getElem? (i := 78) rfl)
theorem w79 {Z : State} {a0 : Array Value} (hw : Wds Z a0) : (Jvm.Cond.laysStatic "com/example/witnesseth/witnesseth/terms/Token$Kind" "PERCENTAGE" "Lcom/example/witnesseth/witnesseth/terms/Token$Kind;").before a0 Z = true := hw _ (List.mem_of_getElem? (i := 79) rfl)
theorem w80 {Z : State} {a0 : Array Value} (hw : Wds Z a0) : (Jvm.Cond.fieldLink "com/example/witnesseth/witnesseth/terms/TokenIsNumericPinLaw" (14 : Nat) "com/example/witnesseth/witnesseth/terms/Token$Kind" "NUMBER" "Lcom/example/witnesseth/witnesseth/terms/Token$Kind;").before a0 Z = true := hw _ (List.mem_of_getElem? (i := 80) rfl)
theorem w81 {Z : State} {a0 : Array Value} (hw : Wds Z a0) : (Jvm.Cond.classLink "com/example/witnesseth/witnesseth/terms/TokenIsNumericPinLaw" (29 : Nat) "java/lang/String").before a0 Z = true := hw _ (List.mem_of_getElem? (i := 81) rfl)
theorem w82 {Z : State} {a0 : Array Value} (hw : Wds Z a0) : (Jvm.Cond.arrayClass Jvm.ClassFile.FieldType.char).before a0 Z = true := hw _ (List.mem_of_getElem? (i := 82) rfl)
theorem w83 {Z : State} {a0 : Array Value} (hw : Wds Z a0) : (Jvm.Cond.methodLink "com/example/witnesseth/witnesseth/terms/TokenIsNumericPinLaw" (31 : Nat) ({ cls := "java/lang/String", name := "<init>", desc := "([C)V" } : Jvm.MethodName)).before a0 Z = true := hw _ (List.mem_of_getElem? (i := 83) rfl)
theorem w84 {Z : State} {a0 : Array Value} (hw : Wds Z a0) : (Jvm.Cond.instanceMethod ({ cls := "java/lang/String", name := "<init>", desc := "([C)V" } : Jvm.MethodName)).before a0 Z = true := hw _ (List.mem_of_getElem? (i := 84) rfl)
theorem w85 {Z : State} {a0 : Array Value} (hw : Wds Z a0) : (Jvm.Cond.code ({ cls := "java/lang/String", name := "<init>", desc := "([C)V" } : Jvm.MethodName) jdk_42_method_3_code (2 : Nat) (Option.none : Option Jvm.ClassFile.FieldType)).before a0 Z = true := hw _ (List.mem_of_getElem? (i := 85) rfl)
theorem w86 {Z : State} {a0 : Array Value} (hw : Wds Z a0) : (Jvm.Cond.methodLink "java/lang/String" (27 : Nat) ({ cls := "java/lang/String", name := "<init>", desc := "([CIILjava/lang/Void;)V" } : Jvm.MethodName)).before a0 Z = true := hw _ (List.mem_of_getElem? (i := 86) rfl)
theorem w87 {Z : State} {a0 : Array Value} (hw : Wds Z a0) : (Jvm.Cond.instanceMethod ({ cls := "java/lang/String", name := "<init>", desc := "([CIILjava/lang/Void;)V" } : Jvm.MethodName)).before a0 Z = true := hw _ (List.mem_of_getElem? (i := 87) rfl)
theorem w88 {Z : State} {a0 : Array Value} (hw : Wds Z a0) : (Jvm.Cond.code ({ cls := "java/lang/String", name := "<init>", desc := "([CIILjava/lang/Void;)V" } : Jvm.MethodName) jdk_42_method_149_code (6 : Nat) (Option.none : Option Jvm.ClassFile.FieldType)).before a0 Z = true := hw _ (List.mem_of_getElem? (i := 88) rfl)
theorem w89 {Z : State} {a0 : Array Value} (hw : Wds Z a0) : (Jvm.Cond.methodLink "java/lang/String" (177 : Nat) ({ cls := "java/lang/StringUTF16", name := "compress", desc := "([CII)[B" } : Jvm.MethodName)).before a0 Z = true := hw _ (List.mem_of_getElem? (i := 89) rfl)
theorem w90 {Z : State} {a0 : Array Value} (hw : Wds Z a0) : (Jvm.Cond.static ({ cls := "java/lang/StringUTF16", name := "compress", desc := "([CII)[B" } : Jvm.MethodName)).before a0 Z = true := hw _ (List.mem_of_getElem? (i := 90) rfl)
theorem w91 {Z : State} {a0 : Array Value} (hw : Wds Z a0) : (Jvm.Cond.initialized "java/lang/StringUTF16").before a0 Z = true := hw _ (List.mem_of_getElem? (i := 91) rfl)
theorem w92 {Z : State} {a0 : Array Value} (hw : Wds Z a0) : (Jvm.Cond.code ({ cls := "java/lang/StringUTF16", name := "compress", desc := "([CII)[B" } : Jvm.MethodName) jdk_52_method_16_code (6 : Nat) (Option.some (Jvm.ClassFile.FieldType.array Jvm.ClassFile.FieldType.byte))).before a0 Z = true := hw _ (List.mem_of_getElem? (i := 92) rfl)
theorem w93 {Z : State} {a0 : Array Value} (hw : Wds Z a0) : (Jvm.Cond.methodLink "java/lang/StringUTF16" (115 : Nat) ({ cls := "java/lang/StringUTF16", name := "compress", desc := "([CI[BII)I" } : Jvm.MethodName)).before a0 Z = true := hw _ (List.mem_of_getElem? (i := 93) rfl)
theorem w94 {Z : State} {a0 : Array Value} (hw : Wds Z a0) : (Jvm.Cond.static ({ cls := "java/lang/StringUTF16", name := "compress", desc := "([CI[BII)I" } : Jvm.MethodName)).before a0 Z = true := hw _ (List.mem_of_getElem? (i := 94) rfl)
theorem w95 {Z : State} {a0 : Array Value} (hw : Wds Z a0) : (Jvm.Cond.code ({ cls := "java/lang/StringUTF16", name := "compress", desc := "([CI[BII)I" } : Jvm.MethodName) jdk_52_method_21_code (7 : Nat) (Option.some Jvm.ClassFile.FieldType.int)).before a0 Z = true := hw _ (List.mem_of_getElem? (i := 95) rfl)
theorem w96 {Z : State} {a0 : Array Value} (hw : Wds Z a0) : (Jvm.Cond.methodLink "java/lang/String" (47 : Nat) ({ cls := "java/lang/StringUTF16", name := "coderFromArrayLen", desc := "([BI)B" } : Jvm.MethodName)).before a0 Z = true := hw _ (List.mem_of_getElem? (i := 96) rfl)
theorem w97 {Z : State} {a0 : Array Value} (hw : Wds Z a0) : (Jvm.Cond.static ({ cls := "java/lang/StringUTF16", name := "coderFromArrayLen", desc := "([BI)B" } : Jvm.MethodName)).before a0 Z = true := hw _ (List.mem_of_getElem? (i := 97) rfl)
theorem w98 {Z : State} {a0 : Array Value} (hw : Wds Z a0) : (Jvm.Cond.code ({ cls := "java/lang/StringUTF16", name := "coderFromArrayLen", desc := "([BI)B" } : Jvm.MethodName) jdk_52_method_15_code (2 : Nat) (Option.some Jvm.ClassFile.FieldType.byte)).before a0 Z = true := hw _ (List.mem_of_getElem? (i := 98) rfl)
theorem w99 {Z : State} {a0 : Array Value} (hw : Wds Z a0) : (Jvm.Cond.fieldLink "com/example/witnesseth/witnesseth/terms/TokenIsNumericPinLaw" (17 : Nat) "com/example/witnesseth/witnesseth/terms/Token$Kind" "PERCENTAGE" "Lcom/example/witnesseth/witnesseth/terms/Token$Kind;").before a0 Z = true := hw _ (List.mem_of_getElem? (i := 99) rfl)
theorem w100 {Z : State} {a0 : Array Value} (hw : Wds Z a0) : (Jvm.Cond.fieldLink "com/example/witnesseth/witnesseth/terms/TokenIsNumericPinLaw" (26 : Nat) "com/example/witnesseth/witnesseth/terms/Token$Kind" "END" "Lcom/example/witnesseth/witnesseth/terms/Token$Kind;").before a0 Z = true := hw _ (List.mem_of_getElem? (i := 100) rfl)
theorem w101 {Z : State} {a0 : Array Value} (hw : Wds Z a0) : (Jvm.Cond.laysStatic "com/example/witnesseth/witnesseth/terms/Token$Kind" "END" "Lcom/example/witnesseth/witnesseth/terms/Token$Kind;").before a0 Z = true := hw _ (List.mem_of_getElem? (i := 101) rfl)
theorem w102 {Z : State} {a0 : Array Value} (hw : Wds Z a0) : (Jvm.Cond.fieldLink "com/example/witnesseth/witnesseth/terms/TokenIsNumericPinLaw" (20 : Nat) "com/example/witnesseth/witnesseth/terms/Token$Kind" "SYMBOL" "Lcom/example/witnesseth/witnesseth/terms/Token$Kind;").before a0 Z = true := hw _ (List.mem_of_getElem? (i := 102) rfl)
theorem w103 {Z : State} {a0 : Array Value} (hw : Wds Z a0) : (Jvm.Cond.laysStatic "com/example/witnesseth/witnesseth/terms/Token$Kind" "SYMBOL" "Lcom/example/witnesseth/witnesseth/terms/Token$Kind;").before a0 Z = true := hw _ (List.mem_of_getElem? (i := 103) rfl)
theorem w104 {Z : State} {a0 : Array Value} (hw : Wds Z a0) : (Jvm.Cond.fieldLink "com/example/witnesseth/witnesseth/terms/TokenIsNumericPinLaw" (23 : Nat) "com/example/witnesseth/witnesseth/terms/Token$Kind" "CLAUSE" "Lcom/example/witnesseth/witnesseth/terms/Token$Kind;").before a0 Z = true := hw _ (List.mem_of_getElem? (i := 104) rfl)
theorem w105 {Z : State} {a0 : Array Value} (hw : Wds Z a0) : (Jvm.Cond.laysStatic "com/example/witnesseth/witnesseth/terms/Token$Kind" "CLAUSE" "Lcom/example/witnesseth/witnesseth/terms/Token$Kind;").before a0 Z = true := hw _ (List.mem_of_getElem? (i := 105) rfl)
theorem lay_0 {Z : State} {a0 : Array Value} (hw : Wds Z a0) : LayD Z a0 "java/lang/String" [("java/lang/String", "value", "[B", .null), ("java/lang/String", "coder", "B", (.int (0 : Int32)))] := ⟨fun f hf => by
  simp only [List.mem_cons, List.not_mem_nil, or_false] at hf
  rcases hf with rfl | rfl
  · exact ⟨Or.inr (w27 hw), (.array .byte), by decide, rfl⟩
  · exact ⟨Or.inr (w29 hw), .byte, by decide, rfl⟩, by decide⟩
theorem lay_1 {Z : State} {a0 : Array Value} (hw : Wds Z a0) : LayD Z a0 "com/example/witnesseth/witnesseth/input/Location" [("com/example/witnesseth/witnesseth/input/Location", "file", "Ljava/lang/String;", .null), ("com/example/witnesseth/witnesseth/input/Location", "line", "J", (.long (0 : Int64))), ("com/example/witnesseth/witnesseth/input/Location", "column", "J", (.long (0 : Int64)))] := ⟨fun f hf => by
  simp only [List.mem_cons, List.not_mem_nil, or_false] at hf
  rcases hf with rfl | rfl | rfl
  · exact ⟨Or.inr (w53 hw), (.object "java/lang/String"), by decide, rfl⟩
  · exact ⟨Or.inr (w55 hw), .long, by decide, rfl⟩
  · exact ⟨Or.inr (w57 hw), .long, by decide, rfl⟩, by decide⟩
theorem lay_2 {Z : State} {a0 : Array Value} (hw : Wds Z a0) : LayD Z a0 "com/example/witnesseth/witnesseth/terms/Token" [("com/example/witnesseth/witnesseth/terms/Token", "kind", "Lcom/example/witnesseth/witnesseth/terms/Token$Kind;", .null), ("com/example/witnesseth/witnesseth/terms/Token", "text", "Ljava/lang/String;", .null), ("com/example/witnesseth/witnesseth/terms/Token", "location", "Lcom/example/witnesseth/witnesseth/input/Location;", .null)] := ⟨fun f hf => by
  simp only [List.mem_cons, List.not_mem_nil, or_false] at hf
  rcases hf with rfl | rfl | rfl
  · exact ⟨Or.inr (w66 hw), (.object "com/example/witnesseth/witnesseth/terms/Token$Kind"), by decide, rfl⟩
  · exact ⟨Or.inr (w68 hw), (.object "java/lang/String"), by decide, rfl⟩
  · exact ⟨Or.inr (w70 hw), (.object "com/example/witnesseth/witnesseth/input/Location"), by decide, rfl⟩, by decide⟩
theorem i0_0 : Ins code 0 (.iload_n 0) 1 1 := ⟨at_0, rfl⟩
theorem i0_1 : Ins code 1 (.ldc 7) 2 3 := ⟨at_1, rfl⟩
theorem i0_3 : Ins code 3 (.iand) 1 4 := ⟨at_3, rfl⟩
theorem i0_4 : Ins code 4 (.bipush 6) 2 6 := ⟨at_4, rfl⟩
theorem i0_6 : Ins code 6 (.irem) 1 7 := ⟨at_6, rfl⟩
theorem i0_7 : Ins code 7 (.istore_n 3) 1 8 := ⟨at_7, rfl⟩
theorem i0_8 : Ins code 8 (.iload_n 3) 1 9 := ⟨at_8, rfl⟩
theorem i0_9 : Ins code 9 (.ifCond .ne 14) 3 12 := ⟨at_9, rfl⟩
theorem i0_12 : Ins code 12 (.getstatic 8) 3 15 := ⟨at_12, rfl⟩
theorem i0_15 : Ins code 15 (.astore 4) 2 17 := ⟨at_15, rfl⟩
theorem i0_17 : Ins code 17 (.iconst 0) 1 18 := ⟨at_17, rfl⟩
theorem i0_18 : Ins code 18 (.istore 5) 2 20 := ⟨at_18, rfl⟩
theorem i0_20 : Ins code 20 (.goto 75) 3 23 := ⟨at_20, rfl⟩
theorem i0_23 : Ins code 23 (.iload_n 3) 1 24 := ⟨at_23, rfl⟩
theorem i0_24 : Ins code 24 (.iconst 1) 1 25 := ⟨at_24, rfl⟩
theorem i0_25 : Ins code 25 (.if_icmp .ne 14) 3 28 := ⟨at_25, rfl⟩
theorem i0_28 : Ins code 28 (.getstatic 14) 3 31 := ⟨at_28, rfl⟩
theorem i0_31 : Ins code 31 (.astore 4) 2 33 := ⟨at_31, rfl⟩
theorem i0_33 : Ins code 33 (.iconst 1) 1 34 := ⟨at_33, rfl⟩
theorem i0_34 : Ins code 34 (.istore 5) 2 36 := ⟨at_34, rfl⟩
theorem i0_36 : Ins code 36 (.goto 59) 3 39 := ⟨at_36, rfl⟩
theorem i0_39 : Ins code 39 (.iload_n 3) 1 40 := ⟨at_39, rfl⟩
theorem i0_40 : Ins code 40 (.iconst 2) 1 41 := ⟨at_40, rfl⟩
theorem i0_41 : Ins code 41 (.if_icmp .ne 14) 3 44 := ⟨at_41, rfl⟩
theorem i0_44 : Ins code 44 (.getstatic 17) 3 47 := ⟨at_44, rfl⟩
theorem i0_47 : Ins code 47 (.astore 4) 2 49 := ⟨at_47, rfl⟩
theorem i0_49 : Ins code 49 (.iconst 1) 1 50 := ⟨at_49, rfl⟩
theorem i0_50 : Ins code 50 (.istore 5) 2 52 := ⟨at_50, rfl⟩
theorem i0_52 : Ins code 52 (.goto 43) 3 55 := ⟨at_52, rfl⟩
theorem i0_55 : Ins code 55 (.iload_n 3) 1 56 := ⟨at_55, rfl⟩
theorem i0_56 : Ins code 56 (.iconst 3) 1 57 := ⟨at_56, rfl⟩
theorem i0_57 : Ins code 57 (.if_icmp .ne 14) 3 60 := ⟨at_57, rfl⟩
theorem i0_60 : Ins code 60 (.getstatic 20) 3 63 := ⟨at_60, rfl⟩
theorem i0_63 : Ins code 63 (.astore 4) 2 65 := ⟨at_63, rfl⟩
theorem i0_65 : Ins code 65 (.iconst 0) 1 66 := ⟨at_65, rfl⟩
theorem i0_66 : Ins code 66 (.istore 5) 2 68 := ⟨at_66, rfl⟩
theorem i0_68 : Ins code 68 (.goto 27) 3 71 := ⟨at_68, rfl⟩
theorem i0_71 : Ins code 71 (.iload_n 3) 1 72 := ⟨at_71, rfl⟩
theorem i0_72 : Ins code 72 (.iconst 4) 1 73 := ⟨at_72, rfl⟩
theorem i0_73 : Ins code 73 (.if_icmp .ne 14) 3 76 := ⟨at_73, rfl⟩
theorem i0_76 : Ins code 76 (.getstatic 23) 3 79 := ⟨at_76, rfl⟩
theorem i0_79 : Ins code 79 (.astore 4) 2 81 := ⟨at_79, rfl⟩
theorem i0_81 : Ins code 81 (.iconst 0) 1 82 := ⟨at_81, rfl⟩
theorem i0_82 : Ins code 82 (.istore 5) 2 84 := ⟨at_82, rfl⟩
theorem i0_84 : Ins code 84 (.goto 11) 3 87 := ⟨at_84, rfl⟩
theorem i0_87 : Ins code 87 (.getstatic 26) 3 90 := ⟨at_87, rfl⟩
theorem i0_90 : Ins code 90 (.astore 4) 2 92 := ⟨at_90, rfl⟩
theorem i0_92 : Ins code 92 (.iconst 0) 1 93 := ⟨at_92, rfl⟩
theorem i0_93 : Ins code 93 (.istore 5) 2 95 := ⟨at_93, rfl⟩
theorem i0_95 : Ins code 95 (.iload_n 1) 1 96 := ⟨at_95, rfl⟩
theorem i0_96 : Ins code 96 (.sipush 255) 3 99 := ⟨at_96, rfl⟩
theorem i0_99 : Ins code 99 (.iand) 1 100 := ⟨at_99, rfl⟩
theorem i0_100 : Ins code 100 (.i2c) 1 101 := ⟨at_100, rfl⟩
theorem i0_101 : Ins code 101 (.istore 6) 2 103 := ⟨at_101, rfl⟩
theorem i0_103 : Ins code 103 (.iload_n 1) 1 104 := ⟨at_103, rfl⟩
theorem i0_104 : Ins code 104 (.bipush 8) 2 106 := ⟨at_104, rfl⟩
theorem i0_106 : Ins code 106 (.iushr) 1 107 := ⟨at_106, rfl⟩
theorem i0_107 : Ins code 107 (.sipush 255) 3 110 := ⟨at_107, rfl⟩
theorem i0_110 : Ins code 110 (.iand) 1 111 := ⟨at_110, rfl⟩
theorem i0_111 : Ins code 111 (.i2c) 1 112 := ⟨at_111, rfl⟩
theorem i0_112 : Ins code 112 (.istore 7) 2 114 := ⟨at_112, rfl⟩
theorem i0_114 : Ins code 114 (.iload_n 2) 1 115 := ⟨at_114, rfl⟩
theorem i0_115 : Ins code 115 (.iconst 1) 1 116 := ⟨at_115, rfl⟩
theorem i0_116 : Ins code 116 (.iand) 1 117 := ⟨at_116, rfl⟩
theorem i0_117 : Ins code 117 (.ifCond .eq 28) 3 120 := ⟨at_117, rfl⟩
theorem i0_120 : Ins code 120 (.new 29) 3 123 := ⟨at_120, rfl⟩
theorem i0_123 : Ins code 123 (.dup) 1 124 := ⟨at_123, rfl⟩
theorem i0_124 : Ins code 124 (.iconst 2) 1 125 := ⟨at_124, rfl⟩
theorem i0_125 : Ins code 125 (.newarray .char) 2 127 := ⟨at_125, rfl⟩
theorem i0_127 : Ins code 127 (.dup) 1 128 := ⟨at_127, rfl⟩
theorem i0_128 : Ins code 128 (.iconst 0) 1 129 := ⟨at_128, rfl⟩
theorem i0_129 : Ins code 129 (.iload 6) 2 131 := ⟨at_129, rfl⟩
theorem i0_131 : Ins code 131 (.castore) 1 132 := ⟨at_131, rfl⟩
theorem i0_132 : Ins code 132 (.dup) 1 133 := ⟨at_132, rfl⟩
theorem i0_133 : Ins code 133 (.iconst 1) 1 134 := ⟨at_133, rfl⟩
theorem i0_134 : Ins code 134 (.iload 7) 2 136 := ⟨at_134, rfl⟩
theorem i0_136 : Ins code 136 (.castore) 1 137 := ⟨at_136, rfl⟩
theorem i0_137 : Ins code 137 (.invokespecial 31) 3 140 := ⟨at_137, rfl⟩
theorem i0_140 : Ins code 140 (.astore 8) 2 142 := ⟨at_140, rfl⟩
theorem i0_142 : Ins code 142 (.goto 10) 3 145 := ⟨at_142, rfl⟩
theorem i0_145 : Ins code 145 (.iload 6) 2 147 := ⟨at_145, rfl⟩
theorem i0_147 : Ins code 147 (.invokestatic 34) 3 150 := ⟨at_147, rfl⟩
theorem i0_150 : Ins code 150 (.astore 8) 2 152 := ⟨at_150, rfl⟩
theorem i0_152 : Ins code 152 (.aload 8) 2 154 := ⟨at_152, rfl⟩
theorem i0_154 : Ins code 154 (.invokestatic 38) 3 157 := ⟨at_154, rfl⟩
theorem i0_157 : Ins code 157 (.astore 9) 2 159 := ⟨at_157, rfl⟩
theorem i0_159 : Ins code 159 (.new 44) 3 162 := ⟨at_159, rfl⟩
theorem i0_162 : Ins code 162 (.dup) 1 163 := ⟨at_162, rfl⟩
theorem i0_163 : Ins code 163 (.aload 4) 2 165 := ⟨at_163, rfl⟩
theorem i0_165 : Ins code 165 (.aload 8) 2 167 := ⟨at_165, rfl⟩
theorem i0_167 : Ins code 167 (.aload 9) 2 169 := ⟨at_167, rfl⟩
theorem i0_169 : Ins code 169 (.invokespecial 46) 3 172 := ⟨at_169, rfl⟩
theorem i0_172 : Ins code 172 (.astore 10) 2 174 := ⟨at_172, rfl⟩
theorem i0_174 : Ins code 174 (.aload 10) 2 176 := ⟨at_174, rfl⟩
theorem i0_176 : Ins code 176 (.invokevirtual 49) 3 179 := ⟨at_176, rfl⟩
theorem i0_179 : Ins code 179 (.iload 5) 2 181 := ⟨at_179, rfl⟩
theorem i0_181 : Ins code 181 (.if_icmp .ne 7) 3 184 := ⟨at_181, rfl⟩
theorem i0_184 : Ins code 184 (.iconst 1) 1 185 := ⟨at_184, rfl⟩
theorem i0_185 : Ins code 185 (.goto 4) 3 188 := ⟨at_185, rfl⟩
theorem i0_189 : Ins code 189 (.ireturn) 1 190 := ⟨at_189, rfl⟩
theorem i1_0 : Ins jdk_42_method_139_code 0 (.getstatic 38) 3 3 := ⟨by decide +kernel, rfl⟩
theorem i1_3 : Ins jdk_42_method_139_code 3 (.ifCond .eq 23) 3 6 := ⟨by decide +kernel, rfl⟩
theorem i1_6 : Ins jdk_42_method_139_code 6 (.iload_n 0) 1 7 := ⟨by decide +kernel, rfl⟩
theorem i1_7 : Ins jdk_42_method_139_code 7 (.invokestatic 1015) 3 10 := ⟨by decide +kernel, rfl⟩
theorem i1_10 : Ins jdk_42_method_139_code 10 (.ifCond .eq 16) 3 13 := ⟨by decide +kernel, rfl⟩
theorem i1_13 : Ins jdk_42_method_139_code 13 (.new 10) 3 16 := ⟨by decide +kernel, rfl⟩
theorem i1_16 : Ins jdk_42_method_139_code 16 (.dup) 1 17 := ⟨by decide +kernel, rfl⟩
theorem i1_17 : Ins jdk_42_method_139_code 17 (.iload_n 0) 1 18 := ⟨by decide +kernel, rfl⟩
theorem i1_18 : Ins jdk_42_method_139_code 18 (.invokestatic 1018) 3 21 := ⟨by decide +kernel, rfl⟩
theorem i1_21 : Ins jdk_42_method_139_code 21 (.iconst 0) 1 22 := ⟨by decide +kernel, rfl⟩
theorem i1_22 : Ins jdk_42_method_139_code 22 (.invokespecial 209) 3 25 := ⟨by decide +kernel, rfl⟩
theorem i1_25 : Ins jdk_42_method_139_code 25 (.areturn) 1 26 := ⟨by decide +kernel, rfl⟩
theorem i2_0 : Ins jdk_43_method_3_code 0 (.iload_n 0) 1 1 := ⟨by decide +kernel, rfl⟩
theorem i2_1 : Ins jdk_43_method_3_code 1 (.sipush 255) 3 4 := ⟨by decide +kernel, rfl⟩
theorem i2_4 : Ins jdk_43_method_3_code 4 (.if_icmp .gt 7) 3 7 := ⟨by decide +kernel, rfl⟩
theorem i2_7 : Ins jdk_43_method_3_code 7 (.iconst 1) 1 8 := ⟨by decide +kernel, rfl⟩
theorem i2_8 : Ins jdk_43_method_3_code 8 (.goto 4) 3 11 := ⟨by decide +kernel, rfl⟩
theorem i2_12 : Ins jdk_43_method_3_code 12 (.ireturn) 1 13 := ⟨by decide +kernel, rfl⟩
theorem i3_0 : Ins jdk_43_method_46_code 0 (.iconst 1) 1 1 := ⟨by decide +kernel, rfl⟩
theorem i3_1 : Ins jdk_43_method_46_code 1 (.newarray .byte) 2 3 := ⟨by decide +kernel, rfl⟩
theorem i3_3 : Ins jdk_43_method_46_code 3 (.dup) 1 4 := ⟨by decide +kernel, rfl⟩
theorem i3_4 : Ins jdk_43_method_46_code 4 (.iconst 0) 1 5 := ⟨by decide +kernel, rfl⟩
theorem i3_5 : Ins jdk_43_method_46_code 5 (.iload_n 0) 1 6 := ⟨by decide +kernel, rfl⟩
theorem i3_6 : Ins jdk_43_method_46_code 6 (.i2b) 1 7 := ⟨by decide +kernel, rfl⟩
theorem i3_7 : Ins jdk_43_method_46_code 7 (.bastore) 1 8 := ⟨by decide +kernel, rfl⟩
theorem i3_8 : Ins jdk_43_method_46_code 8 (.areturn) 1 9 := ⟨by decide +kernel, rfl⟩
theorem i4_0 : Ins jdk_42_method_151_code 0 (.aload_n 0) 1 1 := ⟨by decide +kernel, rfl⟩
theorem i4_1 : Ins jdk_42_method_151_code 1 (.invokespecial 1) 3 4 := ⟨by decide +kernel, rfl⟩
theorem i4_4 : Ins jdk_42_method_151_code 4 (.aload_n 0) 1 5 := ⟨by decide +kernel, rfl⟩
theorem i4_5 : Ins jdk_42_method_151_code 5 (.aload_n 1) 1 6 := ⟨by decide +kernel, rfl⟩
theorem i4_6 : Ins jdk_42_method_151_code 6 (.putfield 9) 3 9 := ⟨by decide +kernel, rfl⟩
theorem i4_9 : Ins jdk_42_method_151_code 9 (.aload_n 0) 1 10 := ⟨by decide +kernel, rfl⟩
theorem i4_10 : Ins jdk_42_method_151_code 10 (.iload_n 2) 1 11 := ⟨by decide +kernel, rfl⟩
theorem i4_11 : Ins jdk_42_method_151_code 11 (.putfield 15) 3 14 := ⟨by decide +kernel, rfl⟩
theorem i4_14 : Ins jdk_42_method_151_code 14 (.return_) 1 15 := ⟨by decide +kernel, rfl⟩
theorem i6_0 : Ins prog_16_method_2_code 0 (.new 25) 3 3 := ⟨by decide +kernel, rfl⟩
theorem i6_3 : Ins prog_16_method_2_code 3 (.dup) 1 4 := ⟨by decide +kernel, rfl⟩
theorem i6_4 : Ins prog_16_method_2_code 4 (.aload_n 0) 1 5 := ⟨by decide +kernel, rfl⟩
theorem i6_5 : Ins prog_16_method_2_code 5 (.lconst 0) 1 6 := ⟨by decide +kernel, rfl⟩
theorem i6_6 : Ins prog_16_method_2_code 6 (.lconst 0) 1 7 := ⟨by decide +kernel, rfl⟩
theorem i6_7 : Ins prog_16_method_2_code 7 (.invokespecial 36) 3 10 := ⟨by decide +kernel, rfl⟩
theorem i6_10 : Ins prog_16_method_2_code 10 (.areturn) 1 11 := ⟨by decide +kernel, rfl⟩
theorem i7_0 : Ins prog_16_method_1_code 0 (.aload_n 0) 1 1 := ⟨by decide +kernel, rfl⟩
theorem i7_1 : Ins prog_16_method_1_code 1 (.invokespecial 1) 3 4 := ⟨by decide +kernel, rfl⟩
theorem i7_4 : Ins prog_16_method_1_code 4 (.aload_n 1) 1 5 := ⟨by decide +kernel, rfl⟩
theorem i7_5 : Ins prog_16_method_1_code 5 (.ldc 7) 2 7 := ⟨by decide +kernel, rfl⟩
theorem i7_7 : Ins prog_16_method_1_code 7 (.invokestatic 9) 3 10 := ⟨by decide +kernel, rfl⟩
theorem i7_10 : Ins prog_16_method_1_code 10 (.pop) 1 11 := ⟨by decide +kernel, rfl⟩
theorem i7_11 : Ins prog_16_method_1_code 11 (.lload_n 2) 1 12 := ⟨by decide +kernel, rfl⟩
theorem i7_12 : Ins prog_16_method_1_code 12 (.lconst 0) 1 13 := ⟨by decide +kernel, rfl⟩
theorem i7_13 : Ins prog_16_method_1_code 13 (.lcmp) 1 14 := ⟨by decide +kernel, rfl⟩
theorem i7_14 : Ins prog_16_method_1_code 14 (.ifCond .lt 23) 3 17 := ⟨by decide +kernel, rfl⟩
theorem i7_17 : Ins prog_16_method_1_code 17 (.lload 4) 2 19 := ⟨by decide +kernel, rfl⟩
theorem i7_19 : Ins prog_16_method_1_code 19 (.lconst 0) 1 20 := ⟨by decide +kernel, rfl⟩
theorem i7_20 : Ins prog_16_method_1_code 20 (.lcmp) 1 21 := ⟨by decide +kernel, rfl⟩
theorem i7_21 : Ins prog_16_method_1_code 21 (.ifCond .lt 16) 3 24 := ⟨by decide +kernel, rfl⟩
theorem i7_24 : Ins prog_16_method_1_code 24 (.lload_n 2) 1 25 := ⟨by decide +kernel, rfl⟩
theorem i7_25 : Ins prog_16_method_1_code 25 (.lconst 0) 1 26 := ⟨by decide +kernel, rfl⟩
theorem i7_26 : Ins prog_16_method_1_code 26 (.lcmp) 1 27 := ⟨by decide +kernel, rfl⟩
theorem i7_27 : Ins prog_16_method_1_code 27 (.ifCond .ne 26) 3 30 := ⟨by decide +kernel, rfl⟩
theorem i7_30 : Ins prog_16_method_1_code 30 (.lload 4) 2 32 := ⟨by decide +kernel, rfl⟩
theorem i7_32 : Ins prog_16_method_1_code 32 (.lconst 0) 1 33 := ⟨by decide +kernel, rfl⟩
theorem i7_33 : Ins prog_16_method_1_code 33 (.lcmp) 1 34 := ⟨by decide +kernel, rfl⟩
theorem i7_34 : Ins prog_16_method_1_code 34 (.ifCond .le 19) 3 37 := ⟨by decide +kernel, rfl⟩
theorem i7_53 : Ins prog_16_method_1_code 53 (.aload_n 0) 1 54 := ⟨by decide +kernel, rfl⟩
theorem i7_54 : Ins prog_16_method_1_code 54 (.aload_n 1) 1 55 := ⟨by decide +kernel, rfl⟩
theorem i7_55 : Ins prog_16_method_1_code 55 (.putfield 24) 3 58 := ⟨by decide +kernel, rfl⟩
theorem i7_58 : Ins prog_16_method_1_code 58 (.aload_n 0) 1 59 := ⟨by decide +kernel, rfl⟩
theorem i7_59 : Ins prog_16_method_1_code 59 (.lload_n 2) 1 60 := ⟨by decide +kernel, rfl⟩
theorem i7_60 : Ins prog_16_method_1_code 60 (.putfield 29) 3 63 := ⟨by decide +kernel, rfl⟩
theorem i7_63 : Ins prog_16_method_1_code 63 (.aload_n 0) 1 64 := ⟨by decide +kernel, rfl⟩
theorem i7_64 : Ins prog_16_method_1_code 64 (.lload 4) 2 66 := ⟨by decide +kernel, rfl⟩
theorem i7_66 : Ins prog_16_method_1_code 66 (.putfield 33) 3 69 := ⟨by decide +kernel, rfl⟩
theorem i7_69 : Ins prog_16_method_1_code 69 (.return_) 1 70 := ⟨by decide +kernel, rfl⟩
theorem i8_0 : Ins jdk_30_method_1_code 0 (.aload_n 0) 1 1 := ⟨by decide +kernel, rfl⟩
theorem i8_1 : Ins jdk_30_method_1_code 1 (.invokespecial 1) 3 4 := ⟨by decide +kernel, rfl⟩
theorem i8_4 : Ins jdk_30_method_1_code 4 (.return_) 1 5 := ⟨by decide +kernel, rfl⟩
theorem i9_0 : Ins jdk_31_method_11_code 0 (.aload_n 0) 1 1 := ⟨by decide +kernel, rfl⟩
theorem i9_1 : Ins jdk_31_method_11_code 1 (.ifnonnull 12) 3 4 := ⟨by decide +kernel, rfl⟩
theorem i9_13 : Ins jdk_31_method_11_code 13 (.aload_n 0) 1 14 := ⟨by decide +kernel, rfl⟩
theorem i9_14 : Ins jdk_31_method_11_code 14 (.areturn) 1 15 := ⟨by decide +kernel, rfl⟩
theorem i10_0 : Ins prog_56_method_1_code 0 (.aload_n 0) 1 1 := ⟨by decide +kernel, rfl⟩
theorem i10_1 : Ins prog_56_method_1_code 1 (.invokespecial 1) 3 4 := ⟨by decide +kernel, rfl⟩
theorem i10_4 : Ins prog_56_method_1_code 4 (.aload_n 0) 1 5 := ⟨by decide +kernel, rfl⟩
theorem i10_5 : Ins prog_56_method_1_code 5 (.aload_n 1) 1 6 := ⟨by decide +kernel, rfl⟩
theorem i10_6 : Ins prog_56_method_1_code 6 (.putfield 7) 3 9 := ⟨by decide +kernel, rfl⟩
theorem i10_9 : Ins prog_56_method_1_code 9 (.aload_n 0) 1 10 := ⟨by decide +kernel, rfl⟩
theorem i10_10 : Ins prog_56_method_1_code 10 (.aload_n 2) 1 11 := ⟨by decide +kernel, rfl⟩
theorem i10_11 : Ins prog_56_method_1_code 11 (.putfield 13) 3 14 := ⟨by decide +kernel, rfl⟩
theorem i10_14 : Ins prog_56_method_1_code 14 (.aload_n 0) 1 15 := ⟨by decide +kernel, rfl⟩
theorem i10_15 : Ins prog_56_method_1_code 15 (.aload_n 3) 1 16 := ⟨by decide +kernel, rfl⟩
theorem i10_16 : Ins prog_56_method_1_code 16 (.putfield 17) 3 19 := ⟨by decide +kernel, rfl⟩
theorem i10_19 : Ins prog_56_method_1_code 19 (.return_) 1 20 := ⟨by decide +kernel, rfl⟩
theorem i11_0 : Ins prog_56_method_2_code 0 (.aload_n 0) 1 1 := ⟨by decide +kernel, rfl⟩
theorem i11_1 : Ins prog_56_method_2_code 1 (.getfield 7) 3 4 := ⟨by decide +kernel, rfl⟩
theorem i11_4 : Ins prog_56_method_2_code 4 (.getstatic 21) 3 7 := ⟨by decide +kernel, rfl⟩
theorem i11_7 : Ins prog_56_method_2_code 7 (.if_acmp .eq 13) 3 10 := ⟨by decide +kernel, rfl⟩
theorem i11_10 : Ins prog_56_method_2_code 10 (.aload_n 0) 1 11 := ⟨by decide +kernel, rfl⟩
theorem i11_11 : Ins prog_56_method_2_code 11 (.getfield 7) 3 14 := ⟨by decide +kernel, rfl⟩
theorem i11_14 : Ins prog_56_method_2_code 14 (.getstatic 26) 3 17 := ⟨by decide +kernel, rfl⟩
theorem i11_17 : Ins prog_56_method_2_code 17 (.if_acmp .ne 7) 3 20 := ⟨by decide +kernel, rfl⟩
theorem i11_20 : Ins prog_56_method_2_code 20 (.iconst 1) 1 21 := ⟨by decide +kernel, rfl⟩
theorem i11_21 : Ins prog_56_method_2_code 21 (.goto 4) 3 24 := ⟨by decide +kernel, rfl⟩
theorem i11_24 : Ins prog_56_method_2_code 24 (.iconst 0) 1 25 := ⟨by decide +kernel, rfl⟩
theorem i11_25 : Ins prog_56_method_2_code 25 (.ireturn) 1 26 := ⟨by decide +kernel, rfl⟩
theorem i12_0 : Ins jdk_42_method_3_code 0 (.aload_n 0) 1 1 := ⟨by decide +kernel, rfl⟩
theorem i12_1 : Ins jdk_42_method_3_code 1 (.aload_n 1) 1 2 := ⟨by decide +kernel, rfl⟩
theorem i12_2 : Ins jdk_42_method_3_code 2 (.iconst 0) 1 3 := ⟨by decide +kernel, rfl⟩
theorem i12_3 : Ins jdk_42_method_3_code 3 (.aload_n 1) 1 4 := ⟨by decide +kernel, rfl⟩
theorem i12_4 : Ins jdk_42_method_3_code 4 (.arraylength) 1 5 := ⟨by decide +kernel, rfl⟩
theorem i12_5 : Ins jdk_42_method_3_code 5 (.aconst_null) 1 6 := ⟨by decide +kernel, rfl⟩
theorem i12_6 : Ins jdk_42_method_3_code 6 (.invokespecial 27) 3 9 := ⟨by decide +kernel, rfl⟩
theorem i12_9 : Ins jdk_42_method_3_code 9 (.return_) 1 10 := ⟨by decide +kernel, rfl⟩
theorem i13_0 : Ins jdk_42_method_149_code 0 (.aload_n 0) 1 1 := ⟨by decide +kernel, rfl⟩
theorem i13_1 : Ins jdk_42_method_149_code 1 (.invokespecial 1) 3 4 := ⟨by decide +kernel, rfl⟩
theorem i13_4 : Ins jdk_42_method_149_code 4 (.iload_n 3) 1 5 := ⟨by decide +kernel, rfl⟩
theorem i13_5 : Ins jdk_42_method_149_code 5 (.ifCond .ne 22) 3 8 := ⟨by decide +kernel, rfl⟩
theorem i13_27 : Ins jdk_42_method_149_code 27 (.getstatic 38) 3 30 := ⟨by decide +kernel, rfl⟩
theorem i13_30 : Ins jdk_42_method_149_code 30 (.ifCond .eq 28) 3 33 := ⟨by decide +kernel, rfl⟩
theorem i13_33 : Ins jdk_42_method_149_code 33 (.aload_n 1) 1 34 := ⟨by decide +kernel, rfl⟩
theorem i13_34 : Ins jdk_42_method_149_code 34 (.iload_n 2) 1 35 := ⟨by decide +kernel, rfl⟩
theorem i13_35 : Ins jdk_42_method_149_code 35 (.iload_n 3) 1 36 := ⟨by decide +kernel, rfl⟩
theorem i13_36 : Ins jdk_42_method_149_code 36 (.invokestatic 177) 3 39 := ⟨by decide +kernel, rfl⟩
theorem i13_39 : Ins jdk_42_method_149_code 39 (.astore 5) 2 41 := ⟨by decide +kernel, rfl⟩
theorem i13_41 : Ins jdk_42_method_149_code 41 (.aload_n 0) 1 42 := ⟨by decide +kernel, rfl⟩
theorem i13_42 : Ins jdk_42_method_149_code 42 (.aload 5) 2 44 := ⟨by decide +kernel, rfl⟩
theorem i13_44 : Ins jdk_42_method_149_code 44 (.iload_n 3) 1 45 := ⟨by decide +kernel, rfl⟩
theorem i13_45 : Ins jdk_42_method_149_code 45 (.invokestatic 47) 3 48 := ⟨by decide +kernel, rfl⟩
theorem i13_48 : Ins jdk_42_method_149_code 48 (.putfield 15) 3 51 := ⟨by decide +kernel, rfl⟩
theorem i13_51 : Ins jdk_42_method_149_code 51 (.aload_n 0) 1 52 := ⟨by decide +kernel, rfl⟩
theorem i13_52 : Ins jdk_42_method_149_code 52 (.aload 5) 2 54 := ⟨by decide +kernel, rfl⟩
theorem i13_54 : Ins jdk_42_method_149_code 54 (.putfield 9) 3 57 := ⟨by decide +kernel, rfl⟩
theorem i13_57 : Ins jdk_42_method_149_code 57 (.return_) 1 58 := ⟨by decide +kernel, rfl⟩
theorem i14_0 : Ins jdk_52_method_16_code 0 (.iload_n 2) 1 1 := ⟨by decide +kernel, rfl⟩
theorem i14_1 : Ins jdk_52_method_16_code 1 (.newarray .byte) 2 3 := ⟨by decide +kernel, rfl⟩
theorem i14_3 : Ins jdk_52_method_16_code 3 (.astore_n 3) 1 4 := ⟨by decide +kernel, rfl⟩
theorem i14_4 : Ins jdk_52_method_16_code 4 (.aload_n 0) 1 5 := ⟨by decide +kernel, rfl⟩
theorem i14_5 : Ins jdk_52_method_16_code 5 (.iload_n 1) 1 6 := ⟨by decide +kernel, rfl⟩
theorem i14_6 : Ins jdk_52_method_16_code 6 (.aload_n 3) 1 7 := ⟨by decide +kernel, rfl⟩
theorem i14_7 : Ins jdk_52_method_16_code 7 (.iconst 0) 1 8 := ⟨by decide +kernel, rfl⟩
theorem i14_8 : Ins jdk_52_method_16_code 8 (.iload_n 2) 1 9 := ⟨by decide +kernel, rfl⟩
theorem i14_9 : Ins jdk_52_method_16_code 9 (.invokestatic 115) 3 12 := ⟨by decide +kernel, rfl⟩
theorem i14_12 : Ins jdk_52_method_16_code 12 (.istore 4) 2 14 := ⟨by decide +kernel, rfl⟩
theorem i14_14 : Ins jdk_52_method_16_code 14 (.iload 4) 2 16 := ⟨by decide +kernel, rfl⟩
theorem i14_16 : Ins jdk_52_method_16_code 16 (.iload_n 2) 1 17 := ⟨by decide +kernel, rfl⟩
theorem i14_17 : Ins jdk_52_method_16_code 17 (.if_icmp .eq 40) 3 20 := ⟨by decide +kernel, rfl⟩
theorem i14_57 : Ins jdk_52_method_16_code 57 (.aload_n 3) 1 58 := ⟨by decide +kernel, rfl⟩
theorem i14_58 : Ins jdk_52_method_16_code 58 (.areturn) 1 59 := ⟨by decide +kernel, rfl⟩
theorem i15_0 : Ins jdk_52_method_21_code 0 (.iconst 0) 1 1 := ⟨by decide +kernel, rfl⟩
theorem i15_1 : Ins jdk_52_method_21_code 1 (.istore 5) 2 3 := ⟨by decide +kernel, rfl⟩
theorem i15_3 : Ins jdk_52_method_21_code 3 (.iload 5) 2 5 := ⟨by decide +kernel, rfl⟩
theorem i15_5 : Ins jdk_52_method_21_code 5 (.iload 4) 2 7 := ⟨by decide +kernel, rfl⟩
theorem i15_7 : Ins jdk_52_method_21_code 7 (.if_icmp .ge 37) 3 10 := ⟨by decide +kernel, rfl⟩
theorem i15_10 : Ins jdk_52_method_21_code 10 (.aload_n 0) 1 11 := ⟨by decide +kernel, rfl⟩
theorem i15_11 : Ins jdk_52_method_21_code 11 (.iload_n 1) 1 12 := ⟨by decide +kernel, rfl⟩
theorem i15_12 : Ins jdk_52_method_21_code 12 (.caload) 1 13 := ⟨by decide +kernel, rfl⟩
theorem i15_13 : Ins jdk_52_method_21_code 13 (.istore 6) 2 15 := ⟨by decide +kernel, rfl⟩
theorem i15_15 : Ins jdk_52_method_21_code 15 (.iload 6) 2 17 := ⟨by decide +kernel, rfl⟩
theorem i15_17 : Ins jdk_52_method_21_code 17 (.sipush 255) 3 20 := ⟨by decide +kernel, rfl⟩
theorem i15_20 : Ins jdk_52_method_21_code 20 (.if_icmp .le 6) 3 23 := ⟨by decide +kernel, rfl⟩
theorem i15_26 : Ins jdk_52_method_21_code 26 (.aload_n 2) 1 27 := ⟨by decide +kernel, rfl⟩
theorem i15_27 : Ins jdk_52_method_21_code 27 (.iload_n 3) 1 28 := ⟨by decide +kernel, rfl⟩
theorem i15_28 : Ins jdk_52_method_21_code 28 (.iload 6) 2 30 := ⟨by decide +kernel, rfl⟩
theorem i15_30 : Ins jdk_52_method_21_code 30 (.i2b) 1 31 := ⟨by decide +kernel, rfl⟩
theorem i15_31 : Ins jdk_52_method_21_code 31 (.bastore) 1 32 := ⟨by decide +kernel, rfl⟩
theorem i15_32 : Ins jdk_52_method_21_code 32 (.iinc 1 1) 3 35 := ⟨by decide +kernel, rfl⟩
theorem i15_35 : Ins jdk_52_method_21_code 35 (.iinc 3 1) 3 38 := ⟨by decide +kernel, rfl⟩
theorem i15_38 : Ins jdk_52_method_21_code 38 (.iinc 5 1) 3 41 := ⟨by decide +kernel, rfl⟩
theorem i15_41 : Ins jdk_52_method_21_code 41 (.goto (-38)) 3 44 := ⟨by decide +kernel, rfl⟩
theorem i15_44 : Ins jdk_52_method_21_code 44 (.iload 4) 2 46 := ⟨by decide +kernel, rfl⟩
theorem i15_46 : Ins jdk_52_method_21_code 46 (.ireturn) 1 47 := ⟨by decide +kernel, rfl⟩
theorem i16_0 : Ins jdk_52_method_15_code 0 (.iload_n 1) 1 1 := ⟨by decide +kernel, rfl⟩
theorem i16_1 : Ins jdk_52_method_15_code 1 (.aload_n 0) 1 2 := ⟨by decide +kernel, rfl⟩
theorem i16_2 : Ins jdk_52_method_15_code 2 (.arraylength) 1 3 := ⟨by decide +kernel, rfl⟩
theorem i16_3 : Ins jdk_52_method_15_code 3 (.isub) 1 4 := ⟨by decide +kernel, rfl⟩
theorem i16_4 : Ins jdk_52_method_15_code 4 (.bipush 31) 2 6 := ⟨by decide +kernel, rfl⟩
theorem i16_6 : Ins jdk_52_method_15_code 6 (.iushr) 1 7 := ⟨by decide +kernel, rfl⟩
theorem i16_7 : Ins jdk_52_method_15_code 7 (.i2b) 1 8 := ⟨by decide +kernel, rfl⟩
theorem i16_8 : Ins jdk_52_method_15_code 8 (.ireturn) 1 9 := ⟨by decide +kernel, rfl⟩
theorem pd_0 : parseMethodDescriptor "(C)Z" = some ⟨[.char], some .boolean⟩ := by decide +kernel
theorem pd_1 : parseMethodDescriptor "(C)[B" = some ⟨[.char], some (.array .byte)⟩ := by decide +kernel
theorem pd_2 : parseMethodDescriptor "([BB)V" = some ⟨[(.array .byte), .byte], none⟩ := by decide +kernel
theorem pd_3 : parseMethodDescriptor "([CI[BII)I" = some ⟨[(.array .char), .int, (.array .byte), .int, .int], some .int⟩ := by decide +kernel
theorem pd_4 : parseMethodDescriptor "([CII)[B" = some ⟨[(.array .char), .int, .int], some (.array .byte)⟩ := by decide +kernel
theorem pd_5 : parseMethodDescriptor "([BI)B" = some ⟨[(.array .byte), .int], some .byte⟩ := by decide +kernel
theorem pd_6 : parseMethodDescriptor "([CIILjava/lang/Void;)V" = some ⟨[(.array .char), .int, .int, (.object "java/lang/Void")], none⟩ := by decide +kernel
theorem pd_7 : parseMethodDescriptor "()V" = some ⟨[], none⟩ := by decide +kernel
theorem pd_8 : parseMethodDescriptor "(Ljava/lang/Object;Ljava/lang/String;)Ljava/lang/Object;" = some ⟨[(.object "java/lang/Object"), (.object "java/lang/String")], some (.object "java/lang/Object")⟩ := by decide +kernel
theorem pd_9 : parseMethodDescriptor "(Ljava/lang/String;JJ)V" = some ⟨[(.object "java/lang/String"), .long, .long], none⟩ := by decide +kernel
theorem pd_10 : parseMethodDescriptor "(C)Ljava/lang/String;" = some ⟨[.char], some (.object "java/lang/String")⟩ := by decide +kernel
theorem pd_11 : parseMethodDescriptor "(Ljava/lang/String;)Lcom/example/witnesseth/witnesseth/input/Location;" = some ⟨[(.object "java/lang/String")], some (.object "com/example/witnesseth/witnesseth/input/Location")⟩ := by decide +kernel
theorem pd_12 : parseMethodDescriptor "(Lcom/example/witnesseth/witnesseth/terms/Token$Kind;Ljava/lang/String;Lcom/example/witnesseth/witnesseth/input/Location;)V" = some ⟨[(.object "com/example/witnesseth/witnesseth/terms/Token$Kind"), (.object "java/lang/String"), (.object "com/example/witnesseth/witnesseth/input/Location")], none⟩ := by decide +kernel
theorem pd_13 : parseMethodDescriptor "()Z" = some ⟨[], some .boolean⟩ := by decide +kernel
theorem pd_14 : parseMethodDescriptor "([C)V" = some ⟨[(.array .char)], none⟩ := by decide +kernel
theorem own_cc {x : Int32} (h : ¬ x < 0 ∧ ¬ (65535 : Int32) < x) : nar .char x = x := by
  have e1 : (0 : Int32).toInt = 0 := rfl
  have e2 : (65535 : Int32).toInt = 65535 := rfl
  rw [Int32.lt_iff_toInt_lt, Int32.lt_iff_toInt_lt] at h
  have := c_i2c x
  have e : nar .char x = x.toUInt32.toUInt16.toUInt32.toInt32 := rfl
  rw [e]
  apply Int32.toInt_inj.mp
  omega
theorem own_bb (b : Int32) : b.toInt8.toInt32.toInt8.toInt32 = b.toInt8.toInt32 := by simp
theorem own_m255 (x : Int32) : ¬ (x &&& 255) < 0 ∧ ¬ (255 : Int32) < (x &&& 255) := by
  have h : (x &&& 255).toInt = x.toInt % (2 ^ 8 : Nat) := c_mask x 255 8 (by decide) (by decide)
  have e1 : (0 : Int32).toInt = 0 := rfl
  have e2 : (255 : Int32).toInt = 255 := rfl
  rw [Int32.lt_iff_toInt_lt, Int32.lt_iff_toInt_lt]
  omega
theorem own_255 {x : Int32} (h : ¬ x < 0 ∧ ¬ (255 : Int32) < x) : ¬ x < 0 ∧ ¬ (65535 : Int32) < x := by
  have e1 : (0 : Int32).toInt = 0 := rfl
  have e2 : (65535 : Int32).toInt = 65535 := rfl
  have e3 : (255 : Int32).toInt = 255 := rfl
  rw [Int32.lt_iff_toInt_lt, Int32.lt_iff_toInt_lt] at h ⊢
  omega
theorem own_i2c {x : Int32} (h : ¬ x < 0 ∧ ¬ (255 : Int32) < x) : x.toUInt32.toUInt16.toUInt32.toInt32 = x := own_cc (own_255 h)
theorem own_eqI {args : Array Value} {s : State} {t u : Term} {x y : Int32} (ht : t.eval args s none [] s = some (.int x)) (hu : u.eval args s none [] s = some (.int y)) : (Jvm.Cond.eq t u).value args s none s [] = some (decide (x = y)) := by simp [Cond.value, ht, hu]

theorem own_sa {Z : State} {a0 : Array Value} (hw : Wds Z a0) : ∀ a ∈ Bundle.stringAtoms, a.before a0 Z = true := fun a ha => by
  simp only [Bundle.stringAtoms, List.mem_cons, List.not_mem_nil, or_false] at ha
  rcases ha with rfl | rfl | rfl | rfl | rfl | rfl | rfl
  · exact (w6 hw)
  · exact (w14 hw)
  · exact (w18 hw)
  · exact (w27 hw)
  · exact (w29 hw)
  · exact (w46 hw)
  · exact (w47 hw)
theorem own_narR {v : Value} {t : FieldType} (h : v.isRef = true) : narrow t v = v := by cases v <;> simp [Value.isRef] at h <;> (cases t <;> rfl)
theorem own_fitR {v : Value} {t : FieldType} (h : v.isRef = true) (ht : t.isReference = true := by rfl) : fits t v = true := by cases v <;> simp [Value.isRef] at h <;> (cases t <;> first | rfl | (simp [FieldType.isReference] at ht))
set_option maxRecDepth 65536 in
set_option maxHeartbeats 4000000 in
theorem own_can (l : Launch) (Z : State) (a0 : Array Value) (hw : Wds Z a0) (n0 : Nat) (c : Int32) (h0 : Heap) (hc : ¬ (255 : Int32) < c) : Con true l Z [] n0 (⟨"java/lang/StringLatin1", "canEncode", "(C)Z"⟩ : MethodName) jdk_43_method_3_code 1 (some .boolean) ({ frames := 0, cells := 0, slots := 0, locals := 0 } : Room) #[(.int c)] [] h0 (fun v h D' => v = some (.int 1) ∧ h0 = h ∧ D' = []) := by
  refine Con.of_runs (ls := #[.val (.int c)]) (by decide +kernel) (fun m => rfl) ?_
  refine Runs.iloadN i2_0 rfl ?_
  refine Runs.sipush (v := (255 : Int32)) i2_1 (by decide) ?_
  refine Runs.icN i2_4 (flt hc).2.2.1 ?_
  refine Runs.iconst (v := (1 : Int32)) i2_7 (by decide) ?_
  refine Runs.goto (t := 12) i2_8 (by decide) ?_
  exact Runs.retI (z := (1 : Int32)) i2_12 rfl (Or.inr (Or.inl rfl)) (by decide) (by decide) (by decide) ⟨rfl, rfl, rfl⟩
set_option maxRecDepth 65536 in
set_option maxHeartbeats 4000000 in
theorem own_tb1 (l : Launch) (Z : State) (a0 : Array Value) (hw : Wds Z a0) (n0 : Nat) (c : Int32) (h0 : Heap) : Con true l Z [] n0 (⟨"java/lang/StringLatin1", "toBytes", "(C)[B"⟩ : MethodName) jdk_43_method_46_code 1 (some (.array .byte)) ({ frames := 0, cells := 1, slots := 1, locals := 0 } : Room) #[(.int c)] [] h0 (fun v h D' => ∃ b k, v = some (.ref b) ∧ h0.size ≤ b ∧ Keep h0 h [] ∧ Arv Z h b k .byte (1 : Int32) [.int ((Int32.toInt8 c).toInt32)] (.int 0) ∧ D' = [b]) := by
  refine Con.of_runs (ls := #[.val (.int c)]) (by decide +kernel) (fun m => rfl) ?_
  refine Runs.iconst (v := (1 : Int32)) i3_0 (by decide) ?_
  refine Runs.newP (cap := 1) (ad := "[B") i3_1 (w18 hw) (by decide) (by decide) (by decide) (by decide) (by decide) rfl ?_
  intro h_1 b_2 k_3 g_6 ge_7 K_4 (A_5 : Arv Z h_1 b_2 k_3 .byte (1 : Int32) [] (.int (0 : Int32))) E_8
  have A_9 : Arv Z h_1 b_2 k_3 .byte (1 : Int32) [(.int (0 : Int32))] (.int (0 : Int32)) := A_5.pad (pad_rep [] (.int (0 : Int32)) 1)
  refine Runs.dup i3_3 rfl ?_
  refine Runs.iconst (v := (0 : Int32)) i3_4 (by decide) ?_
  refine Runs.iloadN i3_5 rfl ?_
  obtain ⟨x_10, hx_10⟩ : ∃ z : Int32, (Int32.toInt8 c).toInt32 = z := ⟨_, rfl⟩
  refine Runs.i2b i3_6 hx_10 ?_
  refine Runs.bastore (i := 0) (y := ((Int32.toInt8 c).toInt32)) i3_7 A_9 ⟨by decide, by decide⟩ (by decide) (Nat.le_of_ble_eq_true rfl) (by rw [← hx_10]; exact own_bb _) ge_7 (Or.inl (List.mem_of_getElem? (i := 0) rfl)) ?_
  intro h_11 K_12 (A_13 : Arv Z h_11 b_2 k_3 .byte (1 : Int32) [(.int ((Int32.toInt8 c).toInt32))] (.int (0 : Int32)))
  exact Runs.retA i3_8 rfl rfl rfl (by decide) (by decide) ⟨b_2, k_3, rfl, g_6, (((Keep.refl _ _).trans K_4 all0).trans K_12 (allS (Or.inr (Nat.le_trans (Nat.le_refl _) g_6)) all0)), A_13, rfl⟩
set_option maxRecDepth 65536 in
set_option maxHeartbeats 4000000 in
theorem own_sbb (l : Launch) (Z : State) (a0 : Array Value) (hw : Wds Z a0) (n0 : Nat) (a t : Addr) (cd : Int32) (hcn : narrow .byte (.int cd) = .int cd) (hcf : fits .byte (.int cd) = true) (h0 : Heap) (ga : n0 ≤ a) (O0 : Obj Z h0 a "java/lang/String" [("java/lang/String", "value", "[B", .null), ("java/lang/String", "coder", "B", (.int (0 : Int32)))]) : Con true l Z [] n0 (⟨"java/lang/String", "<init>", "([BB)V"⟩ : MethodName) jdk_42_method_151_code 3 none ({ frames := 1, cells := 0, slots := 0, locals := 12 } : Room) #[(.ref a), (.ref t), (.int cd)] [a] h0 (fun v h D' => v = none ∧ Keep h0 h [a] ∧ Obj Z h a "java/lang/String" [("java/lang/String", "value", "[B", (.ref t)), ("java/lang/String", "coder", "B", (.int cd))] ∧ D' = []) := by
  refine Con.of_runs (ls := #[.val (.ref a), .val (.ref t), .val (.int cd)]) (by decide +kernel) (fun m => rfl) ?_
  refine Runs.aloadN i4_0 rfl rfl ?_
  refine Runs.initO (W := 0) i4_1 (w23 hw) (w24 hw) (w25 hw) rfl (by decide) rfl (by decide) ?_
  refine Runs.aloadN i4_4 rfl rfl ?_
  refine Runs.aloadN i4_5 rfl rfl ?_
  refine Runs.putF (i := 0) (ty := (.array .byte)) i4_6 (host := "") (Or.inl (w26 hw)) Via.refl O0 rfl (lay_0 hw) rfl (Or.inr ⟨(w27 hw), rfl, rfl⟩) (w14 hw) (by decide) rfl rfl ga (Or.inl (List.mem_of_getElem? (i := 0) rfl)) ?_
  intro h_1 K_2 (O_3 : Obj Z h_1 a "java/lang/String" [("java/lang/String", "value", "[B", (.ref t)), ("java/lang/String", "coder", "B", (.int (0 : Int32)))])
  refine Runs.aloadN i4_9 rfl rfl ?_
  refine Runs.iloadN i4_10 rfl ?_
  refine Runs.putF (i := 1) (ty := .byte) i4_11 (host := "") (Or.inl (w28 hw)) Via.refl O_3 rfl (lay_0 hw) rfl (Or.inr ⟨(w29 hw), rfl, rfl⟩) (w14 hw) (by decide) hcn hcf ga (Or.inl (List.mem_of_getElem? (i := 0) rfl)) ?_
  intro h_4 K_5 (O_6 : Obj Z h_4 a "java/lang/String" [("java/lang/String", "value", "[B", (.ref t)), ("java/lang/String", "coder", "B", (.int cd))])
  exact Runs.weak (D1 := []) (fun _ q => nomatch q) (Runs.retV i4_14 rfl (by decide) (by decide) ⟨rfl, (((Keep.refl _ _).trans K_2 (allS (Or.inl (List.mem_of_getElem? (i := 0) rfl)) all0)).trans K_5 (allS (Or.inl (List.mem_of_getElem? (i := 0) rfl)) all0)), O_6, rfl⟩)
set_option maxRecDepth 65536 in
set_option maxHeartbeats 4000000 in
theorem own_vof (l : Launch) (Z : State) (a0 : Array Value) (hw : Wds Z a0) (n0 : Nat) (c cpt : Int32) (h0 : Heap) (hc : ¬ (255 : Int32) < c) (S_C : Sta Z Z.heap "java/lang/String" "COMPACT_STRINGS" "Z" (.int cpt)) (hcpt : ¬ cpt = 0) : Con true l Z [] n0 (⟨"java/lang/String", "valueOf", "(C)Ljava/lang/String;"⟩ : MethodName) jdk_42_method_139_code 1 (some (.object "java/lang/String")) ({ frames := 2, cells := 2, slots := 5, locals := 27 } : Room) #[(.int c)] [] h0 (fun v h D' => ∃ b t k, v = some (.ref b) ∧ h0.size ≤ b ∧ h0.size ≤ t ∧ Keep h0 h [] ∧ Obj Z h b "java/lang/String" [("java/lang/String", "value", "[B", (.ref t)), ("java/lang/String", "coder", "B", (.int (0 : Int32)))] ∧ Arv Z h t k .byte (1 : Int32) [.int ((Int32.toInt8 c).toInt32)] (.int 0) ∧ D' = []) := by
  refine Con.of_runs (ls := #[.val (.int c)]) (by decide +kernel) (fun m => rfl) ?_
  refine Runs.getS i1_0 (w8 hw) Via.refl S_C ?_
  refine Runs.ifN i1_3 (feq hcpt).1 ?_
  refine Runs.iloadN i1_6 rfl ?_
  refine Runs.callSW (argsL := [(.int c)]) (rest := []) (W := 0) i1_7 (w9 hw) (w10 hw) (w11 hw) (w12 hw) (by decide) pd_0 rfl rfl rfl rfl (by decide) (by decide) (by decide) (by decide) all0 (own_can l Z a0 hw n0 c _ hc) ?_
  intro v h1 D1 q hsz
  obtain ⟨rfl, rfl, rfl⟩ := q
  show Runs true l Z [] n0 _ _ _ _ _ _ _ [] h0 0 0 10 #[.val (.int c)] [(.int (1 : Int32))]
  refine Runs.ifN i1_10 (feq (by decide : ¬ ((1 : Int32) = (0 : Int32)))).1 ?_
  refine Runs.newO i1_13 (w13 hw) (w14 hw) (w6 hw) (lay_0 hw) (by decide) (by decide) ?_
  intro h_1 b_2 g_5 ge_6 K_3 (O_4 : Obj Z h_1 b_2 "java/lang/String" [("java/lang/String", "value", "[B", .null), ("java/lang/String", "coder", "B", (.int (0 : Int32)))]) U_7
  refine Runs.dup i1_16 rfl ?_
  refine Runs.iloadN i1_17 rfl ?_
  refine Runs.callSW (argsL := [(.int c)]) (rest := [(.ref b_2), (.ref b_2)]) (W := 2) i1_18 (w15 hw) (w16 hw) (w11 hw) (w17 hw) (by decide) pd_1 rfl rfl rfl rfl (by decide) (by decide) (by decide) (by decide) all0 (own_tb1 l Z a0 hw n0 c _) ?_
  intro v h_13 D1 q hsz
  obtain ⟨b_8, k_9, rfl, g_10, K_11, A_12, rfl⟩ := q
  show Runs true l Z [] n0 _ _ _ _ _ _ _ [b_8, b_2] h_13 2 5 21 #[.val (.int c)] [(.ref b_8), (.ref b_2), (.ref b_2)]
  refine Runs.iconst (v := (0 : Int32)) i1_21 (by decide) ?_
  have O_14 := (O_4.keep K_11 nin0)
  refine Runs.callCW (argsL := [(.ref b_8), (.int (0 : Int32))]) (rest := [(.ref b_2)]) (W := 1) i1_22 rfl (w19 hw) (w20 hw) (w22 hw) (w6 hw) (by decide) pd_2 rfl rfl rfl rfl (by decide) (by decide) (by decide) (by decide) (allS (List.mem_of_getElem? (i := 1) rfl) all0) (own_sbb l Z a0 hw n0 b_2 b_8 (0 : Int32) rfl rfl _ ge_6 O_14) ?_
  intro v h_17 D1 q hsz
  obtain ⟨rfl, K_15, O_16, rfl⟩ := q
  show Runs true l Z [] n0 _ _ _ _ _ _ _ [b_8, b_2] h_17 2 5 25 #[.val (.int c)] [(.ref b_2)]
  have A_18 := (A_12.keep K_15 (ninS (Nat.ne_of_gt (Nat.lt_of_lt_of_le (Nat.lt_of_lt_of_le O_4.lt (Nat.le_refl _)) g_10)) nin0))
  refine Runs.weak (D1 := []) (fun _ q => nomatch q) ?_
  exact Runs.retA i1_25 rfl rfl rfl (by decide) (by decide) ⟨b_2, b_8, k_9, rfl, g_5, (Nat.le_trans K_3.1 g_10), ((((Keep.refl _ _).trans K_3 all0).trans K_11 all0).trans K_15 (allS (Or.inr (Nat.le_trans (Nat.le_refl _) g_5)) all0)), O_16, A_18, rfl⟩
set_option maxRecDepth 65536 in
set_option maxHeartbeats 4000000 in
theorem own_cpI2 (l : Launch) (Z : State) (a0 : Array Value) (hw : Wds Z a0) (n0 : Nat) (c0 : Int32) (hc0 : ¬ c0 < 0 ∧ ¬ (255 : Int32) < c0) (c1 : Int32) (hc1 : ¬ c1 < 0 ∧ ¬ (255 : Int32) < c1) (u t : Addr) (ku kt : ClassId) (hut : u ≠ t) (gt : n0 ≤ t) (h0 : Heap) (U0 : Arv Z h0 u ku .char (2 : Int32) [(.int c0), (.int c1)] (.int 0)) (T0 : Arv Z h0 t kt .byte (2 : Int32) [(.int (0 : Int32)), (.int (0 : Int32))] (.int 0)) : Con true l Z [] n0 (⟨"java/lang/StringUTF16", "compress", "([CI[BII)I"⟩ : MethodName) jdk_52_method_21_code 7 (some .int) ({ frames := 0, cells := 0, slots := 0, locals := 0 } : Room) #[(.ref u), (.int (0 : Int32)), (.ref t), (.int (0 : Int32)), (.int (2 : Int32))] [t] h0 (fun v h D' => v = some (.int (2 : Int32)) ∧ Keep h0 h [t] ∧ Arv Z h t kt .byte (2 : Int32) [(.int ((Int32.toInt8 c0).toInt32)), (.int ((Int32.toInt8 c1).toInt32))] (.int 0) ∧ D' = []) := by
  refine Con.of_runs (ls := #[.val (.ref u), .val (.int (0 : Int32)), .val (.ref t), .val (.int (0 : Int32)), .val (.int (2 : Int32)), .unset, .unset]) (by decide +kernel) (fun m => rfl) ?_
  refine Runs.iconst (v := (0 : Int32)) i15_0 (by decide) ?_
  refine Runs.istore (ls' := #[.val (.ref u), .val (.int (0 : Int32)), .val (.ref t), .val (.int (0 : Int32)), .val (.int (2 : Int32)), .val (.int (0 : Int32)), .unset]) i15_1 rfl ?_
  refine Runs.iload i15_3 rfl ?_
  refine Runs.iload i15_5 rfl ?_
  refine Runs.icN i15_7 (tlt (by decide : (0 : Int32) < (2 : Int32))).2.1 ?_
  refine Runs.aloadN i15_10 rfl rfl ?_
  refine Runs.iloadN i15_11 rfl ?_
  refine Runs.caload (v := (.int c0)) i15_12 U0 ⟨by decide, by decide⟩ rfl ?_
  refine Runs.istore (ls' := #[.val (.ref u), .val (.int (0 : Int32)), .val (.ref t), .val (.int (0 : Int32)), .val (.int (2 : Int32)), .val (.int (0 : Int32)), .val (.int c0)]) i15_13 rfl ?_
  refine Runs.iload i15_15 rfl ?_
  refine Runs.sipush (v := (255 : Int32)) i15_17 (by decide) ?_
  refine Runs.icY (t := 26) i15_20 (by decide) (flt hc0.2).2.2.2 ?_
  refine Runs.aloadN i15_26 rfl rfl ?_
  refine Runs.iloadN i15_27 rfl ?_
  refine Runs.iload i15_28 rfl ?_
  obtain ⟨x_1, hx_1⟩ : ∃ z : Int32, (Int32.toInt8 c0).toInt32 = z := ⟨_, rfl⟩
  refine Runs.i2b i15_30 hx_1 ?_
  refine Runs.bastore (i := 0) (y := ((Int32.toInt8 c0).toInt32)) i15_31 T0 ⟨by decide, by decide⟩ (by decide) (Nat.le_of_ble_eq_true rfl) (by rw [← hx_1]; exact own_bb _) gt (Or.inl (List.mem_of_getElem? (i := 0) rfl)) ?_
  intro h_2 K_3 (A_4 : Arv Z h_2 t kt .byte (2 : Int32) [(.int ((Int32.toInt8 c0).toInt32)), (.int (0 : Int32))] (.int 0))
  refine Runs.iinc (z := (1 : Int32)) (ls' := #[.val (.ref u), .val (.int (1 : Int32)), .val (.ref t), .val (.int (0 : Int32)), .val (.int (2 : Int32)), .val (.int (0 : Int32)), .val (.int c0)]) i15_32 rfl (by decide) rfl ?_
  refine Runs.iinc (z := (1 : Int32)) (ls' := #[.val (.ref u), .val (.int (1 : Int32)), .val (.ref t), .val (.int (1 : Int32)), .val (.int (2 : Int32)), .val (.int (0 : Int32)), .val (.int c0)]) i15_35 rfl (by decide) rfl ?_
  refine Runs.iinc (z := (1 : Int32)) (ls' := #[.val (.ref u), .val (.int (1 : Int32)), .val (.ref t), .val (.int (1 : Int32)), .val (.int (2 : Int32)), .val (.int (1 : Int32)), .val (.int c0)]) i15_38 rfl (by decide) rfl ?_
  refine Runs.goto (t := 3) i15_41 (by decide) ?_
  refine Runs.iload i15_3 rfl ?_
  refine Runs.iload i15_5 rfl ?_
  refine Runs.icN i15_7 (tlt (by decide : (1 : Int32) < (2 : Int32))).2.1 ?_
  refine Runs.aloadN i15_10 rfl rfl ?_
  refine Runs.iloadN i15_11 rfl ?_
  have A_5 := (U0.keep K_3 (ninS hut nin0))
  refine Runs.caload (v := (.int c1)) i15_12 A_5 ⟨by decide, by decide⟩ rfl ?_
  refine Runs.istore (ls' := #[.val (.ref u), .val (.int (1 : Int32)), .val (.ref t), .val (.int (1 : Int32)), .val (.int (2 : Int32)), .val (.int (1 : Int32)), .val (.int c1)]) i15_13 rfl ?_
  refine Runs.iload i15_15 rfl ?_
  refine Runs.sipush (v := (255 : Int32)) i15_17 (by decide) ?_
  refine Runs.icY (t := 26) i15_20 (by decide) (flt hc1.2).2.2.2 ?_
  refine Runs.aloadN i15_26 rfl rfl ?_
  refine Runs.iloadN i15_27 rfl ?_
  refine Runs.iload i15_28 rfl ?_
  obtain ⟨x_6, hx_6⟩ : ∃ z : Int32, (Int32.toInt8 c1).toInt32 = z := ⟨_, rfl⟩
  refine Runs.i2b i15_30 hx_6 ?_
  refine Runs.bastore (i := 1) (y := ((Int32.toInt8 c1).toInt32)) i15_31 A_4 ⟨by decide, by decide⟩ (by decide) (Nat.le_of_ble_eq_true rfl) (by rw [← hx_6]; exact own_bb _) gt (Or.inl (List.mem_of_getElem? (i := 0) rfl)) ?_
  intro h_7 K_8 (A_9 : Arv Z h_7 t kt .byte (2 : Int32) [(.int ((Int32.toInt8 c0).toInt32)), (.int ((Int32.toInt8 c1).toInt32))] (.int 0))
  refine Runs.iinc (z := (2 : Int32)) (ls' := #[.val (.ref u), .val (.int (2 : Int32)), .val (.ref t), .val (.int (1 : Int32)), .val (.int (2 : Int32)), .val (.int (1 : Int32)), .val (.int c1)]) i15_32 rfl (by decide) rfl ?_
  refine Runs.iinc (z := (2 : Int32)) (ls' := #[.val (.ref u), .val (.int (2 : Int32)), .val (.ref t), .val (.int (2 : Int32)), .val (.int (2 : Int32)), .val (.int (1 : Int32)), .val (.int c1)]) i15_35 rfl (by decide) rfl ?_
  refine Runs.iinc (z := (2 : Int32)) (ls' := #[.val (.ref u), .val (.int (2 : Int32)), .val (.ref t), .val (.int (2 : Int32)), .val (.int (2 : Int32)), .val (.int (2 : Int32)), .val (.int c1)]) i15_38 rfl (by decide) rfl ?_
  refine Runs.goto (t := 3) i15_41 (by decide) ?_
  refine Runs.iload i15_3 rfl ?_
  refine Runs.iload i15_5 rfl ?_
  refine Runs.icY (t := 44) i15_7 (by decide) (flt (by decide : ¬ ((2 : Int32) < (2 : Int32)))).2.1 ?_
  refine Runs.iload i15_44 rfl ?_
  refine Runs.weak (D1 := []) (fun _ q => nomatch q) ?_
  exact Runs.retI (z := (2 : Int32)) i15_46 rfl (Or.inl rfl) rfl (by decide) (by decide) ⟨rfl, (((Keep.refl _ _).trans K_3 (allS (Or.inl (List.mem_of_getElem? (i := 0) rfl)) all0)).trans K_8 (allS (Or.inl (List.mem_of_getElem? (i := 0) rfl)) all0)), A_9, rfl⟩
set_option maxRecDepth 65536 in
set_option maxHeartbeats 4000000 in
theorem own_cp2 (l : Launch) (Z : State) (a0 : Array Value) (hw : Wds Z a0) (n0 : Nat) (c0 : Int32) (hc0 : ¬ c0 < 0 ∧ ¬ (255 : Int32) < c0) (c1 : Int32) (hc1 : ¬ c1 < 0 ∧ ¬ (255 : Int32) < c1) (u : Addr) (ku : ClassId) (h0 : Heap) (U0 : Arv Z h0 u ku .char (2 : Int32) [(.int c0), (.int c1)] (.int 0)) : Con true l Z [] n0 (⟨"java/lang/StringUTF16", "compress", "([CII)[B"⟩ : MethodName) jdk_52_method_16_code 6 (some (.array .byte)) ({ frames := 1, cells := 1, slots := 2, locals := 18 } : Room) #[(.ref u), (.int (0 : Int32)), (.int (2 : Int32))] [] h0 (fun v h D' => ∃ b k, v = some (.ref b) ∧ h0.size ≤ b ∧ Keep h0 h [] ∧ Arv Z h b k .byte (2 : Int32) [(.int ((Int32.toInt8 c0).toInt32)), (.int ((Int32.toInt8 c1).toInt32))] (.int 0) ∧ D' = [b]) := by
  refine Con.of_runs (ls := #[.val (.ref u), .val (.int (0 : Int32)), .val (.int (2 : Int32)), .unset, .unset, .unset]) (by decide +kernel) (fun m => rfl) ?_
  refine Runs.iloadN i14_0 rfl ?_
  refine Runs.newP (cap := 2) (ad := "[B") i14_1 (w18 hw) (by decide) (by decide) (by decide) (by decide) (by decide) rfl ?_
  intro h_1 b_2 k_3 g_6 ge_7 K_4 (A_5 : Arv Z h_1 b_2 k_3 .byte (2 : Int32) [] (.int (0 : Int32))) E_8
  have A_9 : Arv Z h_1 b_2 k_3 .byte (2 : Int32) [(.int (0 : Int32)), (.int (0 : Int32))] (.int (0 : Int32)) := A_5.pad (pad_rep [] (.int (0 : Int32)) 2)
  refine Runs.astoreN (ls' := #[.val (.ref u), .val (.int (0 : Int32)), .val (.int (2 : Int32)), .val (.ref b_2), .unset, .unset]) i14_3 rfl rfl ?_
  refine Runs.aloadN i14_4 rfl rfl ?_
  refine Runs.iloadN i14_5 rfl ?_
  refine Runs.aloadN i14_6 rfl rfl ?_
  refine Runs.iconst (v := (0 : Int32)) i14_7 (by decide) ?_
  refine Runs.iloadN i14_8 rfl ?_
  have A_10 := (U0.keep K_4 nin0)
  refine Runs.callSW (argsL := [(.ref u), (.int (0 : Int32)), (.ref b_2), (.int (0 : Int32)), (.int (2 : Int32))]) (rest := []) (W := 0) i14_9 (w93 hw) (w94 hw) (w91 hw) (w95 hw) (by decide) pd_3 rfl rfl rfl rfl (by decide) (by decide) (by decide) (by decide) (allS (List.mem_of_getElem? (i := 0) rfl) all0) (own_cpI2 l Z a0 hw n0 c0 hc0 c1 hc1 u b_2 ku k_3 (Nat.ne_of_lt (Nat.lt_of_lt_of_le (Nat.lt_of_lt_of_le U0.lt (Nat.le_refl _)) g_6)) ge_7 _ A_10 A_9) ?_
  intro v h_13 D1 q hsz
  obtain ⟨rfl, K_11, A_12, rfl⟩ := q
  show Runs true l Z [] n0 _ _ _ _ _ _ _ [b_2] h_13 1 2 12 #[.val (.ref u), .val (.int (0 : Int32)), .val (.int (2 : Int32)), .val (.ref b_2), .unset, .unset] [(.int (2 : Int32))]
  refine Runs.istore (ls' := #[.val (.ref u), .val (.int (0 : Int32)), .val (.int (2 : Int32)), .val (.ref b_2), .val (.int (2 : Int32)), .unset]) i14_12 rfl ?_
  refine Runs.iload i14_14 rfl ?_
  refine Runs.iloadN i14_16 rfl ?_
  refine Runs.icY (t := 57) i14_17 (by decide) (teq (by decide : (2 : Int32) = (2 : Int32))).1 ?_
  refine Runs.aloadN i14_57 rfl rfl ?_
  exact Runs.retA i14_58 rfl rfl rfl (by decide) (by decide) ⟨b_2, k_3, rfl, g_6, (((Keep.refl _ _).trans K_4 all0).trans K_11 (allS (Or.inr (Nat.le_trans (Nat.le_refl _) g_6)) all0)), A_12, rfl⟩
set_option maxRecDepth 65536 in
set_option maxHeartbeats 4000000 in
theorem own_cdl2_2 (l : Launch) (Z : State) (a0 : Array Value) (hw : Wds Z a0) (n0 : Nat) (t : Addr) (kt : ClassId) (vs : List Value) (d : Value) (h0 : Heap) (T0 : Arv Z h0 t kt .byte (2 : Int32) vs d) : Con true l Z [] n0 (⟨"java/lang/StringUTF16", "coderFromArrayLen", "([BI)B"⟩ : MethodName) jdk_52_method_15_code 2 (some .byte) ({ frames := 0, cells := 0, slots := 0, locals := 0 } : Room) #[(.ref t), (.int (2 : Int32))] [] h0 (fun v h D' => v = some (.int (0 : Int32)) ∧ h0 = h ∧ D' = []) := by
  refine Con.of_runs (ls := #[.val (.ref t), .val (.int (2 : Int32))]) (by decide +kernel) (fun m => rfl) ?_
  refine Runs.iloadN i16_0 rfl ?_
  refine Runs.aloadN i16_1 rfl rfl ?_
  refine Runs.arrlen i16_2 T0 ?_
  refine Runs.isub (z := (0 : Int32)) i16_3 (by decide) ?_
  refine Runs.bipush (v := (31 : Int32)) i16_4 (by decide) ?_
  refine Runs.iushr (z := (0 : Int32)) i16_6 (by decide) ?_
  refine Runs.i2b (z := (0 : Int32)) i16_7 (by decide) ?_
  exact Runs.retI (z := (0 : Int32)) i16_8 rfl (Or.inr (Or.inr (Or.inl rfl))) (by decide) (by decide) (by decide) ⟨rfl, rfl, rfl⟩
set_option maxRecDepth 65536 in
set_option maxHeartbeats 4000000 in
theorem own_si4_2 (l : Launch) (Z : State) (a0 : Array Value) (hw : Wds Z a0) (n0 : Nat) (c0 : Int32) (hc0 : ¬ c0 < 0 ∧ ¬ (255 : Int32) < c0) (c1 : Int32) (hc1 : ¬ c1 < 0 ∧ ¬ (255 : Int32) < c1) (a u : Addr) (ku : ClassId) (hua : u ≠ a) (cpt : Int32) (h0 : Heap) (ga : n0 ≤ a) (O0 : Obj Z h0 a "java/lang/String" [("java/lang/String", "value", "[B", .null), ("java/lang/String", "coder", "B", (.int (0 : Int32)))]) (U0 : Arv Z h0 u ku .char (2 : Int32) [(.int c0), (.int c1)] (.int 0)) (S_C : Sta Z Z.heap "java/lang/String" "COMPACT_STRINGS" "Z" (.int cpt)) (hcpt : ¬ cpt = 0) : Con true l Z [] n0 (⟨"java/lang/String", "<init>", "([CIILjava/lang/Void;)V"⟩ : MethodName) jdk_42_method_149_code 6 none ({ frames := 2, cells := 1, slots := 2, locals := 36 } : Room) #[(.ref a), (.ref u), (.int (0 : Int32)), (.int (2 : Int32)), .null] [a] h0 (fun v h D' => v = none ∧ ∃ t k, h0.size ≤ t ∧ Keep h0 h [a] ∧ Obj Z h a "java/lang/String" [("java/lang/String", "value", "[B", (.ref t)), ("java/lang/String", "coder", "B", (.int (0 : Int32)))] ∧ Arv Z h t k .byte (2 : Int32) [(.int ((Int32.toInt8 c0).toInt32)), (.int ((Int32.toInt8 c1).toInt32))] (.int 0) ∧ D' = []) := by
  refine Con.of_runs (ls := #[.val (.ref a), .val (.ref u), .val (.int (0 : Int32)), .val (.int (2 : Int32)), .val .null, .unset]) (by decide +kernel) (fun m => rfl) ?_
  refine Runs.aloadN i13_0 rfl rfl ?_
  refine Runs.initO (W := 0) i13_1 (w23 hw) (w24 hw) (w25 hw) rfl (by decide) rfl (by decide) ?_
  refine Runs.iloadN i13_4 rfl ?_
  refine Runs.ifY (t := 27) i13_5 (by decide) (feq (by decide : ¬ ((2 : Int32) = (0 : Int32)))).2 ?_
  refine Runs.getS i13_27 (w8 hw) Via.refl S_C ?_
  refine Runs.ifN i13_30 (feq hcpt).1 ?_
  refine Runs.aloadN i13_33 rfl rfl ?_
  refine Runs.iloadN i13_34 rfl ?_
  refine Runs.iloadN i13_35 rfl ?_
  refine Runs.callSW (argsL := [(.ref u), (.int (0 : Int32)), (.int (2 : Int32))]) (rest := []) (W := 0) i13_36 (w89 hw) (w90 hw) (w91 hw) (w92 hw) (by decide) pd_4 rfl rfl rfl rfl (by decide) (by decide) (by decide) (by decide) all0 (own_cp2 l Z a0 hw n0 c0 hc0 c1 hc1 u ku _ U0) ?_
  intro v h_6 D1 q hsz
  obtain ⟨b_1, k_2, rfl, g_3, K_4, A_5, rfl⟩ := q
  show Runs true l Z [] n0 _ _ _ _ _ _ _ [b_1, a] h_6 1 2 39 #[.val (.ref a), .val (.ref u), .val (.int (0 : Int32)), .val (.int (2 : Int32)), .val .null, .unset] [(.ref b_1)]
  refine Runs.astore (ls' := #[.val (.ref a), .val (.ref u), .val (.int (0 : Int32)), .val (.int (2 : Int32)), .val .null, .val (.ref b_1)]) i13_39 rfl rfl ?_
  refine Runs.aloadN i13_41 rfl rfl ?_
  refine Runs.aload i13_42 rfl rfl ?_
  refine Runs.iloadN i13_44 rfl ?_
  refine Runs.callSW (argsL := [(.ref b_1), (.int (2 : Int32))]) (rest := [(.ref a)]) (W := 1) i13_45 (w96 hw) (w97 hw) (w91 hw) (w98 hw) (by decide) pd_5 rfl rfl rfl rfl (by decide) (by decide) (by decide) (by decide) all0 (own_cdl2_2 l Z a0 hw n0 b_1 _ _ _ _ A_5) ?_
  intro v h1 D1 q hsz
  obtain ⟨rfl, rfl, rfl⟩ := q
  show Runs true l Z [] n0 _ _ _ _ _ _ _ [b_1, a] h_6 1 2 48 #[.val (.ref a), .val (.ref u), .val (.int (0 : Int32)), .val (.int (2 : Int32)), .val .null, .val (.ref b_1)] [(.int (0 : Int32)), (.ref a)]
  have O_7 := (O0.keep K_4 nin0)
  refine Runs.putF (i := 1) (ty := .byte) i13_48 (host := "") (Or.inl (w28 hw)) Via.refl O_7 rfl (lay_0 hw) rfl (Or.inr ⟨(w29 hw), rfl, rfl⟩) (w14 hw) (by decide) rfl rfl ga (Or.inl (List.mem_of_getElem? (i := 1) rfl)) ?_
  intro h_8 K_9 (O_10 : Obj Z h_8 a "java/lang/String" [("java/lang/String", "value", "[B", .null), ("java/lang/String", "coder", "B", (.int (0 : Int32)))])
  refine Runs.aloadN i13_51 rfl rfl ?_
  refine Runs.aload i13_52 rfl rfl ?_
  refine Runs.putF (i := 0) (ty := (.array .byte)) i13_54 (host := "") (Or.inl (w26 hw)) Via.refl O_10 rfl (lay_0 hw) rfl (Or.inr ⟨(w27 hw), rfl, rfl⟩) (w14 hw) (by decide) rfl rfl ga (Or.inl (List.mem_of_getElem? (i := 1) rfl)) ?_
  intro h_11 K_12 (O_13 : Obj Z h_11 a "java/lang/String" [("java/lang/String", "value", "[B", (.ref b_1)), ("java/lang/String", "coder", "B", (.int (0 : Int32)))])
  have A_14 := ((A_5.keep K_9 (ninS (Nat.ne_of_gt (Nat.lt_of_lt_of_le (Nat.lt_of_lt_of_le O0.lt (Nat.le_refl _)) g_3)) nin0)).keep K_12 (ninS (Nat.ne_of_gt (Nat.lt_of_lt_of_le (Nat.lt_of_lt_of_le O0.lt (Nat.le_refl _)) g_3)) nin0))
  refine Runs.weak (D1 := []) (fun _ q => nomatch q) ?_
  exact Runs.retV i13_57 rfl (by decide) (by decide) ⟨rfl, b_1, k_2, (Nat.le_trans (Nat.le_refl _) g_3), ((((Keep.refl _ _).trans K_4 all0).trans K_9 (allS (Or.inl (List.mem_of_getElem? (i := 0) rfl)) all0)).trans K_12 (allS (Or.inl (List.mem_of_getElem? (i := 0) rfl)) all0)), O_13, A_14, rfl⟩
set_option maxRecDepth 65536 in
set_option maxHeartbeats 4000000 in
theorem own_si_2 (l : Launch) (Z : State) (a0 : Array Value) (hw : Wds Z a0) (n0 : Nat) (c0 : Int32) (hc0 : ¬ c0 < 0 ∧ ¬ (255 : Int32) < c0) (c1 : Int32) (hc1 : ¬ c1 < 0 ∧ ¬ (255 : Int32) < c1) (a u : Addr) (ku : ClassId) (hua : u ≠ a) (cpt : Int32) (h0 : Heap) (ga : n0 ≤ a) (O0 : Obj Z h0 a "java/lang/String" [("java/lang/String", "value", "[B", .null), ("java/lang/String", "coder", "B", (.int (0 : Int32)))]) (U0 : Arv Z h0 u ku .char (2 : Int32) [(.int c0), (.int c1)] (.int 0)) (S_C : Sta Z Z.heap "java/lang/String" "COMPACT_STRINGS" "Z" (.int cpt)) (hcpt : ¬ cpt = 0) : Con true l Z [] n0 (⟨"java/lang/String", "<init>", "([C)V"⟩ : MethodName) jdk_42_method_3_code 2 none ({ frames := 3, cells := 1, slots := 2, locals := 53 } : Room) #[(.ref a), (.ref u)] [a] h0 (fun v h D' => v = none ∧ ∃ t k, h0.size ≤ t ∧ Keep h0 h [a] ∧ Obj Z h a "java/lang/String" [("java/lang/String", "value", "[B", (.ref t)), ("java/lang/String", "coder", "B", (.int (0 : Int32)))] ∧ Arv Z h t k .byte (2 : Int32) [(.int ((Int32.toInt8 c0).toInt32)), (.int ((Int32.toInt8 c1).toInt32))] (.int 0) ∧ D' = []) := by
  refine Con.of_runs (ls := #[.val (.ref a), .val (.ref u)]) (by decide +kernel) (fun m => rfl) ?_
  refine Runs.aloadN i12_0 rfl rfl ?_
  refine Runs.aloadN i12_1 rfl rfl ?_
  refine Runs.iconst (v := (0 : Int32)) i12_2 (by decide) ?_
  refine Runs.aloadN i12_3 rfl rfl ?_
  refine Runs.arrlen i12_4 U0 ?_
  refine Runs.aconstNull i12_5 ?_
  refine Runs.callCW (argsL := [(.ref u), (.int (0 : Int32)), (.int (2 : Int32)), .null]) (rest := []) (W := 0) i12_6 rfl (w86 hw) (w87 hw) (w88 hw) (w6 hw) (by decide) pd_6 rfl rfl rfl rfl (by decide) (by decide) (by decide) (by decide) (allS (List.mem_of_getElem? (i := 0) rfl) all0) (own_si4_2 l Z a0 hw n0 c0 hc0 c1 hc1 a u ku hua cpt _ ga O0 U0 S_C hcpt) ?_
  intro v h_7 D1 q hsz
  obtain ⟨rfl, t_1, k_2, g_3, K_4, O_5, A_6, rfl⟩ := q
  show Runs true l Z [] n0 _ _ _ _ _ _ _ [a] h_7 1 2 9 #[.val (.ref a), .val (.ref u)] []
  refine Runs.weak (D1 := []) (fun _ q => nomatch q) ?_
  exact Runs.retV i12_9 rfl (by decide) (by decide) ⟨rfl, t_1, k_2, g_3, K_4, O_5, A_6, rfl⟩
set_option maxRecDepth 65536 in
set_option maxHeartbeats 4000000 in
theorem own_cR (l : Launch) (Z : State) (a0 : Array Value) (hw : Wds Z a0) (n0 : Nat) (a : Addr) (h0 : Heap) : Con true l Z [] n0 (⟨"java/lang/Record", "<init>", "()V"⟩ : MethodName) jdk_30_method_1_code 1 none ({ frames := 1, cells := 0, slots := 0, locals := 12 } : Room) #[(.ref a)] [] h0 (fun v h D' => v = none ∧ h0 = h ∧ D' = []) := by
  refine Con.of_runs (ls := #[.val (.ref a)]) (by decide +kernel) (fun m => rfl) ?_
  refine Runs.aloadN i8_0 rfl rfl ?_
  refine Runs.initO (W := 0) i8_1 (w44 hw) (w24 hw) (w25 hw) rfl (by decide) rfl (by decide) ?_
  exact Runs.retV i8_4 rfl (by decide) (by decide) ⟨rfl, rfl, rfl⟩
set_option maxRecDepth 65536 in
set_option maxHeartbeats 4000000 in
theorem own_cQ (l : Launch) (Z : State) (a0 : Array Value) (hw : Wds Z a0) (n0 : Nat) (a b : Addr) (h0 : Heap) : Con true l Z [] n0 (⟨"java/util/Objects", "requireNonNull", "(Ljava/lang/Object;Ljava/lang/String;)Ljava/lang/Object;"⟩ : MethodName) jdk_31_method_11_code 2 (some (.object "java/lang/Object")) ({ frames := 0, cells := 0, slots := 0, locals := 0 } : Room) #[(.ref a), (.ref b)] [] h0 (fun v h D' => v = some (.ref a) ∧ h0 = h ∧ D' = []) := by
  refine Con.of_runs (ls := #[.val (.ref a), .val (.ref b)]) (by decide +kernel) (fun m => rfl) ?_
  refine Runs.aloadN i9_0 rfl rfl ?_
  refine Runs.nnullY (t := 13) i9_1 (by decide) ?_
  refine Runs.aloadN i9_13 rfl rfl ?_
  exact Runs.retA i9_14 rfl rfl rfl (by decide) (by decide) ⟨rfl, rfl, rfl⟩
set_option maxRecDepth 65536 in
set_option maxHeartbeats 4000000 in
theorem own_cL (l : Launch) (Z : State) (a0 : Array Value) (hw : Wds Z a0) (n0 : Nat) (a tx : Addr) (h0 : Heap) (ga : n0 ≤ a) (O0 : Obj Z h0 a "com/example/witnesseth/witnesseth/input/Location" [("com/example/witnesseth/witnesseth/input/Location", "file", "Ljava/lang/String;", .null), ("com/example/witnesseth/witnesseth/input/Location", "line", "J", (.long (0 : Int64))), ("com/example/witnesseth/witnesseth/input/Location", "column", "J", (.long (0 : Int64)))]) : Con true l Z [] n0 (⟨"com/example/witnesseth/witnesseth/input/Location", "<init>", "(Ljava/lang/String;JJ)V"⟩ : MethodName) prog_16_method_1_code 6 none ({ frames := 2, cells := 2, slots := 20, locals := 24 } : Room) #[(.ref a), (.ref tx), (.long (0 : Int64)), (.long (0 : Int64))] [] h0 (fun v h D' => v = none ∧ Keep h0 h [a] ∧ Obj Z h a "com/example/witnesseth/witnesseth/input/Location" [("com/example/witnesseth/witnesseth/input/Location", "file", "Ljava/lang/String;", (.ref tx)), ("com/example/witnesseth/witnesseth/input/Location", "line", "J", (.long (0 : Int64))), ("com/example/witnesseth/witnesseth/input/Location", "column", "J", (.long (0 : Int64)))] ∧ D' = []) := by
  refine Con.of_runs (ls := #[.val (.ref a), .val (.ref tx), .val (.long (0 : Int64)), .second, .val (.long (0 : Int64)), .second]) (by decide +kernel) (fun m => rfl) ?_
  refine Runs.aloadN i7_0 rfl rfl ?_
  refine Runs.callCW (argsL := []) (rest := []) (W := 0) i7_1 rfl (w39 hw) (w40 hw) (w43 hw) (w42 hw) (by decide) pd_7 rfl rfl rfl rfl (by decide) (by decide) (by decide) (by decide) all0 (own_cR l Z a0 hw n0 a _) ?_
  intro v h1 D1 q hsz
  obtain ⟨rfl, rfl, rfl⟩ := q
  show Runs true l Z [] n0 _ _ _ _ _ _ _ [] h0 0 0 4 #[.val (.ref a), .val (.ref tx), .val (.long (0 : Int64)), .second, .val (.long (0 : Int64)), .second] []
  refine Runs.aloadN i7_4 rfl rfl ?_
  refine Runs.ldcS (n := 16) i7_5 (hw _ (List.mem_of_getElem? (i := 45) rfl)) (own_sa hw) EW.nil (by decide) (by decide) (by decide) (by decide) ?_
  intro h_2 s_1 K_3
  show Runs true l Z [] n0 _ _ _ _ _ _ _ [] h_2 2 20 7 #[.val (.ref a), .val (.ref tx), .val (.long (0 : Int64)), .second, .val (.long (0 : Int64)), .second] [(.ref s_1), (.ref tx)]
  refine Runs.callSW (argsL := [(.ref tx), (.ref s_1)]) (rest := []) (W := 0) i7_7 (w48 hw) (w49 hw) (w50 hw) (w51 hw) (by decide) pd_8 rfl rfl rfl rfl (by decide) (by decide) (by decide) (by decide) all0 (own_cQ l Z a0 hw n0 tx s_1 _) ?_
  intro v h1 D1 q hsz
  obtain ⟨rfl, rfl, rfl⟩ := q
  show Runs true l Z [] n0 _ _ _ _ _ _ _ [] h_2 2 20 10 #[.val (.ref a), .val (.ref tx), .val (.long (0 : Int64)), .second, .val (.long (0 : Int64)), .second] [(.ref tx)]
  refine Runs.pop i7_10 rfl ?_
  refine Runs.lloadN i7_11 rfl ?_
  refine Runs.lconst (v := (0 : Int64)) i7_12 (by decide) ?_
  refine Runs.lcmp (z := (0 : Int32)) i7_13 (by decide) ?_
  refine Runs.ifN i7_14 (flt (by decide : ¬ ((0 : Int32) < (0 : Int32)))).1 ?_
  refine Runs.lload i7_17 rfl ?_
  refine Runs.lconst (v := (0 : Int64)) i7_19 (by decide) ?_
  refine Runs.lcmp (z := (0 : Int32)) i7_20 (by decide) ?_
  refine Runs.ifN i7_21 (flt (by decide : ¬ ((0 : Int32) < (0 : Int32)))).1 ?_
  refine Runs.lloadN i7_24 rfl ?_
  refine Runs.lconst (v := (0 : Int64)) i7_25 (by decide) ?_
  refine Runs.lcmp (z := (0 : Int32)) i7_26 (by decide) ?_
  refine Runs.ifN i7_27 (teq (by decide : (0 : Int32) = (0 : Int32))).2 ?_
  refine Runs.lload i7_30 rfl ?_
  refine Runs.lconst (v := (0 : Int64)) i7_32 (by decide) ?_
  refine Runs.lcmp (z := (0 : Int32)) i7_33 (by decide) ?_
  refine Runs.ifY (t := 53) i7_34 (by decide) (flt (by decide : ¬ ((0 : Int32) < (0 : Int32)))).2.2.2 ?_
  refine Runs.aloadN i7_53 rfl rfl ?_
  refine Runs.aloadN i7_54 rfl rfl ?_
  have O_4 := (O0.keep K_3 nin0)
  refine Runs.putF (i := 0) (ty := (.object "java/lang/String")) i7_55 (host := "") (Or.inl (w52 hw)) Via.refl O_4 rfl (lay_1 hw) rfl (Or.inr ⟨(w53 hw), rfl, rfl⟩) (w35 hw) (by decide) rfl rfl ga (Or.inr ⟨by decide, by decide⟩) ?_
  intro h_5 K_6 (O_7 : Obj Z h_5 a "com/example/witnesseth/witnesseth/input/Location" [("com/example/witnesseth/witnesseth/input/Location", "file", "Ljava/lang/String;", (.ref tx)), ("com/example/witnesseth/witnesseth/input/Location", "line", "J", (.long (0 : Int64))), ("com/example/witnesseth/witnesseth/input/Location", "column", "J", (.long (0 : Int64)))])
  refine Runs.aloadN i7_58 rfl rfl ?_
  refine Runs.lloadN i7_59 rfl ?_
  refine Runs.putF (i := 1) (ty := .long) i7_60 (host := "") (Or.inl (w54 hw)) Via.refl O_7 rfl (lay_1 hw) rfl (Or.inr ⟨(w55 hw), rfl, rfl⟩) (w35 hw) (by decide) rfl rfl ga (Or.inr ⟨by decide, by decide⟩) ?_
  intro h_8 K_9 (O_10 : Obj Z h_8 a "com/example/witnesseth/witnesseth/input/Location" [("com/example/witnesseth/witnesseth/input/Location", "file", "Ljava/lang/String;", (.ref tx)), ("com/example/witnesseth/witnesseth/input/Location", "line", "J", (.long (0 : Int64))), ("com/example/witnesseth/witnesseth/input/Location", "column", "J", (.long (0 : Int64)))])
  refine Runs.aloadN i7_63 rfl rfl ?_
  refine Runs.lload i7_64 rfl ?_
  refine Runs.putF (i := 2) (ty := .long) i7_66 (host := "") (Or.inl (w56 hw)) Via.refl O_10 rfl (lay_1 hw) rfl (Or.inr ⟨(w57 hw), rfl, rfl⟩) (w35 hw) (by decide) rfl rfl ga (Or.inr ⟨by decide, by decide⟩) ?_
  intro h_11 K_12 (O_13 : Obj Z h_11 a "com/example/witnesseth/witnesseth/input/Location" [("com/example/witnesseth/witnesseth/input/Location", "file", "Ljava/lang/String;", (.ref tx)), ("com/example/witnesseth/witnesseth/input/Location", "line", "J", (.long (0 : Int64))), ("com/example/witnesseth/witnesseth/input/Location", "column", "J", (.long (0 : Int64)))])
  exact Runs.retV i7_69 rfl (by decide) (by decide) ⟨rfl, (((((Keep.refl _ _).trans K_3 all0).trans K_6 (allS (Or.inl (List.mem_of_getElem? (i := 0) rfl)) all0)).trans K_9 (allS (Or.inl (List.mem_of_getElem? (i := 0) rfl)) all0)).trans K_12 (allS (Or.inl (List.mem_of_getElem? (i := 0) rfl)) all0)), O_13, rfl⟩
set_option maxRecDepth 65536 in
set_option maxHeartbeats 4000000 in
theorem own_cO (l : Launch) (Z : State) (a0 : Array Value) (hw : Wds Z a0) (n0 : Nat) (tx : Addr) (h0 : Heap) : Con true l Z [] n0 (⟨"com/example/witnesseth/witnesseth/input/Location", "of", "(Ljava/lang/String;)Lcom/example/witnesseth/witnesseth/input/Location;"⟩ : MethodName) prog_16_method_2_code 1 (some (.object "com/example/witnesseth/witnesseth/input/Location")) ({ frames := 3, cells := 3, slots := 23, locals := 42 } : Room) #[(.ref tx)] [] h0 (fun v h D' => ∃ b, v = some (.ref b) ∧ h0.size ≤ b ∧ Keep h0 h [] ∧ D' = []) := by
  refine Con.of_runs (ls := #[.val (.ref tx)]) (by decide +kernel) (fun m => rfl) ?_
  refine Runs.newO i6_0 (w34 hw) (w35 hw) (w32 hw) (lay_1 hw) (by decide) (by decide) ?_
  intro h_1 b_2 g_5 ge_6 K_3 (O_4 : Obj Z h_1 b_2 "com/example/witnesseth/witnesseth/input/Location" [("com/example/witnesseth/witnesseth/input/Location", "file", "Ljava/lang/String;", .null), ("com/example/witnesseth/witnesseth/input/Location", "line", "J", (.long (0 : Int64))), ("com/example/witnesseth/witnesseth/input/Location", "column", "J", (.long (0 : Int64)))]) U_7
  refine Runs.dup i6_3 rfl ?_
  refine Runs.aloadN i6_4 rfl rfl ?_
  refine Runs.lconst (v := (0 : Int64)) i6_5 (by decide) ?_
  refine Runs.lconst (v := (0 : Int64)) i6_6 (by decide) ?_
  refine Runs.callCW (argsL := [(.ref tx), (.long (0 : Int64)), (.long (0 : Int64))]) (rest := [(.ref b_2)]) (W := 1) i6_7 rfl (w36 hw) (w37 hw) (w38 hw) (w32 hw) (by decide) pd_9 rfl rfl rfl rfl (by decide) (by decide) (by decide) (by decide) all0 (own_cL l Z a0 hw n0 b_2 tx _ ge_6 O_4) ?_
  intro v h_8 D1 q hsz
  obtain ⟨rfl, K_9, O_10, rfl⟩ := q
  show Runs true l Z [] n0 _ _ _ _ _ _ _ [b_2] h_8 3 23 10 #[.val (.ref tx)] [(.ref b_2)]
  refine Runs.weak (D1 := []) (fun _ q => nomatch q) ?_
  exact Runs.retA i6_10 rfl rfl rfl (by decide) (by decide) ⟨b_2, rfl, g_5, (((Keep.refl _ _).trans K_3 all0).trans K_9 (allS (Or.inr (Nat.le_trans (Nat.le_refl _) g_5)) all0)), rfl⟩
set_option maxRecDepth 65536 in
set_option maxHeartbeats 4000000 in
theorem own_cT (l : Launch) (Z : State) (a0 : Array Value) (hw : Wds Z a0) (n0 : Nat) (a kd tx lc : Addr) (h0 : Heap) (ga : n0 ≤ a) (O0 : Obj Z h0 a "com/example/witnesseth/witnesseth/terms/Token" [("com/example/witnesseth/witnesseth/terms/Token", "kind", "Lcom/example/witnesseth/witnesseth/terms/Token$Kind;", .null), ("com/example/witnesseth/witnesseth/terms/Token", "text", "Ljava/lang/String;", .null), ("com/example/witnesseth/witnesseth/terms/Token", "location", "Lcom/example/witnesseth/witnesseth/input/Location;", .null)]) : Con true l Z [] n0 (⟨"com/example/witnesseth/witnesseth/terms/Token", "<init>", "(Lcom/example/witnesseth/witnesseth/terms/Token$Kind;Ljava/lang/String;Lcom/example/witnesseth/witnesseth/input/Location;)V"⟩ : MethodName) prog_56_method_1_code 4 none ({ frames := 2, cells := 0, slots := 0, locals := 24 } : Room) #[(.ref a), (.ref kd), (.ref tx), (.ref lc)] [] h0 (fun v h D' => v = none ∧ Keep h0 h [a] ∧ Obj Z h a "com/example/witnesseth/witnesseth/terms/Token" [("com/example/witnesseth/witnesseth/terms/Token", "kind", "Lcom/example/witnesseth/witnesseth/terms/Token$Kind;", (.ref kd)), ("com/example/witnesseth/witnesseth/terms/Token", "text", "Ljava/lang/String;", (.ref tx)), ("com/example/witnesseth/witnesseth/terms/Token", "location", "Lcom/example/witnesseth/witnesseth/input/Location;", (.ref lc))] ∧ D' = []) := by
  refine Con.of_runs (ls := #[.val (.ref a), .val (.ref kd), .val (.ref tx), .val (.ref lc)]) (by decide +kernel) (fun m => rfl) ?_
  refine Runs.aloadN i10_0 rfl rfl ?_
  refine Runs.callCW (argsL := []) (rest := []) (W := 0) i10_1 rfl (w64 hw) (w40 hw) (w43 hw) (w42 hw) (by decide) pd_7 rfl rfl rfl rfl (by decide) (by decide) (by decide) (by decide) all0 (own_cR l Z a0 hw n0 a _) ?_
  intro v h1 D1 q hsz
  obtain ⟨rfl, rfl, rfl⟩ := q
  show Runs true l Z [] n0 _ _ _ _ _ _ _ [] h0 0 0 4 #[.val (.ref a), .val (.ref kd), .val (.ref tx), .val (.ref lc)] []
  refine Runs.aloadN i10_4 rfl rfl ?_
  refine Runs.aloadN i10_5 rfl rfl ?_
  refine Runs.putF (i := 0) (ty := (.object "com/example/witnesseth/witnesseth/terms/Token$Kind")) i10_6 (host := "") (Or.inl (w65 hw)) Via.refl O0 rfl (lay_2 hw) rfl (Or.inr ⟨(w66 hw), rfl, rfl⟩) (w59 hw) (by decide) rfl rfl ga (Or.inr ⟨by decide, by decide⟩) ?_
  intro h_1 K_2 (O_3 : Obj Z h_1 a "com/example/witnesseth/witnesseth/terms/Token" [("com/example/witnesseth/witnesseth/terms/Token", "kind", "Lcom/example/witnesseth/witnesseth/terms/Token$Kind;", (.ref kd)), ("com/example/witnesseth/witnesseth/terms/Token", "text", "Ljava/lang/String;", .null), ("com/example/witnesseth/witnesseth/terms/Token", "location", "Lcom/example/witnesseth/witnesseth/input/Location;", .null)])
  refine Runs.aloadN i10_9 rfl rfl ?_
  refine Runs.aloadN i10_10 rfl rfl ?_
  refine Runs.putF (i := 1) (ty := (.object "java/lang/String")) i10_11 (host := "") (Or.inl (w67 hw)) Via.refl O_3 rfl (lay_2 hw) rfl (Or.inr ⟨(w68 hw), rfl, rfl⟩) (w59 hw) (by decide) rfl rfl ga (Or.inr ⟨by decide, by decide⟩) ?_
  intro h_4 K_5 (O_6 : Obj Z h_4 a "com/example/witnesseth/witnesseth/terms/Token" [("com/example/witnesseth/witnesseth/terms/Token", "kind", "Lcom/example/witnesseth/witnesseth/terms/Token$Kind;", (.ref kd)), ("com/example/witnesseth/witnesseth/terms/Token", "text", "Ljava/lang/String;", (.ref tx)), ("com/example/witnesseth/witnesseth/terms/Token", "location", "Lcom/example/witnesseth/witnesseth/input/Location;", .null)])
  refine Runs.aloadN i10_14 rfl rfl ?_
  refine Runs.aloadN i10_15 rfl rfl ?_
  refine Runs.putF (i := 2) (ty := (.object "com/example/witnesseth/witnesseth/input/Location")) i10_16 (host := "") (Or.inl (w69 hw)) Via.refl O_6 rfl (lay_2 hw) rfl (Or.inr ⟨(w70 hw), rfl, rfl⟩) (w59 hw) (by decide) rfl rfl ga (Or.inr ⟨by decide, by decide⟩) ?_
  intro h_7 K_8 (O_9 : Obj Z h_7 a "com/example/witnesseth/witnesseth/terms/Token" [("com/example/witnesseth/witnesseth/terms/Token", "kind", "Lcom/example/witnesseth/witnesseth/terms/Token$Kind;", (.ref kd)), ("com/example/witnesseth/witnesseth/terms/Token", "text", "Ljava/lang/String;", (.ref tx)), ("com/example/witnesseth/witnesseth/terms/Token", "location", "Lcom/example/witnesseth/witnesseth/input/Location;", (.ref lc))])
  exact Runs.retV i10_19 rfl (by decide) (by decide) ⟨rfl, ((((Keep.refl _ _).trans K_2 (allS (Or.inl (List.mem_of_getElem? (i := 0) rfl)) all0)).trans K_5 (allS (Or.inl (List.mem_of_getElem? (i := 0) rfl)) all0)).trans K_8 (allS (Or.inl (List.mem_of_getElem? (i := 0) rfl)) all0)), O_9, rfl⟩
def own_num (kd nu pe : Addr) : Int32 := if kd = nu ∨ kd = pe then 1 else 0
set_option maxRecDepth 65536 in
set_option maxHeartbeats 4000000 in
theorem own_cN (l : Launch) (Z : State) (a0 : Array Value) (hw : Wds Z a0) (n0 : Nat) (a kd tx lc sNUMBER sPERCENTAGE : Addr) (h0 : Heap) (O0 : Obj Z h0 a "com/example/witnesseth/witnesseth/terms/Token" [("com/example/witnesseth/witnesseth/terms/Token", "kind", "Lcom/example/witnesseth/witnesseth/terms/Token$Kind;", (.ref kd)), ("com/example/witnesseth/witnesseth/terms/Token", "text", "Ljava/lang/String;", (.ref tx)), ("com/example/witnesseth/witnesseth/terms/Token", "location", "Lcom/example/witnesseth/witnesseth/input/Location;", (.ref lc))]) (S_NUMBER : Sta Z Z.heap "com/example/witnesseth/witnesseth/terms/Token$Kind" "NUMBER" "Lcom/example/witnesseth/witnesseth/terms/Token$Kind;" (.ref sNUMBER)) (S_PERCENTAGE : Sta Z Z.heap "com/example/witnesseth/witnesseth/terms/Token$Kind" "PERCENTAGE" "Lcom/example/witnesseth/witnesseth/terms/Token$Kind;" (.ref sPERCENTAGE)) : Con true l Z [] n0 (⟨"com/example/witnesseth/witnesseth/terms/Token", "isNumeric", "()Z"⟩ : MethodName) prog_56_method_2_code 1 (some .boolean) ({ frames := 0, cells := 0, slots := 0, locals := 0 } : Room) #[(.ref a)] [] h0 (fun v h D' => v = some (.int (own_num kd sNUMBER sPERCENTAGE)) ∧ h0 = h ∧ D' = []) := by
  refine Con.of_runs (ls := #[.val (.ref a)]) (by decide +kernel) (fun m => rfl) ?_
  refine Runs.aloadN i11_0 rfl rfl ?_
  refine Runs.getF i11_1 (host := "") (Or.inl (w65 hw)) Via.refl (O0.fld (i := 0) rfl) ?_
  refine Runs.getS i11_4 (w76 hw) Via.refl S_NUMBER ?_
  by_cases ha7 : kd = sNUMBER
  · refine Runs.acY (t := 20) i11_7 (by decide) rfl rfl (Jvm.Free.XT.aa_eq_t (congrArg Value.ref ha7)) ?_
    refine Runs.iconst (v := (1 : Int32)) i11_20 (by decide) ?_
    refine Runs.goto (t := 25) i11_21 (by decide) ?_
    exact Runs.retI (z := (1 : Int32)) i11_25 rfl (Or.inr (Or.inl rfl)) (by decide) (by decide) (by decide) ⟨by simp [own_num, ha7], rfl, rfl⟩
  · refine Runs.acN i11_7 rfl rfl (Jvm.Free.XT.aa_eq_f (fun q => ha7 (Value.ref.inj q))) ?_
    refine Runs.aloadN i11_10 rfl rfl ?_
    refine Runs.getF i11_11 (host := "") (Or.inl (w65 hw)) Via.refl (O0.fld (i := 0) rfl) ?_
    refine Runs.getS i11_14 (w78 hw) Via.refl S_PERCENTAGE ?_
    by_cases ha17 : kd = sPERCENTAGE
    · refine Runs.acN i11_17 rfl rfl (Jvm.Free.XT.aa_ne_f (congrArg Value.ref ha17)) ?_
      refine Runs.iconst (v := (1 : Int32)) i11_20 (by decide) ?_
      refine Runs.goto (t := 25) i11_21 (by decide) ?_
      exact Runs.retI (z := (1 : Int32)) i11_25 rfl (Or.inr (Or.inl rfl)) (by decide) (by decide) (by decide) ⟨by simp [own_num, ha7, ha17], rfl, rfl⟩
    · refine Runs.acY (t := 24) i11_17 (by decide) rfl rfl (Jvm.Free.XT.aa_ne_t (fun q => ha17 (Value.ref.inj q))) ?_
      refine Runs.iconst (v := (0 : Int32)) i11_24 (by decide) ?_
      exact Runs.retI (z := (0 : Int32)) i11_25 rfl (Or.inr (Or.inl rfl)) (by decide) (by decide) (by decide) ⟨by simp [own_num, ha7, ha17], rfl, rfl⟩
theorem own_chr {x y z : Int32} (h : y.toUInt32.toUInt16.toUInt32.toInt32 = z) (h2 : x &&& 255 = y := by assumption) : ¬ z < 0 ∧ ¬ (255 : Int32) < z := by
  subst h2; rw [own_i2c (own_m255 x)] at h; subst h; exact own_m255 x
set_option maxRecDepth 65536 in
set_option maxHeartbeats 4000000 in
theorem own_rest (l : Launch) (Z : State) (a0 : Array Value) (hw : Wds Z a0) (n0 : Nat) (p1 p2 p3 k : Int32) (kd : Addr) (ex : Int32) (sNUMBER sPERCENTAGE : Addr) (cpt : Int32) (S_C : Sta Z Z.heap "java/lang/String" "COMPACT_STRINGS" "Z" (.int cpt)) (hcpt : ¬ cpt = 0) (S_NUMBER : Sta Z Z.heap "com/example/witnesseth/witnesseth/terms/Token$Kind" "NUMBER" "Lcom/example/witnesseth/witnesseth/terms/Token$Kind;" (.ref sNUMBER)) (S_PERCENTAGE : Sta Z Z.heap "com/example/witnesseth/witnesseth/terms/Token$Kind" "PERCENTAGE" "Lcom/example/witnesseth/witnesseth/terms/Token$Kind;" (.ref sPERCENTAGE)) (hex : own_num kd sNUMBER sPERCENTAGE = ex) : Runs true l Z [] n0 x.cls x.name code maxLocals ret room_1 (fun v h D' => v = some (.int 1)) [] Z.heap 0 0 95 #[.val (.int p1), .val (.int p2), .val (.int p3), .val (.int k), .val (.ref kd), .val (.int ex), .unset, .unset, .unset, .unset, .unset] [] := by
  refine Runs.iloadN i0_95 rfl ?_
  refine Runs.sipush (v := (255 : Int32)) i0_96 (by decide) ?_
  obtain ⟨x_1, hx_1⟩ : ∃ z : Int32, p2 &&& (255 : Int32) = z := ⟨_, rfl⟩
  refine Runs.iand i0_99 hx_1 ?_
  obtain ⟨x_2, hx_2⟩ : ∃ z : Int32, (Int32.toUInt32 x_1).toUInt16.toUInt32.toInt32 = z := ⟨_, rfl⟩
  refine Runs.i2c i0_100 hx_2 ?_
  refine Runs.istore (ls' := #[.val (.int p1), .val (.int p2), .val (.int p3), .val (.int k), .val (.ref kd), .val (.int ex), .val (.int x_2), .unset, .unset, .unset, .unset]) i0_101 rfl ?_
  refine Runs.iloadN i0_103 rfl ?_
  refine Runs.bipush (v := (8 : Int32)) i0_104 (by decide) ?_
  obtain ⟨x_3, hx_3⟩ : ∃ z : Int32, Jvm.Free.XT.ushr p2 (8 : Int32) = z := ⟨_, rfl⟩
  refine Runs.iushr i0_106 hx_3 ?_
  refine Runs.sipush (v := (255 : Int32)) i0_107 (by decide) ?_
  obtain ⟨x_4, hx_4⟩ : ∃ z : Int32, x_3 &&& (255 : Int32) = z := ⟨_, rfl⟩
  refine Runs.iand i0_110 hx_4 ?_
  obtain ⟨x_5, hx_5⟩ : ∃ z : Int32, (Int32.toUInt32 x_4).toUInt16.toUInt32.toInt32 = z := ⟨_, rfl⟩
  refine Runs.i2c i0_111 hx_5 ?_
  refine Runs.istore (ls' := #[.val (.int p1), .val (.int p2), .val (.int p3), .val (.int k), .val (.ref kd), .val (.int ex), .val (.int x_2), .val (.int x_5), .unset, .unset, .unset]) i0_112 rfl ?_
  refine Runs.iloadN i0_114 rfl ?_
  refine Runs.iconst (v := (1 : Int32)) i0_115 (by decide) ?_
  obtain ⟨x_6, hx_6⟩ : ∃ z : Int32, p3 &&& (1 : Int32) = z := ⟨_, rfl⟩
  refine Runs.iand i0_116 hx_6 ?_
  by_cases hc117 : x_6 = (0 : Int32)
  · refine Runs.ifY (t := 145) i0_117 (by decide) (teq hc117).1 ?_
    refine Runs.iload i0_145 rfl ?_
    refine Runs.callSW (argsL := [(.int x_2)]) (rest := []) (W := 0) i0_147 (w4 hw) (w5 hw) (w6 hw) (w7 hw) (by decide) pd_10 rfl rfl rfl rfl (by decide) (by decide) (by decide) (by decide) all0 (own_vof l Z a0 hw n0 x_2 cpt _ (own_chr hx_2).2 S_C hcpt) ?_
    intro v h_15 D1 q hsz
    obtain ⟨b_7, t_8, k_9, rfl, g_10, g_11, K_12, O_13, A_14, rfl⟩ := q
    show Runs true l Z [] n0 _ _ _ _ _ _ _ [] h_15 2 5 150 #[.val (.int p1), .val (.int p2), .val (.int p3), .val (.int k), .val (.ref kd), .val (.int ex), .val (.int x_2), .val (.int x_5), .unset, .unset, .unset] [(.ref b_7)]
    refine Runs.astore (ls' := #[.val (.int p1), .val (.int p2), .val (.int p3), .val (.int k), .val (.ref kd), .val (.int ex), .val (.int x_2), .val (.int x_5), .val (.ref b_7), .unset, .unset]) i0_150 rfl rfl ?_
    refine Runs.aload i0_152 rfl rfl ?_
    refine Runs.callSW (argsL := [(.ref b_7)]) (rest := []) (W := 0) i0_154 (w30 hw) (w31 hw) (w32 hw) (w33 hw) (by decide) pd_11 rfl rfl rfl rfl (by decide) (by decide) (by decide) (by decide) all0 (own_cO l Z a0 hw n0 b_7 _) ?_
    intro v h_19 D1 q hsz
    obtain ⟨b_16, rfl, g_17, K_18, rfl⟩ := q
    show Runs true l Z [] n0 _ _ _ _ _ _ _ [] h_19 5 28 157 #[.val (.int p1), .val (.int p2), .val (.int p3), .val (.int k), .val (.ref kd), .val (.int ex), .val (.int x_2), .val (.int x_5), .val (.ref b_7), .unset, .unset] [(.ref b_16)]
    refine Runs.astore (ls' := #[.val (.int p1), .val (.int p2), .val (.int p3), .val (.int k), .val (.ref kd), .val (.int ex), .val (.int x_2), .val (.int x_5), .val (.ref b_7), .val (.ref b_16), .unset]) i0_157 rfl rfl ?_
    refine Runs.newO i0_159 (w58 hw) (w59 hw) (w60 hw) (lay_2 hw) (by decide) (by decide) ?_
    intro h_20 b_21 g_24 ge_25 K_22 (O_23 : Obj Z h_20 b_21 "com/example/witnesseth/witnesseth/terms/Token" [("com/example/witnesseth/witnesseth/terms/Token", "kind", "Lcom/example/witnesseth/witnesseth/terms/Token$Kind;", .null), ("com/example/witnesseth/witnesseth/terms/Token", "text", "Ljava/lang/String;", .null), ("com/example/witnesseth/witnesseth/terms/Token", "location", "Lcom/example/witnesseth/witnesseth/input/Location;", .null)]) U_26
    refine Runs.dup i0_162 rfl ?_
    refine Runs.aload i0_163 rfl rfl ?_
    refine Runs.aload i0_165 rfl rfl ?_
    refine Runs.aload i0_167 rfl rfl ?_
    refine Runs.callCW (argsL := [(.ref kd), (.ref b_7), (.ref b_16)]) (rest := [(.ref b_21)]) (W := 1) i0_169 rfl (w61 hw) (w62 hw) (w63 hw) (w60 hw) (by decide) pd_12 rfl rfl rfl rfl (by decide) (by decide) (by decide) (by decide) all0 (own_cT l Z a0 hw n0 b_21 kd b_7 b_16 _ ge_25 O_23) ?_
    intro v h_27 D1 q hsz
    obtain ⟨rfl, K_28, O_29, rfl⟩ := q
    show Runs true l Z [] n0 _ _ _ _ _ _ _ [b_21] h_27 6 31 172 #[.val (.int p1), .val (.int p2), .val (.int p3), .val (.int k), .val (.ref kd), .val (.int ex), .val (.int x_2), .val (.int x_5), .val (.ref b_7), .val (.ref b_16), .unset] [(.ref b_21)]
    refine Runs.astore (ls' := #[.val (.int p1), .val (.int p2), .val (.int p3), .val (.int k), .val (.ref kd), .val (.int ex), .val (.int x_2), .val (.int x_5), .val (.ref b_7), .val (.ref b_16), .val (.ref b_21)]) i0_172 rfl rfl ?_
    refine Runs.aload i0_174 rfl rfl ?_
    refine Runs.callVW (argsL := []) (rest := []) (W := 0) i0_176 (w71 hw) (w72 hw) (fun s hZ => notFace_of_selects (args := #[]) (mvT hZ (w74 hw))) (w74 hw) (w73 hw) (w75 hw) (w60 hw) (by decide) O_29.1 pd_13 rfl rfl rfl rfl (by decide) (by decide) (by decide) (by decide) all0 (own_cN l Z a0 hw n0 b_21 kd b_7 b_16 sNUMBER sPERCENTAGE _ O_29 S_NUMBER S_PERCENTAGE) ?_
    rw [hex]
    intro v h1 D1 q hsz
    obtain ⟨rfl, rfl, rfl⟩ := q
    show Runs true l Z [] n0 _ _ _ _ _ _ _ [b_21] h_27 6 31 179 #[.val (.int p1), .val (.int p2), .val (.int p3), .val (.int k), .val (.ref kd), .val (.int ex), .val (.int x_2), .val (.int x_5), .val (.ref b_7), .val (.ref b_16), .val (.ref b_21)] [(.int ex)]
    refine Runs.iload i0_179 rfl ?_
    refine Runs.icN i0_181 (teq (rfl : ex = ex)).2 ?_
    refine Runs.iconst (v := (1 : Int32)) i0_184 (by decide) ?_
    refine Runs.goto (t := 189) i0_185 (by decide) ?_
    exact Runs.retI (z := (1 : Int32)) i0_189 rfl (Or.inr (Or.inl rfl)) (by decide) (by decide) (by decide) rfl
  · refine Runs.ifN i0_117 (feq hc117).1 ?_
    refine Runs.newO i0_120 (w81 hw) (w14 hw) (w6 hw) (lay_0 hw) (by decide) (by decide) ?_
    intro h_30 b_31 g_34 ge_35 K_32 (O_33 : Obj Z h_30 b_31 "java/lang/String" [("java/lang/String", "value", "[B", .null), ("java/lang/String", "coder", "B", (.int (0 : Int32)))]) U_36
    refine Runs.dup i0_123 rfl ?_
    refine Runs.iconst (v := (2 : Int32)) i0_124 (by decide) ?_
    refine Runs.newP (cap := 2) (ad := "[C") i0_125 (w82 hw) (by decide) (by decide) (by decide) (by decide) (by decide) rfl ?_
    intro h_37 b_38 k_39 g_42 ge_43 K_40 (A_41 : Arv Z h_37 b_38 k_39 .char (2 : Int32) [] (.int (0 : Int32))) E_44
    have A_45 : Arv Z h_37 b_38 k_39 .char (2 : Int32) [(.int (0 : Int32)), (.int (0 : Int32))] (.int (0 : Int32)) := A_41.pad (pad_rep [] (.int (0 : Int32)) 2)
    refine Runs.dup i0_127 rfl ?_
    refine Runs.iconst (v := (0 : Int32)) i0_128 (by decide) ?_
    refine Runs.iload i0_129 rfl ?_
    refine Runs.castore (i := 0) (y := x_2) i0_131 A_45 ⟨by decide, by decide⟩ (by decide) (Nat.le_of_ble_eq_true rfl) (own_cc (own_255 (own_chr hx_2))) ge_43 (Or.inr (by decide)) ?_
    intro h_46 K_47 (A_48 : Arv Z h_46 b_38 k_39 .char (2 : Int32) [(.int x_2), (.int (0 : Int32))] (.int (0 : Int32)))
    refine Runs.dup i0_132 rfl ?_
    refine Runs.iconst (v := (1 : Int32)) i0_133 (by decide) ?_
    refine Runs.iload i0_134 rfl ?_
    refine Runs.castore (i := 1) (y := x_5) i0_136 A_48 ⟨by decide, by decide⟩ (by decide) (Nat.le_of_ble_eq_true rfl) (own_cc (own_255 (own_chr hx_5))) ge_43 (Or.inr (by decide)) ?_
    intro h_49 K_50 (A_51 : Arv Z h_49 b_38 k_39 .char (2 : Int32) [(.int x_2), (.int x_5)] (.int (0 : Int32)))
    have O_52 := (((O_33.keep K_40 nin0).keep K_47 (ninS (Nat.ne_of_lt (Nat.lt_of_lt_of_le (Nat.lt_of_lt_of_le O_33.lt (Nat.le_refl _)) g_42)) nin0)).keep K_50 (ninS (Nat.ne_of_lt (Nat.lt_of_lt_of_le (Nat.lt_of_lt_of_le O_33.lt (Nat.le_refl _)) g_42)) nin0))
    refine Runs.callCW (argsL := [(.ref b_38)]) (rest := [(.ref b_31)]) (W := 1) i0_137 rfl (w83 hw) (w84 hw) (w85 hw) (w6 hw) (by decide) pd_14 rfl rfl rfl rfl (by decide) (by decide) (by decide) (by decide) (allS (List.mem_of_getElem? (i := 1) rfl) all0) (own_si_2 l Z a0 hw n0 x_2 (own_chr hx_2) x_5 (own_chr hx_5) b_31 b_38 k_39 (Nat.ne_of_gt (Nat.lt_of_lt_of_le (Nat.lt_of_lt_of_le O_33.lt (Nat.le_refl _)) g_42)) cpt _ ge_35 O_52 A_51 S_C hcpt) ?_
    intro v h_59 D1 q hsz
    obtain ⟨rfl, t_53, k_54, g_55, K_56, O_57, A_58, rfl⟩ := q
    show Runs true l Z [] n0 _ _ _ _ _ _ _ [b_38, b_31] h_59 3 8 140 #[.val (.int p1), .val (.int p2), .val (.int p3), .val (.int k), .val (.ref kd), .val (.int ex), .val (.int x_2), .val (.int x_5), .unset, .unset, .unset] [(.ref b_31)]
    refine Runs.astore (ls' := #[.val (.int p1), .val (.int p2), .val (.int p3), .val (.int k), .val (.ref kd), .val (.int ex), .val (.int x_2), .val (.int x_5), .val (.ref b_31), .unset, .unset]) i0_140 rfl rfl ?_
    refine Runs.goto (t := 152) i0_142 (by decide) ?_
    refine Runs.aload i0_152 rfl rfl ?_
    refine Runs.callSW (argsL := [(.ref b_31)]) (rest := []) (W := 0) i0_154 (w30 hw) (w31 hw) (w32 hw) (w33 hw) (by decide) pd_11 rfl rfl rfl rfl (by decide) (by decide) (by decide) (by decide) all0 (own_cO l Z a0 hw n0 b_31 _) ?_
    intro v h_63 D1 q hsz
    obtain ⟨b_60, rfl, g_61, K_62, rfl⟩ := q
    show Runs true l Z [] n0 _ _ _ _ _ _ _ [b_38, b_31] h_63 6 31 157 #[.val (.int p1), .val (.int p2), .val (.int p3), .val (.int k), .val (.ref kd), .val (.int ex), .val (.int x_2), .val (.int x_5), .val (.ref b_31), .unset, .unset] [(.ref b_60)]
    refine Runs.astore (ls' := #[.val (.int p1), .val (.int p2), .val (.int p3), .val (.int k), .val (.ref kd), .val (.int ex), .val (.int x_2), .val (.int x_5), .val (.ref b_31), .val (.ref b_60), .unset]) i0_157 rfl rfl ?_
    refine Runs.newO i0_159 (w58 hw) (w59 hw) (w60 hw) (lay_2 hw) (by decide) (by decide) ?_
    intro h_64 b_65 g_68 ge_69 K_66 (O_67 : Obj Z h_64 b_65 "com/example/witnesseth/witnesseth/terms/Token" [("com/example/witnesseth/witnesseth/terms/Token", "kind", "Lcom/example/witnesseth/witnesseth/terms/Token$Kind;", .null), ("com/example/witnesseth/witnesseth/terms/Token", "text", "Ljava/lang/String;", .null), ("com/example/witnesseth/witnesseth/terms/Token", "location", "Lcom/example/witnesseth/witnesseth/input/Location;", .null)]) U_70
    refine Runs.dup i0_162 rfl ?_
    refine Runs.aload i0_163 rfl rfl ?_
    refine Runs.aload i0_165 rfl rfl ?_
    refine Runs.aload i0_167 rfl rfl ?_
    refine Runs.callCW (argsL := [(.ref kd), (.ref b_31), (.ref b_60)]) (rest := [(.ref b_65)]) (W := 1) i0_169 rfl (w61 hw) (w62 hw) (w63 hw) (w60 hw) (by decide) pd_12 rfl rfl rfl rfl (by decide) (by decide) (by decide) (by decide) all0 (own_cT l Z a0 hw n0 b_65 kd b_31 b_60 _ ge_69 O_67) ?_
    intro v h_71 D1 q hsz
    obtain ⟨rfl, K_72, O_73, rfl⟩ := q
    show Runs true l Z [] n0 _ _ _ _ _ _ _ [b_65, b_38, b_31] h_71 7 34 172 #[.val (.int p1), .val (.int p2), .val (.int p3), .val (.int k), .val (.ref kd), .val (.int ex), .val (.int x_2), .val (.int x_5), .val (.ref b_31), .val (.ref b_60), .unset] [(.ref b_65)]
    refine Runs.astore (ls' := #[.val (.int p1), .val (.int p2), .val (.int p3), .val (.int k), .val (.ref kd), .val (.int ex), .val (.int x_2), .val (.int x_5), .val (.ref b_31), .val (.ref b_60), .val (.ref b_65)]) i0_172 rfl rfl ?_
    refine Runs.aload i0_174 rfl rfl ?_
    refine Runs.callVW (argsL := []) (rest := []) (W := 0) i0_176 (w71 hw) (w72 hw) (fun s hZ => notFace_of_selects (args := #[]) (mvT hZ (w74 hw))) (w74 hw) (w73 hw) (w75 hw) (w60 hw) (by decide) O_73.1 pd_13 rfl rfl rfl rfl (by decide) (by decide) (by decide) (by decide) all0 (own_cN l Z a0 hw n0 b_65 kd b_31 b_60 sNUMBER sPERCENTAGE _ O_73 S_NUMBER S_PERCENTAGE) ?_
    rw [hex]
    intro v h1 D1 q hsz
    obtain ⟨rfl, rfl, rfl⟩ := q
    show Runs true l Z [] n0 _ _ _ _ _ _ _ [b_65, b_38, b_31] h_71 7 34 179 #[.val (.int p1), .val (.int p2), .val (.int p3), .val (.int k), .val (.ref kd), .val (.int ex), .val (.int x_2), .val (.int x_5), .val (.ref b_31), .val (.ref b_60), .val (.ref b_65)] [(.int ex)]
    refine Runs.iload i0_179 rfl ?_
    refine Runs.icN i0_181 (teq (rfl : ex = ex)).2 ?_
    refine Runs.iconst (v := (1 : Int32)) i0_184 (by decide) ?_
    refine Runs.goto (t := 189) i0_185 (by decide) ?_
    exact Runs.retI (z := (1 : Int32)) i0_189 rfl (Or.inr (Or.inl rfl)) (by decide) (by decide) (by decide) rfl
set_option maxRecDepth 65536 in
set_option maxHeartbeats 4000000 in
theorem own_law (l : Launch) (Z : State) (a0 : Array Value) (hw : Wds Z a0) (n0 : Nat) (p1 p2 p3 : Int32) (sWORD sNUMBER sPERCENTAGE sSYMBOL sCLAUSE sEND : Addr) (S_WORD : Sta Z Z.heap "com/example/witnesseth/witnesseth/terms/Token$Kind" "WORD" "Lcom/example/witnesseth/witnesseth/terms/Token$Kind;" (.ref sWORD)) (S_NUMBER : Sta Z Z.heap "com/example/witnesseth/witnesseth/terms/Token$Kind" "NUMBER" "Lcom/example/witnesseth/witnesseth/terms/Token$Kind;" (.ref sNUMBER)) (S_PERCENTAGE : Sta Z Z.heap "com/example/witnesseth/witnesseth/terms/Token$Kind" "PERCENTAGE" "Lcom/example/witnesseth/witnesseth/terms/Token$Kind;" (.ref sPERCENTAGE)) (S_SYMBOL : Sta Z Z.heap "com/example/witnesseth/witnesseth/terms/Token$Kind" "SYMBOL" "Lcom/example/witnesseth/witnesseth/terms/Token$Kind;" (.ref sSYMBOL)) (S_CLAUSE : Sta Z Z.heap "com/example/witnesseth/witnesseth/terms/Token$Kind" "CLAUSE" "Lcom/example/witnesseth/witnesseth/terms/Token$Kind;" (.ref sCLAUSE)) (S_END : Sta Z Z.heap "com/example/witnesseth/witnesseth/terms/Token$Kind" "END" "Lcom/example/witnesseth/witnesseth/terms/Token$Kind;" (.ref sEND)) (cpt : Int32) (S_C : Sta Z Z.heap "java/lang/String" "COMPACT_STRINGS" "Z" (.int cpt)) (hcpt : ¬ cpt = 0) (n_WORD_NUMBER : ¬ sWORD = sNUMBER) (n_WORD_PERCENTAGE : ¬ sWORD = sPERCENTAGE) (n_SYMBOL_NUMBER : ¬ sSYMBOL = sNUMBER) (n_SYMBOL_PERCENTAGE : ¬ sSYMBOL = sPERCENTAGE) (n_CLAUSE_NUMBER : ¬ sCLAUSE = sNUMBER) (n_CLAUSE_PERCENTAGE : ¬ sCLAUSE = sPERCENTAGE) (n_END_NUMBER : ¬ sEND = sNUMBER) (n_END_PERCENTAGE : ¬ sEND = sPERCENTAGE) : Con true l Z [] n0 x code maxLocals ret room_1 #[(.int p1), (.int p2), (.int p3)] [] Z.heap (fun v h D' => v = some (.int 1)) := by
  refine Con.of_runs (ls := #[.val (.int p1), .val (.int p2), .val (.int p3), .unset, .unset, .unset, .unset, .unset, .unset, .unset, .unset]) (by decide +kernel) (fun m => rfl) ?_
  refine Runs.iloadN i0_0 rfl ?_
  refine Runs.ldcI i0_1 (w0 hw) ?_
  obtain ⟨x_1, hx_1⟩ : ∃ z : Int32, p1 &&& (2147483647 : Int32) = z := ⟨_, rfl⟩
  refine Runs.iand i0_3 hx_1 ?_
  refine Runs.bipush (v := (6 : Int32)) i0_4 (by decide) ?_
  obtain ⟨x_2, hx_2⟩ : ∃ z : Int32, x_1 % (6 : Int32) = z := ⟨_, rfl⟩
  refine Runs.irem i0_6 (by decide) hx_2 ?_
  refine Runs.istoreN (ls' := #[.val (.int p1), .val (.int p2), .val (.int p3), .val (.int x_2), .unset, .unset, .unset, .unset, .unset, .unset, .unset]) i0_7 rfl ?_
  refine Runs.iloadN i0_8 rfl ?_
  by_cases hc9 : x_2 = (0 : Int32)
  · refine Runs.ifN i0_9 (teq hc9).2 ?_
    refine Runs.getS i0_12 (w1 hw) Via.refl S_WORD ?_
    refine Runs.astore (ls' := #[.val (.int p1), .val (.int p2), .val (.int p3), .val (.int x_2), .val (.ref sWORD), .unset, .unset, .unset, .unset, .unset, .unset]) i0_15 rfl rfl ?_
    refine Runs.iconst (v := (0 : Int32)) i0_17 (by decide) ?_
    refine Runs.istore (ls' := #[.val (.int p1), .val (.int p2), .val (.int p3), .val (.int x_2), .val (.ref sWORD), .val (.int (0 : Int32)), .unset, .unset, .unset, .unset, .unset]) i0_18 rfl ?_
    refine Runs.goto (t := 95) i0_20 (by decide) ?_
    exact own_rest l Z a0 hw n0 p1 p2 p3 x_2 sWORD (0 : Int32) sNUMBER sPERCENTAGE cpt S_C hcpt S_NUMBER S_PERCENTAGE (by simp [own_num, n_WORD_NUMBER, n_WORD_PERCENTAGE, n_SYMBOL_NUMBER, n_SYMBOL_PERCENTAGE, n_CLAUSE_NUMBER, n_CLAUSE_PERCENTAGE, n_END_NUMBER, n_END_PERCENTAGE])
  · refine Runs.ifY (t := 23) i0_9 (by decide) (feq hc9).2 ?_
    refine Runs.iloadN i0_23 rfl ?_
    refine Runs.iconst (v := (1 : Int32)) i0_24 (by decide) ?_
    by_cases hc25 : x_2 = (1 : Int32)
    · refine Runs.icN i0_25 (teq hc25).2 ?_
      refine Runs.getS i0_28 (w80 hw) Via.refl S_NUMBER ?_
      refine Runs.astore (ls' := #[.val (.int p1), .val (.int p2), .val (.int p3), .val (.int x_2), .val (.ref sNUMBER), .unset, .unset, .unset, .unset, .unset, .unset]) i0_31 rfl rfl ?_
      refine Runs.iconst (v := (1 : Int32)) i0_33 (by decide) ?_
      refine Runs.istore (ls' := #[.val (.int p1), .val (.int p2), .val (.int p3), .val (.int x_2), .val (.ref sNUMBER), .val (.int (1 : Int32)), .unset, .unset, .unset, .unset, .unset]) i0_34 rfl ?_
      refine Runs.goto (t := 95) i0_36 (by decide) ?_
      exact own_rest l Z a0 hw n0 p1 p2 p3 x_2 sNUMBER (1 : Int32) sNUMBER sPERCENTAGE cpt S_C hcpt S_NUMBER S_PERCENTAGE (by simp [own_num, n_WORD_NUMBER, n_WORD_PERCENTAGE, n_SYMBOL_NUMBER, n_SYMBOL_PERCENTAGE, n_CLAUSE_NUMBER, n_CLAUSE_PERCENTAGE, n_END_NUMBER, n_END_PERCENTAGE])
    · refine Runs.icY (t := 39) i0_25 (by decide) (feq hc25).2 ?_
      refine Runs.iloadN i0_39 rfl ?_
      refine Runs.iconst (v := (2 : Int32)) i0_40 (by decide) ?_
      by_cases hc41 : x_2 = (2 : Int32)
      · refine Runs.icN i0_41 (teq hc41).2 ?_
        refine Runs.getS i0_44 (w99 hw) Via.refl S_PERCENTAGE ?_
        refine Runs.astore (ls' := #[.val (.int p1), .val (.int p2), .val (.int p3), .val (.int x_2), .val (.ref sPERCENTAGE), .unset, .unset, .unset, .unset, .unset, .unset]) i0_47 rfl rfl ?_
        refine Runs.iconst (v := (1 : Int32)) i0_49 (by decide) ?_
        refine Runs.istore (ls' := #[.val (.int p1), .val (.int p2), .val (.int p3), .val (.int x_2), .val (.ref sPERCENTAGE), .val (.int (1 : Int32)), .unset, .unset, .unset, .unset, .unset]) i0_50 rfl ?_
        refine Runs.goto (t := 95) i0_52 (by decide) ?_
        exact own_rest l Z a0 hw n0 p1 p2 p3 x_2 sPERCENTAGE (1 : Int32) sNUMBER sPERCENTAGE cpt S_C hcpt S_NUMBER S_PERCENTAGE (by simp [own_num, n_WORD_NUMBER, n_WORD_PERCENTAGE, n_SYMBOL_NUMBER, n_SYMBOL_PERCENTAGE, n_CLAUSE_NUMBER, n_CLAUSE_PERCENTAGE, n_END_NUMBER, n_END_PERCENTAGE])
      · refine Runs.icY (t := 55) i0_41 (by decide) (feq hc41).2 ?_
        refine Runs.iloadN i0_55 rfl ?_
        refine Runs.iconst (v := (3 : Int32)) i0_56 (by decide) ?_
        by_cases hc57 : x_2 = (3 : Int32)
        · refine Runs.icN i0_57 (teq hc57).2 ?_
          refine Runs.getS i0_60 (w102 hw) Via.refl S_SYMBOL ?_
          refine Runs.astore (ls' := #[.val (.int p1), .val (.int p2), .val (.int p3), .val (.int x_2), .val (.ref sSYMBOL), .unset, .unset, .unset, .unset, .unset, .unset]) i0_63 rfl rfl ?_
          refine Runs.iconst (v := (0 : Int32)) i0_65 (by decide) ?_
          refine Runs.istore (ls' := #[.val (.int p1), .val (.int p2), .val (.int p3), .val (.int x_2), .val (.ref sSYMBOL), .val (.int (0 : Int32)), .unset, .unset, .unset, .unset, .unset]) i0_66 rfl ?_
          refine Runs.goto (t := 95) i0_68 (by decide) ?_
          exact own_rest l Z a0 hw n0 p1 p2 p3 x_2 sSYMBOL (0 : Int32) sNUMBER sPERCENTAGE cpt S_C hcpt S_NUMBER S_PERCENTAGE (by simp [own_num, n_WORD_NUMBER, n_WORD_PERCENTAGE, n_SYMBOL_NUMBER, n_SYMBOL_PERCENTAGE, n_CLAUSE_NUMBER, n_CLAUSE_PERCENTAGE, n_END_NUMBER, n_END_PERCENTAGE])
        · refine Runs.icY (t := 71) i0_57 (by decide) (feq hc57).2 ?_
          refine Runs.iloadN i0_71 rfl ?_
          refine Runs.iconst (v := (4 : Int32)) i0_72 (by decide) ?_
          by_cases hc73 : x_2 = (4 : Int32)
          · refine Runs.icN i0_73 (teq hc73).2 ?_
            refine Runs.getS i0_76 (w104 hw) Via.refl S_CLAUSE ?_
            refine Runs.astore (ls' := #[.val (.int p1), .val (.int p2), .val (.int p3), .val (.int x_2), .val (.ref sCLAUSE), .unset, .unset, .unset, .unset, .unset, .unset]) i0_79 rfl rfl ?_
            refine Runs.iconst (v := (0 : Int32)) i0_81 (by decide) ?_
            refine Runs.istore (ls' := #[.val (.int p1), .val (.int p2), .val (.int p3), .val (.int x_2), .val (.ref sCLAUSE), .val (.int (0 : Int32)), .unset, .unset, .unset, .unset, .unset]) i0_82 rfl ?_
            refine Runs.goto (t := 95) i0_84 (by decide) ?_
            exact own_rest l Z a0 hw n0 p1 p2 p3 x_2 sCLAUSE (0 : Int32) sNUMBER sPERCENTAGE cpt S_C hcpt S_NUMBER S_PERCENTAGE (by simp [own_num, n_WORD_NUMBER, n_WORD_PERCENTAGE, n_SYMBOL_NUMBER, n_SYMBOL_PERCENTAGE, n_CLAUSE_NUMBER, n_CLAUSE_PERCENTAGE, n_END_NUMBER, n_END_PERCENTAGE])
          · refine Runs.icY (t := 87) i0_73 (by decide) (feq hc73).2 ?_
            refine Runs.getS i0_87 (w100 hw) Via.refl S_END ?_
            refine Runs.astore (ls' := #[.val (.int p1), .val (.int p2), .val (.int p3), .val (.int x_2), .val (.ref sEND), .unset, .unset, .unset, .unset, .unset, .unset]) i0_90 rfl rfl ?_
            refine Runs.iconst (v := (0 : Int32)) i0_92 (by decide) ?_
            refine Runs.istore (ls' := #[.val (.int p1), .val (.int p2), .val (.int p3), .val (.int x_2), .val (.ref sEND), .val (.int (0 : Int32)), .unset, .unset, .unset, .unset, .unset]) i0_93 rfl ?_
            exact own_rest l Z a0 hw n0 p1 p2 p3 x_2 sEND (0 : Int32) sNUMBER sPERCENTAGE cpt S_C hcpt S_NUMBER S_PERCENTAGE (by simp [own_num, n_WORD_NUMBER, n_WORD_PERCENTAGE, n_SYMBOL_NUMBER, n_SYMBOL_PERCENTAGE, n_CLAUSE_NUMBER, n_CLAUSE_PERCENTAGE, n_END_NUMBER, n_END_PERCENTAGE])
set_option maxRecDepth 65536 in
set_option maxHeartbeats 40000000 in
theorem comes_1 {Post : Tables → Env → Array Value → State → Outcome → State → Prop} (hpost : ∀ tb e args s v u, (limb_1_1.after args s (.returned v) u = true ∧ limb_1_2.after args s (.returned v) u = true ∧ True) → Jvm.Pilot.@@N@@.Jvm.D.FramedW s (.returned v) u (Jvm.fieldLocs frame_1_writes args s ++ Jvm.arrayLocs frame_1_arrays args s ++ Jvm.staticLocs frame_1_statics s) 24 1152 → Post tb e args s (.returned v) u) :
    ArmFor flags0 classFile x code maxLocals ret World_1 tables_1 room_1 Calls_1 rest_1 Pre_1 Post := by
  intro l hfl _ _ p e ha hc hk s m args below hf hA hF happ hP
  obtain ⟨hcalls, hrest, hpre⟩ := hP
  obtain ⟨-, -, -, hnamed, -, -, -, hat⟩ := (Spec.applies_iff hf).mp happ
  obtain ⟨hg, hn⟩ := and_e (Cond.before_iff.mp (show (Jvm.Cond.and given_1 narrow_1).before args s = true from hpre))
  obtain ⟨g1, g2⟩ := and_e hg
  obtain ⟨g3, g4⟩ := and_e g2
  obtain ⟨g5, g6⟩ := and_e g4
  obtain ⟨g7, g8⟩ := and_e hn
  obtain ⟨g9, g10⟩ := and_e g8
  obtain ⟨g11, g12⟩ := and_e g10
  obtain ⟨g13, g14⟩ := and_e g12
  obtain ⟨g15, g16⟩ := and_e g14
  obtain ⟨g17, g18⟩ := and_e g16
  obtain ⟨g19, g20⟩ := and_e g18
  obtain ⟨g21, g22⟩ := and_e g20
  obtain ⟨g23, g24⟩ := and_e g22
  obtain ⟨g25, g26⟩ := and_e g24
  obtain ⟨g27, g28⟩ := and_e g26
  obtain ⟨w0, w1, w2, rfl⟩ : ∃ w0 w1 w2 : Value, args = #[w0, w1, w2] := by
    have hs : args.size = 3 := by simpa [Cond.value, given_1] using g1
    obtain ⟨L⟩ := args
    match L, hs with
    | [w0, w1, w2], _ => exact ⟨w0, w1, w2, rfl⟩
  have hw : Wds s _ := fun d (hd : d ∈ tables_1) => atoms_spec (ws := Jvm.Cond.code x code maxLocals ret :: tables_1) hat d (List.mem_cons_of_mem _ hd)
  obtain ⟨i0, ei0⟩ := is_v g3
  obtain rfl : w0 = (.int i0) := Option.some.inj ei0
  obtain ⟨i1, ei1⟩ := is_v g5
  obtain rfl : w1 = (.int i1) := Option.some.inj ei1
  obtain ⟨i2, ei2⟩ := is_v g6
  obtain rfl : w2 = (.int i2) := Option.some.inj ei2
  obtain ⟨sWORD, ev_WORD⟩ := exa_v g7
  have E_WORD := Exa.start ev_WORD g7
  have S_WORD : Sta s s.heap "com/example/witnesseth/witnesseth/terms/Token$Kind" "WORD" "Lcom/example/witnesseth/witnesseth/terms/Token$Kind;" (.ref sWORD) := Sta.start ev_WORD (Or.inr ⟨(w2 hw), (w3 hw)⟩)
  obtain ⟨sNUMBER, ev_NUMBER⟩ := exa_v g9
  have E_NUMBER := Exa.start ev_NUMBER g9
  have S_NUMBER : Sta s s.heap "com/example/witnesseth/witnesseth/terms/Token$Kind" "NUMBER" "Lcom/example/witnesseth/witnesseth/terms/Token$Kind;" (.ref sNUMBER) := Sta.start ev_NUMBER (Or.inr ⟨(w2 hw), (w77 hw)⟩)
  obtain ⟨sPERCENTAGE, ev_PERCENTAGE⟩ := exa_v g15
  have E_PERCENTAGE := Exa.start ev_PERCENTAGE g15
  have S_PERCENTAGE : Sta s s.heap "com/example/witnesseth/witnesseth/terms/Token$Kind" "PERCENTAGE" "Lcom/example/witnesseth/witnesseth/terms/Token$Kind;" (.ref sPERCENTAGE) := Sta.start ev_PERCENTAGE (Or.inr ⟨(w2 hw), (w79 hw)⟩)
  obtain ⟨sEND, ev_END⟩ := exa_v g19
  have E_END := Exa.start ev_END g19
  have S_END : Sta s s.heap "com/example/witnesseth/witnesseth/terms/Token$Kind" "END" "Lcom/example/witnesseth/witnesseth/terms/Token$Kind;" (.ref sEND) := Sta.start ev_END (Or.inr ⟨(w2 hw), (w101 hw)⟩)
  obtain ⟨sSYMBOL, ev_SYMBOL⟩ := exa_v g23
  have E_SYMBOL := Exa.start ev_SYMBOL g23
  have S_SYMBOL : Sta s s.heap "com/example/witnesseth/witnesseth/terms/Token$Kind" "SYMBOL" "Lcom/example/witnesseth/witnesseth/terms/Token$Kind;" (.ref sSYMBOL) := Sta.start ev_SYMBOL (Or.inr ⟨(w2 hw), (w103 hw)⟩)
  obtain ⟨sCLAUSE, ev_CLAUSE⟩ := exa_v g27
  have E_CLAUSE := Exa.start ev_CLAUSE g27
  have S_CLAUSE : Sta s s.heap "com/example/witnesseth/witnesseth/terms/Token$Kind" "CLAUSE" "Lcom/example/witnesseth/witnesseth/terms/Token$Kind;" (.ref sCLAUSE) := Sta.start ev_CLAUSE (Or.inr ⟨(w2 hw), (w105 hw)⟩)
  have F_WORD_ordinal : s.fieldOf? sWORD "java/lang/Enum" "ordinal" "I" = some (.int (0 : Int32)) := (fld_at ev_WORD).symm.trans (Cond.eq_int (Cond.before_iff.mpr g11) rfl)
  have F_NUMBER_ordinal : s.fieldOf? sNUMBER "java/lang/Enum" "ordinal" "I" = some (.int (1 : Int32)) := (fld_at ev_NUMBER).symm.trans (Cond.eq_int (Cond.before_iff.mpr g13) rfl)
  have F_PERCENTAGE_ordinal : s.fieldOf? sPERCENTAGE "java/lang/Enum" "ordinal" "I" = some (.int (2 : Int32)) := (fld_at ev_PERCENTAGE).symm.trans (Cond.eq_int (Cond.before_iff.mpr g17) rfl)
  have F_END_ordinal : s.fieldOf? sEND "java/lang/Enum" "ordinal" "I" = some (.int (5 : Int32)) := (fld_at ev_END).symm.trans (Cond.eq_int (Cond.before_iff.mpr g21) rfl)
  have F_SYMBOL_ordinal : s.fieldOf? sSYMBOL "java/lang/Enum" "ordinal" "I" = some (.int (3 : Int32)) := (fld_at ev_SYMBOL).symm.trans (Cond.eq_int (Cond.before_iff.mpr g25) rfl)
  have F_CLAUSE_ordinal : s.fieldOf? sCLAUSE "java/lang/Enum" "ordinal" "I" = some (.int (4 : Int32)) := (fld_at ev_CLAUSE).symm.trans (Cond.eq_int (Cond.before_iff.mpr g28) rfl)
  obtain ⟨hsets, -⟩ := atoms_of _ (rest_1_c_eq ▸ (show rest_1_c.before _ s = true from hrest))
  obtain ⟨cpt, ev_cpt⟩ := is_v (Cond.before_iff.mp (hsets _ (List.mem_of_getElem? (i := 1) rfl)))
  have S_C : Sta s s.heap "java/lang/String" "COMPACT_STRINGS" "Z" (.int cpt) := Sta.start ev_cpt (Or.inl (hsets _ (List.mem_of_getElem? (i := 0) rfl)))
  have hcpt : ¬ cpt = 0 := gotF (own_eqI ev_cpt (Term.int_eval 0)) (not_v (Cond.before_iff.mp (hsets _ (List.mem_of_getElem? (i := 2) rfl))))
  have n_WORD_NUMBER : ¬ sWORD = sNUMBER := fun q => by
    have h1 := F_WORD_ordinal
    rw [q, F_NUMBER_ordinal] at h1
    simp at h1
  have n_WORD_PERCENTAGE : ¬ sWORD = sPERCENTAGE := fun q => by
    have h1 := F_WORD_ordinal
    rw [q, F_PERCENTAGE_ordinal] at h1
    simp at h1
  have n_SYMBOL_NUMBER : ¬ sSYMBOL = sNUMBER := fun q => by
    have h1 := F_SYMBOL_ordinal
    rw [q, F_NUMBER_ordinal] at h1
    simp at h1
  have n_SYMBOL_PERCENTAGE : ¬ sSYMBOL = sPERCENTAGE := fun q => by
    have h1 := F_SYMBOL_ordinal
    rw [q, F_PERCENTAGE_ordinal] at h1
    simp at h1
  have n_CLAUSE_NUMBER : ¬ sCLAUSE = sNUMBER := fun q => by
    have h1 := F_CLAUSE_ordinal
    rw [q, F_NUMBER_ordinal] at h1
    simp at h1
  have n_CLAUSE_PERCENTAGE : ¬ sCLAUSE = sPERCENTAGE := fun q => by
    have h1 := F_CLAUSE_ordinal
    rw [q, F_PERCENTAGE_ordinal] at h1
    simp at h1
  have n_END_NUMBER : ¬ sEND = sNUMBER := fun q => by
    have h1 := F_END_ordinal
    rw [q, F_NUMBER_ordinal] at h1
    simp at h1
  have n_END_PERCENTAGE : ¬ sEND = sPERCENTAGE := fun q => by
    have h1 := F_END_ordinal
    rw [q, F_PERCENTAGE_ordinal] at h1
    simp at h1
  obtain ⟨n, o, h1, h2, h3, v, L, D', rfl, rfl, -, N, -, hq⟩ := own_law l s _ hw s.heap.size i0 i1 i2 sWORD sNUMBER sPERCENTAGE sSYMBOL sCLAUSE sEND S_WORD S_NUMBER S_PERCENTAGE S_SYMBOL S_CLAUSE S_END cpt S_C hcpt n_WORD_NUMBER n_WORD_PERCENTAGE n_SYMBOL_NUMBER n_SYMBOL_PERCENTAGE n_CLAUSE_NUMBER n_CLAUSE_PERCENTAGE n_END_NUMBER n_END_PERCENTAGE tables_1 p e ha hc hk s m _ below hf ((Spec.applies_iff_loose hf).mp happ).1 ⟨rfl, State.Warmed39.refl s, rfl, Old.start s, ⟨#[], EW.nil⟩, ch0, fun _ q => nomatch q⟩ trivial
  have hq : ReturnedEndW s _ _ L _ _ := hq
  refine ⟨n, _, h1, h2, h3, hpost _ _ _ _ _ _ ⟨Cond.after_iff.mpr rfl, Cond.after_iff.mpr (eq_i res_at (Term.int_eval (1)) rfl), trivial⟩ ⟨hq.1, hq.2.1, hq.2.2.1, (hq.2.2.2.sift fun y hy => Or.inr (N y hy)).mono (by decide) (by decide)⟩⟩
theorem main_1_1 : Claimed_1_1 := comes_1 fun _ _ _ _ _ _ h hF => ⟨h.1, hF⟩
theorem main_1_2 : Claimed_1_2 := comes_1 fun _ _ _ _ _ _ h hF => ⟨h.2.1, hF⟩
end Jvm.Pilot.@@N@@
namespace Jvm.Pilot.@@N@@
open Jvm Jvm.ClassFile Sem Op Lib Jvm.Free Jvm.Stand Jvm.Pilot.@@N@@.Jvm.D
/-! MADE BY PROGRAM (witnessworld.py) out of the Statement's table words and the real class files: 25 classes; the members and pool entries that the words name. The judged class is class 1, her method 1. -/
namespace start1
open Jvm.ClassFile
def u (s : String) : CpInfo := .utf8 (stringToUtf16 s)
/-- a pool by its gaps: so many unusable entries, then the entry; so many at the end -/
def gap : Nat → List CpInfo → List CpInfo
  | 0, r => r
  | n + 1, r => .unusable :: gap n r
def poolList (es : List (Nat × CpInfo)) (last : Nat) : List CpInfo := es.foldr (fun e r => gap e.1 (e.2 :: r)) (gap last [])
def pool (es : List (Nat × CpInfo)) (last : Nat) : Array CpInfo := ⟨poolList es last⟩
def fileOf (pool : Array CpInfo) (this : Nat) (attrs : Array Attribute := #[]) (ms : Array MethodInfo := #[]) (fl : Nat := 33) (sup : Nat := 0) (ifs : Array Nat := #[]) (fds : Array FieldInfo := #[]) : ClassFile where
  minorVersion := 0
  majorVersion := 65
  constantPool := pool
  accessFlags := fl
  thisClass := this
  superClass := sup
  interfaces := ifs
  fields := fds
  methods := ms
  attributes := attrs
def plain (name : String) (sup : Option ClassId) : Class where
  name := name
  kind := .ordinary
  loader := none
  accessFlags := 33
  super := sup
  interfaces := #[]
  cf := none
  fields := #[]
  methods := #[]
  instanceTypes := #[]
  staticTypes := #[]
  resolved := #[]
  callSites := []
  init := .initialized
  statics := none
  mirror := none

def pool0 : Array CpInfo := pool [(5, u "<init>"), (0, u "()V"), (1, .class_ 10), (1, u "java/lang/Object")] 113

def k0c0 : Code := { maxStack := 0, maxLocals := 1, code := object_method_1_code, exceptionTable := #[], attributes := #[] }
def k0m0 : Method := { name := "<init>", desc := "()V", sig := { parameters := [], returnType := none }, accessFlags := 1, code := some k0c0 }
/-- java/lang/Object -/
def k0 : Class := { plain "java/lang/Object" none with
  accessFlags := 33
  interfaces := #[]
  cf := some (fileOf pool0 8 #[] #[{ accessFlags := 1, nameIndex := 5, descriptorIndex := 6, attributes := #[] }] 33 0 #[] #[])
  fields := #[]
  methods := #[k0m0]
  instanceTypes := #[]
  staticTypes := #[]
  resolved := Array.replicate 124 none
  statics := none }

def pool1 : Array CpInfo := pool [(2, .class_ 4), (1, u "java/lang/Object"), (0, u "<init>"), (0, u "()V"), (0, .integer 2147483647), (0, .fieldref 9 10), (0, .class_ 11), (0, .nameAndType 12 13), (0, u "com/example/witnesseth/witnesseth/terms/Token$Kind"), (0, u "WORD"), (0, u "Lcom/example/witnesseth/witnesseth/terms/Token$Kind;"), (0, .fieldref 9 15), (0, .nameAndType 16 13), (0, u "NUMBER"), (0, .fieldref 9 18), (0, .nameAndType 19 13), (0, u "PERCENTAGE"), (0, .fieldref 9 21), (0, .nameAndType 22 13), (0, u "SYMBOL"), (0, .fieldref 9 24), (0, .nameAndType 25 13), (0, u "CLAUSE"), (0, .fieldref 9 27), (0, .nameAndType 28 13), (0, u "END"), (0, .class_ 30), (0, u "java/lang/String"), (0, .methodref 29 32), (0, .nameAndType 5 33), (0, u "([C)V"), (0, .methodref 29 35), (0, .nameAndType 36 37), (0, u "valueOf"), (0, u "(C)Ljava/lang/String;"), (0, .methodref 39 40), (0, .class_ 41), (0, .nameAndType 42 43), (0, u "com/example/witnesseth/witnesseth/input/Location"), (0, u "of"), (0, u "(Ljava/lang/String;)Lcom/example/witnesseth/witnesseth/input/Location;"), (0, .class_ 45), (0, u "com/example/witnesseth/witnesseth/terms/Token"), (0, .methodref 44 47), (0, .nameAndType 5 48), (0, u "(Lcom/example/witnesseth/witnesseth/terms/Token$Kind;Ljava/lang/String;Lcom/example/witnesseth/witnesseth/input/Location;)V"), (0, .methodref 44 50), (0, .nameAndType 51 52), (0, u "isNumeric"), (0, u "()Z"), (0, .class_ 54), (0, u "com/example/witnesseth/witnesseth/terms/TokenIsNumericPinLaw"), (2, u "law"), (0, u "(III)Z")] 5

def k1m0 : Method := { name := "<init>", desc := "()V", sig := { parameters := [], returnType := none }, accessFlags := 1, code := none }
def k1c1 : Code := { maxStack := 6, maxLocals := 11, code := code, exceptionTable := #[], attributes := #[] }
def k1m1 : Method := { name := "law", desc := "(III)Z", sig := { parameters := [.int, .int, .int], returnType := some .boolean }, accessFlags := 9, code := some k1c1 }
/-- com/example/witnesseth/witnesseth/terms/TokenIsNumericPinLaw -/
def k1 : Class := { plain "com/example/witnesseth/witnesseth/terms/TokenIsNumericPinLaw" (some 0) with
  accessFlags := 49
  interfaces := #[]
  cf := some (fileOf pool1 53 #[] #[{ accessFlags := 1, nameIndex := 5, descriptorIndex := 6, attributes := #[] }, { accessFlags := 9, nameIndex := 57, descriptorIndex := 58, attributes := #[] }] 49 2 #[] #[])
  fields := #[]
  methods := #[k1m0, k1m1]
  instanceTypes := #[]
  staticTypes := #[]
  resolved := Array.replicate 64 none
  statics := none }

def pool2 : Array CpInfo := pool [(1, .class_ 2), (0, u "java/lang/constant/Constable"), (0, .class_ 4), (0, u "java/lang/Object")] 6

/-- java/lang/constant/Constable -/
def k2 : Class := { plain "java/lang/constant/Constable" (some 0) with
  accessFlags := 1537
  interfaces := #[]
  cf := some (fileOf pool2 1 #[] #[] 1537 3 #[] #[])
  fields := #[]
  methods := #[]
  instanceTypes := #[]
  staticTypes := #[]
  resolved := Array.replicate 11 none
  statics := none }

def pool3 : Array CpInfo := pool [(1, .class_ 2), (0, u "java/lang/Comparable"), (0, .class_ 4), (0, u "java/lang/Object")] 7

/-- java/lang/Comparable -/
def k3 : Class := { plain "java/lang/Comparable" (some 0) with
  accessFlags := 1537
  interfaces := #[]
  cf := some (fileOf pool3 1 #[] #[] 1537 3 #[] #[])
  fields := #[]
  methods := #[]
  instanceTypes := #[]
  staticTypes := #[]
  resolved := Array.replicate 12 none
  statics := none }

def pool4 : Array CpInfo := pool [(1, .class_ 2), (0, u "java/io/Serializable"), (0, .class_ 4), (0, u "java/lang/Object")] 2

/-- java/io/Serializable -/
def k4 : Class := { plain "java/io/Serializable" (some 0) with
  accessFlags := 1537
  interfaces := #[]
  cf := some (fileOf pool4 1 #[] #[] 1537 3 #[] #[])
  fields := #[]
  methods := #[]
  instanceTypes := #[]
  staticTypes := #[]
  resolved := Array.replicate 7 none
  statics := none }

def pool5 : Array CpInfo := pool [(2, .class_ 4), (1, u "java/lang/Enum"), (0, u "name"), (0, u "Ljava/lang/String;"), (2, u "ordinal"), (0, u "I"), (1, .class_ 14), (1, u "java/lang/Object"), (4, u "hash"), (86, .class_ 108), (1, u "java/lang/Enum$EnumDesc"), (2, .class_ 112), (0, u "java/lang/constant/Constable"), (0, .class_ 114), (0, u "java/lang/Comparable"), (0, .class_ 116), (0, u "java/io/Serializable")] 87

/-- java/lang/Enum -/
def k5 : Class := { plain "java/lang/Enum" (some 0) with
  accessFlags := 1057
  interfaces := #[2, 3, 4]
  cf := some (fileOf pool5 2 #[.nestMembers #[106]] #[] 1057 12 #[111, 113, 115] #[{ accessFlags := 18, nameIndex := 5, descriptorIndex := 6, attributes := #[] }, { accessFlags := 18, nameIndex := 9, descriptorIndex := 10, attributes := #[] }, { accessFlags := 2, nameIndex := 19, descriptorIndex := 10, attributes := #[] }])
  fields := #[{ name := "name", type := (.object "java/lang/String"), accessFlags := 18, slot := 0, constantValue := 0 }, { name := "ordinal", type := .int, accessFlags := 18, slot := 1, constantValue := 0 }, { name := "hash", type := .int, accessFlags := 2, slot := 2, constantValue := 0 }]
  methods := #[]
  instanceTypes := #[(.object "java/lang/String"), .int, .int]
  staticTypes := #[]
  resolved := Array.replicate 204 none
  statics := none }

def pool6 : Array CpInfo := pool [(1, .class_ 2), (0, u "com/example/witnesseth/witnesseth/terms/Token$Kind"), (2, u "WORD"), (0, u "Lcom/example/witnesseth/witnesseth/terms/Token$Kind;"), (2, u "NUMBER"), (2, u "PERCENTAGE"), (2, u "SYMBOL"), (2, u "CLAUSE"), (2, u "END"), (2, u "$VALUES"), (0, u "[Lcom/example/witnesseth/witnesseth/terms/Token$Kind;"), (6, .class_ 34), (1, u "java/lang/Enum"), (29, .class_ 65), (0, u "com/example/witnesseth/witnesseth/terms/Token")] 2

/-- com/example/witnesseth/witnesseth/terms/Token$Kind -/
def k6 : Class := { plain "com/example/witnesseth/witnesseth/terms/Token$Kind" (some 5) with
  accessFlags := 16432
  interfaces := #[]
  cf := some (fileOf pool6 1 #[.nestHost 64] #[] 16432 32 #[] #[{ accessFlags := 16409, nameIndex := 5, descriptorIndex := 6, attributes := #[] }, { accessFlags := 16409, nameIndex := 9, descriptorIndex := 6, attributes := #[] }, { accessFlags := 16409, nameIndex := 12, descriptorIndex := 6, attributes := #[] }, { accessFlags := 16409, nameIndex := 15, descriptorIndex := 6, attributes := #[] }, { accessFlags := 16409, nameIndex := 18, descriptorIndex := 6, attributes := #[] }, { accessFlags := 16409, nameIndex := 21, descriptorIndex := 6, attributes := #[] }, { accessFlags := 4122, nameIndex := 24, descriptorIndex := 25, attributes := #[] }])
  fields := #[{ name := "WORD", type := (.object "com/example/witnesseth/witnesseth/terms/Token$Kind"), accessFlags := 16409, slot := 0, constantValue := 0 }, { name := "NUMBER", type := (.object "com/example/witnesseth/witnesseth/terms/Token$Kind"), accessFlags := 16409, slot := 1, constantValue := 0 }, { name := "PERCENTAGE", type := (.object "com/example/witnesseth/witnesseth/terms/Token$Kind"), accessFlags := 16409, slot := 2, constantValue := 0 }, { name := "SYMBOL", type := (.object "com/example/witnesseth/witnesseth/terms/Token$Kind"), accessFlags := 16409, slot := 3, constantValue := 0 }, { name := "CLAUSE", type := (.object "com/example/witnesseth/witnesseth/terms/Token$Kind"), accessFlags := 16409, slot := 4, constantValue := 0 }, { name := "END", type := (.object "com/example/witnesseth/witnesseth/terms/Token$Kind"), accessFlags := 16409, slot := 5, constantValue := 0 }, { name := "$VALUES", type := (.array (.object "com/example/witnesseth/witnesseth/terms/Token$Kind")), accessFlags := 4122, slot := 6, constantValue := 0 }]
  methods := #[]
  instanceTypes := #[(.object "java/lang/String"), .int, .int]
  staticTypes := #[(.object "com/example/witnesseth/witnesseth/terms/Token$Kind"), (.object "com/example/witnesseth/witnesseth/terms/Token$Kind"), (.object "com/example/witnesseth/witnesseth/terms/Token$Kind"), (.object "com/example/witnesseth/witnesseth/terms/Token$Kind"), (.object "com/example/witnesseth/witnesseth/terms/Token$Kind"), (.object "com/example/witnesseth/witnesseth/terms/Token$Kind"), (.array (.object "com/example/witnesseth/witnesseth/terms/Token$Kind"))]
  resolved := Array.replicate 68 none
  statics := some 0 }

def pool7 : Array CpInfo := pool [(2, .class_ 4), (1, u "java/lang/CharSequence"), (42, .class_ 48), (0, u "java/lang/CharSequence$1CodePointIterator"), (10, .class_ 60), (0, u "java/lang/CharSequence$1CharIterator"), (5, .class_ 67), (0, u "java/lang/Object")] 63

/-- java/lang/CharSequence -/
def k7 : Class := { plain "java/lang/CharSequence" (some 0) with
  accessFlags := 1537
  interfaces := #[]
  cf := some (fileOf pool7 2 #[.nestMembers #[47, 59]] #[] 1537 66 #[] #[])
  fields := #[]
  methods := #[]
  instanceTypes := #[]
  staticTypes := #[]
  resolved := Array.replicate 131 none
  statics := none }

def pool8 : Array CpInfo := pool [(1, .class_ 2), (0, u "java/lang/constant/ConstantDesc"), (0, .class_ 4), (0, u "java/lang/Object")] 32

/-- java/lang/constant/ConstantDesc -/
def k8 : Class := { plain "java/lang/constant/ConstantDesc" (some 0) with
  accessFlags := 1537
  interfaces := #[]
  cf := some (fileOf pool8 1 #[] #[] 1537 3 #[] #[])
  fields := #[]
  methods := #[]
  instanceTypes := #[]
  staticTypes := #[]
  resolved := Array.replicate 37 none
  statics := none }

def pool9 : Array CpInfo := pool [(1, .methodref 2 3), (0, .class_ 4), (0, .nameAndType 5 6), (0, u "java/lang/Object"), (0, u "<init>"), (0, u "()V"), (2, .fieldref 10 11), (0, .class_ 12), (0, .nameAndType 13 14), (0, u "java/lang/String"), (0, u "value"), (0, u "[B"), (0, .fieldref 10 16), (0, .nameAndType 17 18), (0, u "coder"), (0, u "B"), (2, u "hash"), (0, u "I"), (2, u "hashIsZero"), (0, u "Z"), (0, .methodref 10 28), (0, .nameAndType 5 29), (0, u "([CIILjava/lang/Void;)V"), (8, .fieldref 10 39), (0, .nameAndType 40 26), (0, u "COMPACT_STRINGS"), (1, .class_ 44), (1, u "java/lang/StringUTF16"), (0, u "compress"), (1, .methodref 42 48), (0, .nameAndType 49 50), (0, u "coderFromArrayLen"), (0, u "([BI)B"), (2, u "toBytes"), (53, .class_ 109), (1, u "java/lang/StringLatin1"), (67, .methodref 42 178), (0, .nameAndType 45 179), (0, u "([CII)[B"), (29, .methodref 10 210), (0, .nameAndType 5 211), (0, u "([BB)V"), (157, u "(C)Z"), (205, .class_ 576), (0, u "java/lang/CharSequence"), (22, u "CASE_INSENSITIVE_ORDER"), (0, u "Ljava/util/Comparator;"), (181, u "valueOf"), (0, u "(C)Ljava/lang/String;"), (226, u "([C)V"), (4, .methodref 107 1016), (0, .nameAndType 1017 369), (0, u "canEncode"), (0, .methodref 107 1019), (0, .nameAndType 53 1020), (0, u "(C)[B"), (80, u "serialPersistentFields"), (0, u "[Ljava/io/ObjectStreamField;"), (0, .class_ 1104), (0, u "java/lang/String$CaseInsensitiveComparator"), (1, .class_ 1107), (0, u "java/io/Serializable"), (0, .class_ 1109), (0, u "java/lang/Comparable"), (0, .class_ 1111), (0, u "java/lang/constant/Constable"), (0, .class_ 1113), (0, u "java/lang/constant/ConstantDesc"), (2, u "serialVersionUID"), (0, u "J"), (3, u "REPL"), (0, u "C"), (2, u "LATIN1"), (1, u "UTF16")] 323

def k9m0 : Method := { name := "<init>", desc := "()V", sig := { parameters := [], returnType := none }, accessFlags := 1, code := none }
def k9c1 : Code := { maxStack := 5, maxLocals := 2, code := jdk_42_method_3_code, exceptionTable := #[], attributes := #[] }
def k9m1 : Method := { name := "<init>", desc := "([C)V", sig := { parameters := [(.array .char)], returnType := none }, accessFlags := 1, code := some k9c1 }
def k9c2 : Code := { maxStack := 4, maxLocals := 1, code := jdk_42_method_139_code, exceptionTable := #[], attributes := #[] }
def k9m2 : Method := { name := "valueOf", desc := "(C)Ljava/lang/String;", sig := { parameters := [.char], returnType := some (.object "java/lang/String") }, accessFlags := 9, code := some k9c2 }
def k9c3 : Code := { maxStack := 4, maxLocals := 6, code := jdk_42_method_149_code, exceptionTable := #[], attributes := #[] }
def k9m3 : Method := { name := "<init>", desc := "([CIILjava/lang/Void;)V", sig := { parameters := [(.array .char), .int, .int, (.object "java/lang/Void")], returnType := none }, accessFlags := 2, code := some k9c3 }
def k9c4 : Code := { maxStack := 2, maxLocals := 3, code := jdk_42_method_151_code, exceptionTable := #[], attributes := #[] }
def k9m4 : Method := { name := "<init>", desc := "([BB)V", sig := { parameters := [(.array .byte), .byte], returnType := none }, accessFlags := 0, code := some k9c4 }
/-- java/lang/String -/
def k9 : Class := { plain "java/lang/String" (some 0) with
  accessFlags := 49
  interfaces := #[4, 3, 7, 2, 8]
  cf := some (fileOf pool9 10 #[.nestMembers #[1103]] #[{ accessFlags := 1, nameIndex := 5, descriptorIndex := 6, attributes := #[] }, { accessFlags := 1, nameIndex := 5, descriptorIndex := 1010, attributes := #[] }, { accessFlags := 9, nameIndex := 782, descriptorIndex := 783, attributes := #[] }, { accessFlags := 2, nameIndex := 5, descriptorIndex := 29, attributes := #[] }, { accessFlags := 0, nameIndex := 5, descriptorIndex := 211, attributes := #[] }] 49 2 #[1106, 1108, 575, 1110, 1112] #[{ accessFlags := 18, nameIndex := 13, descriptorIndex := 14, attributes := #[] }, { accessFlags := 18, nameIndex := 17, descriptorIndex := 18, attributes := #[] }, { accessFlags := 2, nameIndex := 21, descriptorIndex := 22, attributes := #[] }, { accessFlags := 2, nameIndex := 25, descriptorIndex := 26, attributes := #[] }, { accessFlags := 26, nameIndex := 1116, descriptorIndex := 1117, attributes := #[] }, { accessFlags := 24, nameIndex := 40, descriptorIndex := 26, attributes := #[] }, { accessFlags := 26, nameIndex := 1101, descriptorIndex := 1102, attributes := #[] }, { accessFlags := 26, nameIndex := 1121, descriptorIndex := 1122, attributes := #[] }, { accessFlags := 25, nameIndex := 599, descriptorIndex := 600, attributes := #[] }, { accessFlags := 24, nameIndex := 1125, descriptorIndex := 18, attributes := #[] }, { accessFlags := 24, nameIndex := 1127, descriptorIndex := 18, attributes := #[] }])
  fields := #[{ name := "value", type := (.array .byte), accessFlags := 18, slot := 0, constantValue := 0 }, { name := "coder", type := .byte, accessFlags := 18, slot := 1, constantValue := 0 }, { name := "hash", type := .int, accessFlags := 2, slot := 2, constantValue := 0 }, { name := "hashIsZero", type := .boolean, accessFlags := 2, slot := 3, constantValue := 0 }, { name := "serialVersionUID", type := .long, accessFlags := 26, slot := 0, constantValue := 0 }, { name := "COMPACT_STRINGS", type := .boolean, accessFlags := 24, slot := 1, constantValue := 0 }, { name := "serialPersistentFields", type := (.array (.object "java/io/ObjectStreamField")), accessFlags := 26, slot := 2, constantValue := 0 }, { name := "REPL", type := .char, accessFlags := 26, slot := 3, constantValue := 0 }, { name := "CASE_INSENSITIVE_ORDER", type := (.object "java/util/Comparator"), accessFlags := 25, slot := 4, constantValue := 0 }, { name := "LATIN1", type := .byte, accessFlags := 24, slot := 5, constantValue := 0 }, { name := "UTF16", type := .byte, accessFlags := 24, slot := 6, constantValue := 0 }]
  methods := #[k9m0, k9m1, k9m2, k9m3, k9m4]
  instanceTypes := #[(.array .byte), .byte, .int, .boolean]
  staticTypes := #[.long, .boolean, (.array (.object "java/io/ObjectStreamField")), .char, (.object "java/util/Comparator"), .byte, .byte]
  resolved := Array.replicate 1451 none
  statics := some 1 }

def pool10 : Array CpInfo := pool [(4, .class_ 6), (1, u "java/lang/Object"), (0, u "<init>"), (0, u "()V"), (5, .class_ 16), (1, u "java/lang/StringLatin1"), (73, u "canEncode"), (14, u "(C)Z"), (15, u "$assertionsDisabled"), (0, u "Z"), (98, .class_ 223), (1, u "java/lang/StringLatin1$LinesSpliterator"), (156, u "toBytes"), (1, u "(C)[B"), (7, .class_ 391), (0, u "java/lang/StringLatin1$CharsSpliterator")] 3

def k10m0 : Method := { name := "<init>", desc := "()V", sig := { parameters := [], returnType := none }, accessFlags := 0, code := none }
def k10c1 : Code := { maxStack := 2, maxLocals := 1, code := jdk_43_method_3_code, exceptionTable := #[], attributes := #[] }
def k10m1 : Method := { name := "canEncode", desc := "(C)Z", sig := { parameters := [.char], returnType := some .boolean }, accessFlags := 9, code := some k10c1 }
def k10c2 : Code := { maxStack := 4, maxLocals := 1, code := jdk_43_method_46_code, exceptionTable := #[], attributes := #[] }
def k10m2 : Method := { name := "toBytes", desc := "(C)[B", sig := { parameters := [.char], returnType := some (.array .byte) }, accessFlags := 9, code := some k10c2 }
/-- java/lang/StringLatin1 -/
def k10 : Class := { plain "java/lang/StringLatin1" (some 0) with
  accessFlags := 48
  interfaces := #[]
  cf := some (fileOf pool10 14 #[.nestMembers #[390, 221]] #[{ accessFlags := 0, nameIndex := 7, descriptorIndex := 8, attributes := #[] }, { accessFlags := 9, nameIndex := 90, descriptorIndex := 105, attributes := #[] }, { accessFlags := 9, nameIndex := 380, descriptorIndex := 382, attributes := #[] }] 48 4 #[] #[{ accessFlags := 4120, nameIndex := 121, descriptorIndex := 122, attributes := #[] }])
  fields := #[{ name := "$assertionsDisabled", type := .boolean, accessFlags := 4120, slot := 0, constantValue := 0 }]
  methods := #[k10m0, k10m1, k10m2]
  instanceTypes := #[]
  staticTypes := #[.boolean]
  resolved := Array.replicate 395 none
  statics := none }

def pool11 : Array CpInfo := pool [(1, .methodref 2 3), (0, .class_ 4), (0, .nameAndType 5 6), (0, u "java/lang/Object"), (0, u "<init>"), (0, u "()V"), (0, .class_ 8), (0, u "java/lang/Record")] 13

def k11c0 : Code := { maxStack := 1, maxLocals := 1, code := jdk_30_method_1_code, exceptionTable := #[], attributes := #[] }
def k11m0 : Method := { name := "<init>", desc := "()V", sig := { parameters := [], returnType := none }, accessFlags := 4, code := some k11c0 }
/-- java/lang/Record -/
def k11 : Class := { plain "java/lang/Record" (some 0) with
  accessFlags := 1057
  interfaces := #[]
  cf := some (fileOf pool11 7 #[] #[{ accessFlags := 4, nameIndex := 5, descriptorIndex := 6, attributes := #[] }] 1057 2 #[] #[])
  fields := #[]
  methods := #[k11m0]
  instanceTypes := #[]
  staticTypes := #[]
  resolved := Array.replicate 22 none
  statics := none }

def pool12 : Array CpInfo := pool [(1, .methodref 2 3), (0, .class_ 4), (0, .nameAndType 5 6), (0, u "java/lang/Record"), (0, u "<init>"), (0, u "()V"), (0, .string 8), (0, u "file"), (0, .methodref 10 11), (0, .class_ 12), (0, .nameAndType 13 14), (0, u "java/util/Objects"), (0, u "requireNonNull"), (0, u "(Ljava/lang/Object;Ljava/lang/String;)Ljava/lang/Object;"), (9, .fieldref 25 26), (0, .class_ 27), (0, .nameAndType 8 28), (0, u "com/example/witnesseth/witnesseth/input/Location"), (0, u "Ljava/lang/String;"), (0, .fieldref 25 30), (0, .nameAndType 31 32), (0, u "line"), (0, u "J"), (0, .fieldref 25 34), (0, .nameAndType 35 32), (0, u "column"), (0, .methodref 25 37), (0, .nameAndType 5 38), (0, u "(Ljava/lang/String;JJ)V"), (14, .class_ 54), (0, u "java/io/Serializable"), (6, u "of"), (0, u "(Ljava/lang/String;)Lcom/example/witnesseth/witnesseth/input/Location;")] 40

def k12c0 : Code := { maxStack := 6, maxLocals := 6, code := prog_16_method_1_code, exceptionTable := #[], attributes := #[] }
def k12m0 : Method := { name := "<init>", desc := "(Ljava/lang/String;JJ)V", sig := { parameters := [(.object "java/lang/String"), .long, .long], returnType := none }, accessFlags := 1, code := some k12c0 }
def k12c1 : Code := { maxStack := 7, maxLocals := 1, code := prog_16_method_2_code, exceptionTable := #[], attributes := #[] }
def k12m1 : Method := { name := "of", desc := "(Ljava/lang/String;)Lcom/example/witnesseth/witnesseth/input/Location;", sig := { parameters := [(.object "java/lang/String")], returnType := some (.object "com/example/witnesseth/witnesseth/input/Location") }, accessFlags := 9, code := some k12c1 }
/-- com/example/witnesseth/witnesseth/input/Location -/
def k12 : Class := { plain "com/example/witnesseth/witnesseth/input/Location" (some 11) with
  accessFlags := 49
  interfaces := #[4]
  cf := some (fileOf pool12 25 #[] #[{ accessFlags := 1, nameIndex := 5, descriptorIndex := 38, attributes := #[] }, { accessFlags := 9, nameIndex := 61, descriptorIndex := 62, attributes := #[] }] 49 2 #[53] #[{ accessFlags := 18, nameIndex := 8, descriptorIndex := 28, attributes := #[] }, { accessFlags := 18, nameIndex := 31, descriptorIndex := 32, attributes := #[] }, { accessFlags := 18, nameIndex := 35, descriptorIndex := 32, attributes := #[] }])
  fields := #[{ name := "file", type := (.object "java/lang/String"), accessFlags := 18, slot := 0, constantValue := 0 }, { name := "line", type := .long, accessFlags := 18, slot := 1, constantValue := 0 }, { name := "column", type := .long, accessFlags := 18, slot := 2, constantValue := 0 }]
  methods := #[k12m0, k12m1]
  instanceTypes := #[(.object "java/lang/String"), .long, .long]
  staticTypes := #[]
  resolved := Array.replicate 103 none
  statics := none }

def pool13 : Array CpInfo := pool [(2, .class_ 4), (1, u "java/lang/Object"), (0, u "<init>"), (0, u "()V"), (35, .class_ 44), (1, u "java/util/Objects"), (0, u "requireNonNull"), (48, u "(Ljava/lang/Object;Ljava/lang/String;)Ljava/lang/Object;")] 89

def k13m0 : Method := { name := "<init>", desc := "()V", sig := { parameters := [], returnType := none }, accessFlags := 2, code := none }
def k13c1 : Code := { maxStack := 3, maxLocals := 2, code := jdk_31_method_11_code, exceptionTable := #[], attributes := #[] }
def k13m1 : Method := { name := "requireNonNull", desc := "(Ljava/lang/Object;Ljava/lang/String;)Ljava/lang/Object;", sig := { parameters := [(.object "java/lang/Object"), (.object "java/lang/String")], returnType := some (.object "java/lang/Object") }, accessFlags := 9, code := some k13c1 }
/-- java/util/Objects -/
def k13 : Class := { plain "java/util/Objects" (some 0) with
  accessFlags := 49
  interfaces := #[]
  cf := some (fileOf pool13 42 #[] #[{ accessFlags := 2, nameIndex := 5, descriptorIndex := 6, attributes := #[] }, { accessFlags := 9, nameIndex := 45, descriptorIndex := 94, attributes := #[] }] 49 2 #[] #[])
  fields := #[]
  methods := #[k13m0, k13m1]
  instanceTypes := #[]
  staticTypes := #[]
  resolved := Array.replicate 184 none
  statics := none }

def pool14 : Array CpInfo := pool [(1, .methodref 2 3), (0, .class_ 4), (0, .nameAndType 5 6), (0, u "java/lang/Record"), (0, u "<init>"), (0, u "()V"), (0, .fieldref 8 9), (0, .class_ 10), (0, .nameAndType 11 12), (0, u "com/example/witnesseth/witnesseth/terms/Token"), (0, u "kind"), (0, u "Lcom/example/witnesseth/witnesseth/terms/Token$Kind;"), (0, .fieldref 8 14), (0, .nameAndType 15 16), (0, u "text"), (0, u "Ljava/lang/String;"), (0, .fieldref 8 18), (0, .nameAndType 19 20), (0, u "location"), (0, u "Lcom/example/witnesseth/witnesseth/input/Location;"), (0, .fieldref 22 23), (0, .class_ 24), (0, .nameAndType 25 12), (0, u "com/example/witnesseth/witnesseth/terms/Token$Kind"), (0, u "NUMBER"), (0, .fieldref 22 27), (0, .nameAndType 28 12), (0, u "PERCENTAGE"), (24, u "STATEMENT_END"), (3, u "(Lcom/example/witnesseth/witnesseth/terms/Token$Kind;Ljava/lang/String;Lcom/example/witnesseth/witnesseth/input/Location;)V"), (3, u "isNumeric"), (0, u "()Z")] 40

def k14c0 : Code := { maxStack := 2, maxLocals := 4, code := prog_56_method_1_code, exceptionTable := #[], attributes := #[] }
def k14m0 : Method := { name := "<init>", desc := "(Lcom/example/witnesseth/witnesseth/terms/Token$Kind;Ljava/lang/String;Lcom/example/witnesseth/witnesseth/input/Location;)V", sig := { parameters := [(.object "com/example/witnesseth/witnesseth/terms/Token$Kind"), (.object "java/lang/String"), (.object "com/example/witnesseth/witnesseth/input/Location")], returnType := none }, accessFlags := 0, code := some k14c0 }
def k14c1 : Code := { maxStack := 2, maxLocals := 1, code := prog_56_method_2_code, exceptionTable := #[], attributes := #[] }
def k14m1 : Method := { name := "isNumeric", desc := "()Z", sig := { parameters := [], returnType := some .boolean }, accessFlags := 0, code := some k14c1 }
/-- com/example/witnesseth/witnesseth/terms/Token -/
def k14 : Class := { plain "com/example/witnesseth/witnesseth/terms/Token" (some 11) with
  accessFlags := 48
  interfaces := #[]
  cf := some (fileOf pool14 8 #[.nestMembers #[22]] #[{ accessFlags := 0, nameIndex := 5, descriptorIndex := 57, attributes := #[] }, { accessFlags := 0, nameIndex := 61, descriptorIndex := 62, attributes := #[] }] 48 2 #[] #[{ accessFlags := 18, nameIndex := 11, descriptorIndex := 12, attributes := #[] }, { accessFlags := 18, nameIndex := 15, descriptorIndex := 16, attributes := #[] }, { accessFlags := 18, nameIndex := 19, descriptorIndex := 20, attributes := #[] }, { accessFlags := 24, nameIndex := 53, descriptorIndex := 16, attributes := #[] }])
  fields := #[{ name := "kind", type := (.object "com/example/witnesseth/witnesseth/terms/Token$Kind"), accessFlags := 18, slot := 0, constantValue := 0 }, { name := "text", type := (.object "java/lang/String"), accessFlags := 18, slot := 1, constantValue := 0 }, { name := "location", type := (.object "com/example/witnesseth/witnesseth/input/Location"), accessFlags := 18, slot := 2, constantValue := 0 }, { name := "STATEMENT_END", type := (.object "java/lang/String"), accessFlags := 24, slot := 0, constantValue := 0 }]
  methods := #[k14m0, k14m1]
  instanceTypes := #[(.object "com/example/witnesseth/witnesseth/terms/Token$Kind"), (.object "java/lang/String"), (.object "com/example/witnesseth/witnesseth/input/Location")]
  staticTypes := #[(.object "java/lang/String")]
  resolved := Array.replicate 103 none
  statics := none }

def pool15 : Array CpInfo := pool [(6, .class_ 8), (1, u "java/lang/Object"), (0, u "<init>"), (0, u "()V"), (1, .class_ 14), (1, u "java/lang/StringUTF16"), (31, u "$assertionsDisabled"), (0, u "Z"), (13, u "HI_BYTE_SHIFT"), (0, u "I"), (2, u "LO_BYTE_SHIFT"), (49, .methodref 12 116), (0, .nameAndType 117 118), (0, u "compress"), (0, u "([CI[BII)I"), (3, u "([CII)[B"), (138, u "coderFromArrayLen"), (0, u "([BI)B"), (106, .class_ 371), (1, u "java/lang/StringUTF16$LinesSpliterator"), (58, u "MAX_LENGTH"), (196, .class_ 628), (0, u "java/lang/StringUTF16$CodePointsSpliterator"), (0, .class_ 630), (0, u "java/lang/StringUTF16$CharsSpliterator")] 4

def k15m0 : Method := { name := "<init>", desc := "()V", sig := { parameters := [], returnType := none }, accessFlags := 0, code := none }
def k15c1 : Code := { maxStack := 2, maxLocals := 2, code := jdk_52_method_15_code, exceptionTable := #[], attributes := #[] }
def k15m1 : Method := { name := "coderFromArrayLen", desc := "([BI)B", sig := { parameters := [(.array .byte), .int], returnType := some .byte }, accessFlags := 8, code := some k15c1 }
def k15c2 : Code := { maxStack := 5, maxLocals := 6, code := jdk_52_method_16_code, exceptionTable := #[], attributes := #[] }
def k15m2 : Method := { name := "compress", desc := "([CII)[B", sig := { parameters := [(.array .char), .int, .int], returnType := some (.array .byte) }, accessFlags := 9, code := some k15c2 }
def k15c3 : Code := { maxStack := 3, maxLocals := 7, code := jdk_52_method_21_code, exceptionTable := #[], attributes := #[] }
def k15m3 : Method := { name := "compress", desc := "([CI[BII)I", sig := { parameters := [(.array .char), .int, (.array .byte), .int, .int], returnType := some .int }, accessFlags := 9, code := some k15c3 }
/-- java/lang/StringUTF16 -/
def k15 : Class := { plain "java/lang/StringUTF16" (some 0) with
  accessFlags := 48
  interfaces := #[]
  cf := some (fileOf pool15 12 #[.nestMembers #[627, 629, 369]] #[{ accessFlags := 0, nameIndex := 9, descriptorIndex := 10, attributes := #[] }, { accessFlags := 8, nameIndex := 261, descriptorIndex := 262, attributes := #[] }, { accessFlags := 9, nameIndex := 117, descriptorIndex := 122, attributes := #[] }, { accessFlags := 9, nameIndex := 117, descriptorIndex := 118, attributes := #[] }] 48 6 #[] #[{ accessFlags := 26, nameIndex := 61, descriptorIndex := 62, attributes := #[] }, { accessFlags := 26, nameIndex := 65, descriptorIndex := 62, attributes := #[] }, { accessFlags := 24, nameIndex := 430, descriptorIndex := 62, attributes := #[] }, { accessFlags := 4120, nameIndex := 46, descriptorIndex := 47, attributes := #[] }])
  fields := #[{ name := "HI_BYTE_SHIFT", type := .int, accessFlags := 26, slot := 0, constantValue := 0 }, { name := "LO_BYTE_SHIFT", type := .int, accessFlags := 26, slot := 1, constantValue := 0 }, { name := "MAX_LENGTH", type := .int, accessFlags := 24, slot := 2, constantValue := 0 }, { name := "$assertionsDisabled", type := .boolean, accessFlags := 4120, slot := 3, constantValue := 0 }]
  methods := #[k15m0, k15m1, k15m2, k15m3]
  instanceTypes := #[]
  staticTypes := #[.int, .int, .int, .boolean]
  resolved := Array.replicate 635 none
  statics := none }

def pool16 : Array CpInfo := pool [(2, .class_ 4), (1, u "java/lang/Object"), (0, u "<init>"), (0, u "()V"), (17, .class_ 26), (1, u "jdk/internal/util/Preconditions"), (28, .class_ 56), (0, u "jdk/internal/util/Preconditions$4"), (57, .class_ 115), (0, u "jdk/internal/util/Preconditions$1"), (7, u "SIOOBE_FORMATTER"), (0, u "Ljava/util/function/BiFunction;"), (0, .class_ 126), (0, u "jdk/internal/util/Preconditions$2"), (3, u "AIOOBE_FORMATTER"), (0, .class_ 132), (0, u "jdk/internal/util/Preconditions$3"), (3, u "IOOBE_FORMATTER")] 57

def k16m0 : Method := { name := "<init>", desc := "()V", sig := { parameters := [], returnType := none }, accessFlags := 1, code := none }
/-- jdk/internal/util/Preconditions -/
def k16 : Class := { plain "jdk/internal/util/Preconditions" (some 0) with
  accessFlags := 33
  interfaces := #[]
  cf := some (fileOf pool16 24 #[.nestMembers #[55, 131, 125, 114]] #[{ accessFlags := 1, nameIndex := 5, descriptorIndex := 6, attributes := #[] }] 33 2 #[] #[{ accessFlags := 25, nameIndex := 123, descriptorIndex := 124, attributes := #[] }, { accessFlags := 25, nameIndex := 130, descriptorIndex := 124, attributes := #[] }, { accessFlags := 25, nameIndex := 136, descriptorIndex := 124, attributes := #[] }])
  fields := #[{ name := "SIOOBE_FORMATTER", type := (.object "java/util/function/BiFunction"), accessFlags := 25, slot := 0, constantValue := 0 }, { name := "AIOOBE_FORMATTER", type := (.object "java/util/function/BiFunction"), accessFlags := 25, slot := 1, constantValue := 0 }, { name := "IOOBE_FORMATTER", type := (.object "java/util/function/BiFunction"), accessFlags := 25, slot := 2, constantValue := 0 }]
  methods := #[k16m0]
  instanceTypes := #[]
  staticTypes := #[(.object "java/util/function/BiFunction"), (.object "java/util/function/BiFunction"), (.object "java/util/function/BiFunction")]
  resolved := Array.replicate 194 none
  statics := some 2 }

def pool17 : Array CpInfo := pool [(9, u "<init>"), (6, .class_ 18), (1, u "java/lang/Object"), (0, u "()V"), (1, .class_ 23), (1, u "jdk/internal/util/ArraysSupport"), (0, u "LOG2_ARRAY_LONG_INDEX_SCALE"), (0, u "I"), (2, u "U"), (0, u "Ljdk/internal/misc/Unsafe;"), (8, u "BIG_ENDIAN"), (0, u "Z"), (8, u "LOG2_BYTE_BIT_SIZE"), (4, u "LOG2_ARRAY_INT_INDEX_SCALE"), (54, u "JLA"), (0, u "Ljdk/internal/access/JavaLangAccess;"), (11, u "LOG2_ARRAY_BOOLEAN_INDEX_SCALE"), (9, u "LOG2_ARRAY_BYTE_INDEX_SCALE"), (5, u "LOG2_ARRAY_CHAR_INDEX_SCALE"), (5, u "LOG2_ARRAY_SHORT_INDEX_SCALE"), (18, u "LOG2_ARRAY_FLOAT_INDEX_SCALE"), (24, u "LOG2_ARRAY_DOUBLE_INDEX_SCALE"), (89, u "T_BOOLEAN"), (2, u "T_CHAR"), (1, u "T_FLOAT"), (1, u "T_DOUBLE"), (1, u "T_BYTE"), (1, u "T_SHORT"), (1, u "T_INT"), (1, u "T_LONG"), (1, u "SOFT_MAX_ARRAY_LENGTH")] 83

def k17m0 : Method := { name := "<init>", desc := "()V", sig := { parameters := [], returnType := none }, accessFlags := 2, code := none }
/-- jdk/internal/util/ArraysSupport -/
def k17 : Class := { plain "jdk/internal/util/ArraysSupport" (some 0) with
  accessFlags := 33
  interfaces := #[]
  cf := some (fileOf pool17 21 #[] #[{ accessFlags := 2, nameIndex := 9, descriptorIndex := 19, attributes := #[] }] 33 16 #[] #[{ accessFlags := 24, nameIndex := 28, descriptorIndex := 29, attributes := #[] }, { accessFlags := 26, nameIndex := 38, descriptorIndex := 39, attributes := #[] }, { accessFlags := 25, nameIndex := 121, descriptorIndex := 25, attributes := #[] }, { accessFlags := 25, nameIndex := 131, descriptorIndex := 25, attributes := #[] }, { accessFlags := 25, nameIndex := 137, descriptorIndex := 25, attributes := #[] }, { accessFlags := 25, nameIndex := 143, descriptorIndex := 25, attributes := #[] }, { accessFlags := 25, nameIndex := 53, descriptorIndex := 25, attributes := #[] }, { accessFlags := 25, nameIndex := 24, descriptorIndex := 25, attributes := #[] }, { accessFlags := 25, nameIndex := 162, descriptorIndex := 25, attributes := #[] }, { accessFlags := 25, nameIndex := 187, descriptorIndex := 25, attributes := #[] }, { accessFlags := 26, nameIndex := 48, descriptorIndex := 25, attributes := #[] }, { accessFlags := 25, nameIndex := 277, descriptorIndex := 25, attributes := #[] }, { accessFlags := 25, nameIndex := 280, descriptorIndex := 25, attributes := #[] }, { accessFlags := 25, nameIndex := 282, descriptorIndex := 25, attributes := #[] }, { accessFlags := 25, nameIndex := 284, descriptorIndex := 25, attributes := #[] }, { accessFlags := 25, nameIndex := 286, descriptorIndex := 25, attributes := #[] }, { accessFlags := 25, nameIndex := 288, descriptorIndex := 25, attributes := #[] }, { accessFlags := 25, nameIndex := 290, descriptorIndex := 25, attributes := #[] }, { accessFlags := 25, nameIndex := 292, descriptorIndex := 25, attributes := #[] }, { accessFlags := 26, nameIndex := 108, descriptorIndex := 109, attributes := #[] }, { accessFlags := 25, nameIndex := 294, descriptorIndex := 25, attributes := #[] }])
  fields := #[{ name := "U", type := (.object "jdk/internal/misc/Unsafe"), accessFlags := 24, slot := 0, constantValue := 0 }, { name := "BIG_ENDIAN", type := .boolean, accessFlags := 26, slot := 1, constantValue := 0 }, { name := "LOG2_ARRAY_BOOLEAN_INDEX_SCALE", type := .int, accessFlags := 25, slot := 2, constantValue := 0 }, { name := "LOG2_ARRAY_BYTE_INDEX_SCALE", type := .int, accessFlags := 25, slot := 3, constantValue := 0 }, { name := "LOG2_ARRAY_CHAR_INDEX_SCALE", type := .int, accessFlags := 25, slot := 4, constantValue := 0 }, { name := "LOG2_ARRAY_SHORT_INDEX_SCALE", type := .int, accessFlags := 25, slot := 5, constantValue := 0 }, { name := "LOG2_ARRAY_INT_INDEX_SCALE", type := .int, accessFlags := 25, slot := 6, constantValue := 0 }, { name := "LOG2_ARRAY_LONG_INDEX_SCALE", type := .int, accessFlags := 25, slot := 7, constantValue := 0 }, { name := "LOG2_ARRAY_FLOAT_INDEX_SCALE", type := .int, accessFlags := 25, slot := 8, constantValue := 0 }, { name := "LOG2_ARRAY_DOUBLE_INDEX_SCALE", type := .int, accessFlags := 25, slot := 9, constantValue := 0 }, { name := "LOG2_BYTE_BIT_SIZE", type := .int, accessFlags := 26, slot := 10, constantValue := 0 }, { name := "T_BOOLEAN", type := .int, accessFlags := 25, slot := 11, constantValue := 0 }, { name := "T_CHAR", type := .int, accessFlags := 25, slot := 12, constantValue := 0 }, { name := "T_FLOAT", type := .int, accessFlags := 25, slot := 13, constantValue := 0 }, { name := "T_DOUBLE", type := .int, accessFlags := 25, slot := 14, constantValue := 0 }, { name := "T_BYTE", type := .int, accessFlags := 25, slot := 15, constantValue := 0 }, { name := "T_SHORT", type := .int, accessFlags := 25, slot := 16, constantValue := 0 }, { name := "T_INT", type := .int, accessFlags := 25, slot := 17, constantValue := 0 }, { name := "T_LONG", type := .int, accessFlags := 25, slot := 18, constantValue := 0 }, { name := "JLA", type := (.object "jdk/internal/access/JavaLangAccess"), accessFlags := 26, slot := 19, constantValue := 0 }, { name := "SOFT_MAX_ARRAY_LENGTH", type := .int, accessFlags := 25, slot := 20, constantValue := 0 }]
  methods := #[k17m0]
  instanceTypes := #[]
  staticTypes := #[(.object "jdk/internal/misc/Unsafe"), .boolean, .int, .int, .int, .int, .int, .int, .int, .int, .int, .int, .int, .int, .int, .int, .int, .int, .int, (.object "jdk/internal/access/JavaLangAccess"), .int]
  resolved := Array.replicate 378 none
  statics := none }

def pool18 : Array CpInfo := pool [(1, u "java/lang/Cloneable"), (0, .class_ 1), (0, u "java/lang/Object"), (0, .class_ 3)] 3

/-- java/lang/Cloneable -/
def k18 : Class := { plain "java/lang/Cloneable" (some 0) with
  accessFlags := 1537
  interfaces := #[]
  cf := some (fileOf pool18 2 #[] #[] 1537 4 #[] #[])
  fields := #[]
  methods := #[]
  instanceTypes := #[]
  staticTypes := #[]
  resolved := Array.replicate 8 none
  statics := none }

/-- the primitive byte -/
def k19 : Class := { plain "byte" none with kind := .primitive 'B', accessFlags := 0x411 }
/-- [B -/
def k20 : Class := { plain "[B" (some 0) with kind := .array 19 .byte, interfaces := #[18, 4], accessFlags := 1041 }

/-- the primitive char -/
def k21 : Class := { plain "char" none with kind := .primitive 'C', accessFlags := 0x411 }
/-- [C -/
def k22 : Class := { plain "[C" (some 0) with kind := .array 21 .char, interfaces := #[18, 4], accessFlags := 1041 }

/-- the primitive int -/
def k23 : Class := { plain "int" none with kind := .primitive 'I', accessFlags := 0x411 }
/-- [I -/
def k24 : Class := { plain "[I" (some 0) with kind := .array 23 .int, interfaces := #[18, 4], accessFlags := 1041 }

def heap : Heap := #[{ cls := 6, slots := #[.ref 3, .ref 4, .ref 5, .ref 6, .ref 7, .ref 8, .null], vm := .statics 6 },
  { cls := 9, slots := #[.long 0, .int 1, .null, .int 0, .null, .int 0, .int 0], vm := .statics 9 },
  { cls := 16, slots := #[.null, .null, .null], vm := .statics 16 },
  { cls := 6, slots := #[.null, .int 0, .int 0], vm := .none },
  { cls := 6, slots := #[.null, .int 1, .int 0], vm := .none },
  { cls := 6, slots := #[.null, .int 2, .int 0], vm := .none },
  { cls := 6, slots := #[.null, .int 3, .int 0], vm := .none },
  { cls := 6, slots := #[.null, .int 4, .int 0], vm := .none },
  { cls := 6, slots := #[.null, .int 5, .int 0], vm := .none }]
def classes : Array Class := #[k0, k1, k2, k3, k4, k5, k6, k7, k8, k9, k10, k11, k12, k13, k14, k15, k16, k17, k18, k19, k20, k21, k22, k23, k24]
def interned : List (Array UInt16 × Addr) := []
def slotsUsed : Nat := 35
def theMethod : MethodId := ⟨1, 1⟩
def args0 : Array Value := #[.int 5, .int 6, .int 7]
def aboutOver (below : List Frame) : State where
  vm := { classes := classes, interned := interned.toArray }
  heap := heap
  slotsUsed := slotsUsed
  threads := #[{ frames := .invoking theMethod args0 :: below }]
def below0 : List Frame := [.native { method := ⟨0, 0⟩, args := #[] }]
def about1 : State := aboutOver below0
def p0 : Program := .bare "" "" ""
def e0 : Env := launch0.env 0 0 0
theorem w_frames : about1.frames = Frame.invoking theMethod args0 :: below0 := rfl
set_option maxRecDepth 65536 in
theorem w_args : argsFit about1.vm theMethod args0 = true := by decide +kernel
set_option maxRecDepth 65536 in
theorem w_heap : heapFits about1 = true := by decide +kernel
set_option maxRecDepth 65536 in
theorem w_runnable : about1.curStatus? = some .runnable := by decide +kernel
set_option maxRecDepth 65536 in
theorem w_alone : about1.alone = true := by decide +kernel
set_option maxRecDepth 65536 in
theorem w_named : about1.methodNamed? x = some theMethod := by decide +kernel
set_option maxRecDepth 65536 in
theorem w_hears : about1.hears theMethod below0 = true := by decide +kernel
set_option maxRecDepth 65536 in
theorem w_ripe : about1.ripe theMethod args0 below0 = true := by decide +kernel
theorem w_running : about1.status = .running := rfl
set_option maxRecDepth 65536 in
theorem w_room : about1.hasRoom e0.platform room_1 = true :=
  launch0.hasRoom_least _ room_1 (by decide +kernel) (by decide +kernel) (by decide +kernel) (by decide +kernel) (by decide +kernel) (by decide +kernel)
theorem allAtoms_all (ts : List Jvm.Cond) (a : Array Jvm.Value) (st : Jvm.State) : (allAtoms ts).before a st = ts.all (fun c => c.before a st) := by
  induction ts with
  | nil => rfl
  | cons c t ih =>
    show (Jvm.Cond.and c (allAtoms t)).before a st = _
    rw [Jvm.Cond.before_and, ih, List.all_cons]
def words1 : List Jvm.Cond := Jvm.Cond.code x code maxLocals ret :: tables_1
/-- a 'code' word, met by the world's own term for the bytes: nothing is compared byte by byte -/
theorem code_word {y : MethodName} {bytes : ByteArray} {mx : Nat} {rt : Option FieldType} {a : Array Value} {s : State} {m : MethodId} {meth : Method} {c : Code} (h1 : s.methodNamed? y = some m) (h2 : s.vm.method? m = some meth) (h3 : meth.code = some c) (h4 : c.code = bytes)
    (h5 : (c.maxLocals == mx && c.exceptionTable.isEmpty && decide (c.maxStack ≤ mostOperands) && decide (meth.sig.returnType = rt) && !meth.locks && decide (parseMethodDescriptor y.desc = some meth.sig)) = true) : (Jvm.Cond.code y bytes mx rt).before a s = true := by
  simp only [Bool.and_eq_true, beq_iff_eq, Bool.not_eq_true', decide_eq_true_eq] at h5
  obtain ⟨⟨⟨⟨⟨g1, g2⟩, g3⟩, g4⟩, g5⟩, g6⟩ := h5
  simp [Cond.before, Cond.holds, Cond.value, h1, h2, h3, h4, g1, g2, g3, g4, g5, g6]
def isCode : Jvm.Cond → Bool
  | .code _ _ _ _ => true
  | _ => false
theorem all_split {L : List Jvm.Cond} {P : Jvm.Cond → Bool} (h1 : L.all (fun c => isCode c || P c) = true) (h2 : ∀ c ∈ L.filter isCode, P c = true) : L.all P = true := by
  refine List.all_eq_true.mpr fun c hc => ?_
  have h := List.all_eq_true.mp h1 c hc
  rcases Bool.eq_false_or_eq_true (isCode c) with hi | hi
  · exact h2 c (List.mem_filter.mpr ⟨hc, hi⟩)
  · simpa [hi] using h
set_option maxRecDepth 65536 in
theorem w_c0 : (Jvm.Cond.code x code maxLocals ret).before args0 about1 = true := code_word (m := ⟨1, 1⟩) (meth := k1m1) (c := k1c1) (by decide +kernel) rfl rfl rfl (by decide +kernel)
set_option maxRecDepth 65536 in
theorem w_c1 : (Jvm.Cond.code ({ cls := "java/lang/String", name := "valueOf", desc := "(C)Ljava/lang/String;" } : Jvm.MethodName) jdk_42_method_139_code (1 : Nat) (Option.some (Jvm.ClassFile.FieldType.object "java/lang/String"))).before args0 about1 = true := code_word (m := ⟨9, 2⟩) (meth := k9m2) (c := k9c2) (by decide +kernel) rfl rfl rfl (by decide +kernel)
set_option maxRecDepth 65536 in
theorem w_c2 : (Jvm.Cond.code ({ cls := "java/lang/StringLatin1", name := "canEncode", desc := "(C)Z" } : Jvm.MethodName) jdk_43_method_3_code (1 : Nat) (Option.some Jvm.ClassFile.FieldType.boolean)).before args0 about1 = true := code_word (m := ⟨10, 1⟩) (meth := k10m1) (c := k10c1) (by decide +kernel) rfl rfl rfl (by decide +kernel)
set_option maxRecDepth 65536 in
theorem w_c3 : (Jvm.Cond.code ({ cls := "java/lang/StringLatin1", name := "toBytes", desc := "(C)[B" } : Jvm.MethodName) jdk_43_method_46_code (1 : Nat) (Option.some (Jvm.ClassFile.FieldType.array Jvm.ClassFile.FieldType.byte))).before args0 about1 = true := code_word (m := ⟨10, 2⟩) (meth := k10m2) (c := k10c2) (by decide +kernel) rfl rfl rfl (by decide +kernel)
set_option maxRecDepth 65536 in
theorem w_c4 : (Jvm.Cond.code ({ cls := "java/lang/String", name := "<init>", desc := "([BB)V" } : Jvm.MethodName) jdk_42_method_151_code (3 : Nat) (Option.none : Option Jvm.ClassFile.FieldType)).before args0 about1 = true := code_word (m := ⟨9, 4⟩) (meth := k9m4) (c := k9c4) (by decide +kernel) rfl rfl rfl (by decide +kernel)
set_option maxRecDepth 65536 in
theorem w_c5 : (Jvm.Cond.code ({ cls := "java/lang/Object", name := "<init>", desc := "()V" } : Jvm.MethodName) object_method_1_code (1 : Nat) (Option.none : Option Jvm.ClassFile.FieldType)).before args0 about1 = true := code_word (m := ⟨0, 0⟩) (meth := k0m0) (c := k0c0) (by decide +kernel) rfl rfl rfl (by decide +kernel)
set_option maxRecDepth 65536 in
theorem w_c6 : (Jvm.Cond.code ({ cls := "com/example/witnesseth/witnesseth/input/Location", name := "of", desc := "(Ljava/lang/String;)Lcom/example/witnesseth/witnesseth/input/Location;" } : Jvm.MethodName) prog_16_method_2_code (1 : Nat) (Option.some (Jvm.ClassFile.FieldType.object "com/example/witnesseth/witnesseth/input/Location"))).before args0 about1 = true := code_word (m := ⟨12, 1⟩) (meth := k12m1) (c := k12c1) (by decide +kernel) rfl rfl rfl (by decide +kernel)
set_option maxRecDepth 65536 in
theorem w_c7 : (Jvm.Cond.code ({ cls := "com/example/witnesseth/witnesseth/input/Location", name := "<init>", desc := "(Ljava/lang/String;JJ)V" } : Jvm.MethodName) prog_16_method_1_code (6 : Nat) (Option.none : Option Jvm.ClassFile.FieldType)).before args0 about1 = true := code_word (m := ⟨12, 0⟩) (meth := k12m0) (c := k12c0) (by decide +kernel) rfl rfl rfl (by decide +kernel)
set_option maxRecDepth 65536 in
theorem w_c8 : (Jvm.Cond.code ({ cls := "java/lang/Record", name := "<init>", desc := "()V" } : Jvm.MethodName) jdk_30_method_1_code (1 : Nat) (Option.none : Option Jvm.ClassFile.FieldType)).before args0 about1 = true := code_word (m := ⟨11, 0⟩) (meth := k11m0) (c := k11c0) (by decide +kernel) rfl rfl rfl (by decide +kernel)
set_option maxRecDepth 65536 in
theorem w_c9 : (Jvm.Cond.code ({ cls := "java/util/Objects", name := "requireNonNull", desc := "(Ljava/lang/Object;Ljava/lang/String;)Ljava/lang/Object;" } : Jvm.MethodName) jdk_31_method_11_code (2 : Nat) (Option.some (Jvm.ClassFile.FieldType.object "java/lang/Object"))).before args0 about1 = true := code_word (m := ⟨13, 1⟩) (meth := k13m1) (c := k13c1) (by decide +kernel) rfl rfl rfl (by decide +kernel)
set_option maxRecDepth 65536 in
theorem w_c10 : (Jvm.Cond.code ({ cls := "com/example/witnesseth/witnesseth/terms/Token", name := "<init>", desc := "(Lcom/example/witnesseth/witnesseth/terms/Token$Kind;Ljava/lang/String;Lcom/example/witnesseth/witnesseth/input/Location;)V" } : Jvm.MethodName) prog_56_method_1_code (4 : Nat) (Option.none : Option Jvm.ClassFile.FieldType)).before args0 about1 = true := code_word (m := ⟨14, 0⟩) (meth := k14m0) (c := k14c0) (by decide +kernel) rfl rfl rfl (by decide +kernel)
set_option maxRecDepth 65536 in
theorem w_c11 : (Jvm.Cond.code ({ cls := "com/example/witnesseth/witnesseth/terms/Token", name := "isNumeric", desc := "()Z" } : Jvm.MethodName) prog_56_method_2_code (1 : Nat) (Option.some Jvm.ClassFile.FieldType.boolean)).before args0 about1 = true := code_word (m := ⟨14, 1⟩) (meth := k14m1) (c := k14c1) (by decide +kernel) rfl rfl rfl (by decide +kernel)
set_option maxRecDepth 65536 in
theorem w_c12 : (Jvm.Cond.code ({ cls := "java/lang/String", name := "<init>", desc := "([C)V" } : Jvm.MethodName) jdk_42_method_3_code (2 : Nat) (Option.none : Option Jvm.ClassFile.FieldType)).before args0 about1 = true := code_word (m := ⟨9, 1⟩) (meth := k9m1) (c := k9c1) (by decide +kernel) rfl rfl rfl (by decide +kernel)
set_option maxRecDepth 65536 in
theorem w_c13 : (Jvm.Cond.code ({ cls := "java/lang/String", name := "<init>", desc := "([CIILjava/lang/Void;)V" } : Jvm.MethodName) jdk_42_method_149_code (6 : Nat) (Option.none : Option Jvm.ClassFile.FieldType)).before args0 about1 = true := code_word (m := ⟨9, 3⟩) (meth := k9m3) (c := k9c3) (by decide +kernel) rfl rfl rfl (by decide +kernel)
set_option maxRecDepth 65536 in
theorem w_c14 : (Jvm.Cond.code ({ cls := "java/lang/StringUTF16", name := "compress", desc := "([CII)[B" } : Jvm.MethodName) jdk_52_method_16_code (6 : Nat) (Option.some (Jvm.ClassFile.FieldType.array Jvm.ClassFile.FieldType.byte))).before args0 about1 = true := code_word (m := ⟨15, 2⟩) (meth := k15m2) (c := k15c2) (by decide +kernel) rfl rfl rfl (by decide +kernel)
set_option maxRecDepth 65536 in
theorem w_c15 : (Jvm.Cond.code ({ cls := "java/lang/StringUTF16", name := "compress", desc := "([CI[BII)I" } : Jvm.MethodName) jdk_52_method_21_code (7 : Nat) (Option.some Jvm.ClassFile.FieldType.int)).before args0 about1 = true := code_word (m := ⟨15, 3⟩) (meth := k15m3) (c := k15c3) (by decide +kernel) rfl rfl rfl (by decide +kernel)
set_option maxRecDepth 65536 in
theorem w_c16 : (Jvm.Cond.code ({ cls := "java/lang/StringUTF16", name := "coderFromArrayLen", desc := "([BI)B" } : Jvm.MethodName) jdk_52_method_15_code (2 : Nat) (Option.some Jvm.ClassFile.FieldType.byte)).before args0 about1 = true := code_word (m := ⟨15, 1⟩) (meth := k15m1) (c := k15c1) (by decide +kernel) rfl rfl rfl (by decide +kernel)
def codes1 : List Jvm.Cond := [Jvm.Cond.code x code maxLocals ret, Jvm.Cond.code ({ cls := "java/lang/String", name := "valueOf", desc := "(C)Ljava/lang/String;" } : Jvm.MethodName) jdk_42_method_139_code (1 : Nat) (Option.some (Jvm.ClassFile.FieldType.object "java/lang/String")), Jvm.Cond.code ({ cls := "java/lang/StringLatin1", name := "canEncode", desc := "(C)Z" } : Jvm.MethodName) jdk_43_method_3_code (1 : Nat) (Option.some Jvm.ClassFile.FieldType.boolean), Jvm.Cond.code ({ cls := "java/lang/StringLatin1", name := "toBytes", desc := "(C)[B" } : Jvm.MethodName) jdk_43_method_46_code (1 : Nat) (Option.some (Jvm.ClassFile.FieldType.array Jvm.ClassFile.FieldType.byte)), Jvm.Cond.code ({ cls := "java/lang/String", name := "<init>", desc := "([BB)V" } : Jvm.MethodName) jdk_42_method_151_code (3 : Nat) (Option.none : Option Jvm.ClassFile.FieldType), Jvm.Cond.code ({ cls := "java/lang/Object", name := "<init>", desc := "()V" } : Jvm.MethodName) object_method_1_code (1 : Nat) (Option.none : Option Jvm.ClassFile.FieldType), Jvm.Cond.code ({ cls := "com/example/witnesseth/witnesseth/input/Location", name := "of", desc := "(Ljava/lang/String;)Lcom/example/witnesseth/witnesseth/input/Location;" } : Jvm.MethodName) prog_16_method_2_code (1 : Nat) (Option.some (Jvm.ClassFile.FieldType.object "com/example/witnesseth/witnesseth/input/Location")), Jvm.Cond.code ({ cls := "com/example/witnesseth/witnesseth/input/Location", name := "<init>", desc := "(Ljava/lang/String;JJ)V" } : Jvm.MethodName) prog_16_method_1_code (6 : Nat) (Option.none : Option Jvm.ClassFile.FieldType), Jvm.Cond.code ({ cls := "java/lang/Record", name := "<init>", desc := "()V" } : Jvm.MethodName) jdk_30_method_1_code (1 : Nat) (Option.none : Option Jvm.ClassFile.FieldType), Jvm.Cond.code ({ cls := "java/util/Objects", name := "requireNonNull", desc := "(Ljava/lang/Object;Ljava/lang/String;)Ljava/lang/Object;" } : Jvm.MethodName) jdk_31_method_11_code (2 : Nat) (Option.some (Jvm.ClassFile.FieldType.object "java/lang/Object")), Jvm.Cond.code ({ cls := "com/example/witnesseth/witnesseth/terms/Token", name := "<init>", desc := "(Lcom/example/witnesseth/witnesseth/terms/Token$Kind;Ljava/lang/String;Lcom/example/witnesseth/witnesseth/input/Location;)V" } : Jvm.MethodName) prog_56_method_1_code (4 : Nat) (Option.none : Option Jvm.ClassFile.FieldType), Jvm.Cond.code ({ cls := "com/example/witnesseth/witnesseth/terms/Token", name := "isNumeric", desc := "()Z" } : Jvm.MethodName) prog_56_method_2_code (1 : Nat) (Option.some Jvm.ClassFile.FieldType.boolean), Jvm.Cond.code ({ cls := "java/lang/String", name := "<init>", desc := "([C)V" } : Jvm.MethodName) jdk_42_method_3_code (2 : Nat) (Option.none : Option Jvm.ClassFile.FieldType), Jvm.Cond.code ({ cls := "java/lang/String", name := "<init>", desc := "([CIILjava/lang/Void;)V" } : Jvm.MethodName) jdk_42_method_149_code (6 : Nat) (Option.none : Option Jvm.ClassFile.FieldType), Jvm.Cond.code ({ cls := "java/lang/StringUTF16", name := "compress", desc := "([CII)[B" } : Jvm.MethodName) jdk_52_method_16_code (6 : Nat) (Option.some (Jvm.ClassFile.FieldType.array Jvm.ClassFile.FieldType.byte)), Jvm.Cond.code ({ cls := "java/lang/StringUTF16", name := "compress", desc := "([CI[BII)I" } : Jvm.MethodName) jdk_52_method_21_code (7 : Nat) (Option.some Jvm.ClassFile.FieldType.int), Jvm.Cond.code ({ cls := "java/lang/StringUTF16", name := "coderFromArrayLen", desc := "([BI)B" } : Jvm.MethodName) jdk_52_method_15_code (2 : Nat) (Option.some Jvm.ClassFile.FieldType.byte)]
set_option maxRecDepth 65536 in
theorem codes_eq : words1.filter isCode = codes1 := rfl
theorem w_codes : ∀ c ∈ words1.filter isCode, c.before args0 about1 = true := by
  rw [codes_eq]
  intro c hc
  simp only [codes1, List.mem_cons, List.not_mem_nil, or_false] at hc
  rcases hc with rfl | rfl | rfl | rfl | rfl | rfl | rfl | rfl | rfl | rfl | rfl | rfl | rfl | rfl | rfl | rfl | rfl
  · exact w_c0
  · exact w_c1
  · exact w_c2
  · exact w_c3
  · exact w_c4
  · exact w_c5
  · exact w_c6
  · exact w_c7
  · exact w_c8
  · exact w_c9
  · exact w_c10
  · exact w_c11
  · exact w_c12
  · exact w_c13
  · exact w_c14
  · exact w_c15
  · exact w_c16
set_option maxRecDepth 65536 in
theorem w_t1 : (words1.take 24).all (fun c => isCode c || c.before args0 about1) = true := by decide +kernel
set_option maxRecDepth 65536 in
theorem w_t2 : ((words1.drop 24).take 24).all (fun c => isCode c || c.before args0 about1) = true := by decide +kernel
set_option maxRecDepth 65536 in
theorem w_t3 : (((words1.drop 24).drop 24).take 24).all (fun c => isCode c || c.before args0 about1) = true := by decide +kernel
set_option maxRecDepth 65536 in
theorem w_t4 : ((((words1.drop 24).drop 24).drop 24).take 24).all (fun c => isCode c || c.before args0 about1) = true := by decide +kernel
set_option maxRecDepth 65536 in
theorem w_t5 : ((((words1.drop 24).drop 24).drop 24).drop 24).all (fun c => isCode c || c.before args0 about1) = true := by decide +kernel
theorem w_tables : (allAtoms (Jvm.Cond.code x code maxLocals ret :: tables_1)).before args0 about1 = true := by
  rw [allAtoms_all]
  show words1.all (fun c => c.before args0 about1) = true
  refine all_split ?_ w_codes
  rw [← List.take_append_drop 24 words1, List.all_append, w_t1, ← List.take_append_drop 24 (words1.drop 24), List.all_append, w_t2, ← List.take_append_drop 24 ((words1.drop 24).drop 24), List.all_append, w_t3, ← List.take_append_drop 24 (((words1.drop 24).drop 24).drop 24), List.all_append, w_t4, w_t5]
  rfl
set_option maxRecDepth 65536 in
theorem w_rest : rest_1_c.before args0 about1 = true := by decide +kernel
set_option maxRecDepth 65536 in
theorem w_case : (Jvm.Cond.and given_1 narrow_1).before args0 about1 = true := by decide +kernel
theorem w_applies : (headSpec (Jvm.Cond.code x code maxLocals ret :: tables_1) room_1).applies x e0.platform about1 = true :=
  (Spec.applies_iff w_frames).mpr ⟨w_running, w_runnable, w_alone, w_named, w_hears, w_ripe, w_room, w_tables⟩
theorem atStart : AtStart classFile x code maxLocals ret World_1 tables_1 room_1 Calls_1 rest_1 Pre_1 launch0 p0 e0 about1 theMethod args0 below0 :=
  ⟨lists_1, trivial, launch0.admits_env _ _ _, launch0.least_env, fairChoices_fair.cas, fairChoices_fair.clock, w_frames, w_args, w_heap, w_applies, trivial, w_rest, w_case⟩
end start1
theorem witness_1 : WitnessClaimed_1 := ⟨start1.p0, start1.e0, start1.about1, start1.theMethod, start1.args0, start1.below0, start1.atStart⟩
end Jvm.Pilot.@@N@@
