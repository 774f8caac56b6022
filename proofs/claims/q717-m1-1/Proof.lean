import JvmDerived
import JvmDerived.Pilot.@@N@@Statement
import JvmDerived.Pilot.@@N@@Code
set_option linter.unusedVariables false
set_option linter.unusedSimpArgs false

namespace Jvm.OwnW
open Sem ClassFile Op Lib Jvm.Stand Jvm.Free Jvm.LawKit Jvm.RoadKit
/-- the instruction i stands at pc, n bytes long; the next one stands at nx -/
def Ins (code : ByteArray) (pc : Nat) (i : Instr) (n nx : Nat) : Prop := decode code pc = .ok (i, n) ∧ pc + n = nx
/-- a jump by o from pc leads to t -/
def Jmp (pc : Nat) (o : Int) (t : Nat) : Prop := 0 ≤ (pc : Int) + o ∧ ((pc : Int) + o).toNat = t
instance {pc : Nat} {o : Int} {t : Nat} : Decidable (Jmp pc o t) := inferInstanceAs (Decidable (_ ∧ _))
/-- what is fixed through a body's walk -/
def Ctx (p : Program) (s : State) (m : MethodId) (meth : Method) (c : Code) (Z : State) (own nm : String) (code : ByteArray) (ml : Nat) (ret : Option FieldType) : Prop :=
  p.tables.exec = Jvm.exec ∧ Z.Warmed39 s.vm ∧ c.code = code ∧ c.maxLocals = ml ∧ s.vm.findClass own = some m.cls ∧ meth.sig.returnType = ret ∧ meth.locks = false ∧ meth.name = nm
/-- what is carried unseen: the tables since the start; the constants that are held; D: arrays and Strings of our own, which no constant names -/
def Hid (w : Bool) (Z : State) (EL : List (String × Nat)) (D : List Addr) (s : State) (vm0 : Vm) (h : Heap) : Prop :=
  (if w = true then ∃ k0, s.Since vm0 k0 ∧ k0 ≤ h.size else vm0 = s.vm) ∧ (∃ a0, EW Z a0 EL) ∧ CHr Z EL s.vm s.heap vm0 h ∧ ∀ x ∈ D, x < h.size ∧ Safe Z EL vm0 h x
def En (w : Bool) (s : State) (o : Outcome) (t : State) (L : List Loc) (k n : Nat) : Prop := if w = true then ReturnedEndW s o t L k n else FrameEnd s o t L k n
/-- how a body ends -/
def Done (w : Bool) (Z : State) (EL : List (String × Nat)) (n0 : Nat) (R : Room) (Q : Option Value → Heap → List Addr → Prop) (s : State) (o : Outcome) (t : State) : Prop :=
  ∃ v L D', o = .returned v ∧ Q v t.heap D' ∧ Old Z n0 t.heap ∧ Fr n0 L ∧ (CHr Z EL s.vm s.heap t.vm t.heap ∧ ∀ x ∈ D', x < t.heap.size ∧ Safe Z EL t.vm t.heap x) ∧ En w s o t L R.cells R.slots
/-- from pc, with these locals, this stack and this heap, the body comes to an end that Q allows -/
def Runs (w : Bool) (l : Launch) (Z : State) (EL : List (String × Nat)) (n0 : Nat) (own nm : String) (code : ByteArray) (ml : Nat) (ret : Option FieldType) (R : Room) (Q : Option Value → Heap → List Addr → Prop) (D : List Addr) (h : Heap) (kc ks pc : Nat) (ls : Array Slot) (st : List Value) : Prop :=
  ∀ (p : Program) (e : Env) (s : State) (vm0 : Vm) (m : MethodId) (args : Array Value) (below : List Frame) (meth : Method) (c : Code) (T : State) (locs : List Loc),
    Ctx p (s.setVm vm0) m meth c Z own nm code ml ret → Stand p l e R (s.setVm vm0) m args below meth c T locs kc ks → T.heap = h → Fr n0 locs → Old Z n0 h → Hid w Z EL D s vm0 h →
    ∃ s₂ o, Steps p.tables e below (T.setTop (mkF m pc ls st)) s₂ ∧ s₂.status = .running ∧ Ended s₂ below o ∧ Done w Z EL n0 R Q s o s₂
/-- a method's contract -/
def Con (w : Bool) (l : Launch) (Z : State) (EL : List (String × Nat)) (n0 : Nat) (y : MethodName) (code : ByteArray) (ml : Nat) (ret : Option FieldType) (R : Room) (as' : Array Value) (D : List Addr) (h : Heap) (Q : Option Value → Heap → List Addr → Prop) : Prop :=
  ∀ ws : List Jvm.Cond, MetFree l y (head1 (Jvm.Cond.code y code ml ret :: ws) R) (fun a U => a = as' ∧ Z.Warmed39 U.vm ∧ U.heap = h ∧ Old Z n0 h ∧ (∃ a0, EW Z a0 EL) ∧ CHv Z EL U.vm h ∧ ∀ x ∈ D, x < h.size ∧ Safe Z EL U.vm h x) (fun _ _ _ _ _ => True) (fun _ U o U' => Done w Z EL n0 R Q U o U')
section W
variable {w : Bool} {l : Launch} {Z : State} {EL : List (String × Nat)} {n0 : Nat} {own nm : String} {code : ByteArray} {ml : Nat} {ret : Option FieldType} {R : Room} {Q : Option Value → Heap → List Addr → Prop} {D : List Addr} {h : Heap} {kc ks pc pc' : Nat} {ls ls' : Array Slot} {st st' rest : List Value} {a0 : Array Value}
theorem Con.of_runs {y : MethodName} {as' : Array Value} (hp : plainFor y = true) (he : ∀ m, entryFrame m as' ml = mkF m 0 ls []) (K : Runs w l Z EL n0 y.cls y.name code ml ret R Q D h 0 0 0 ls []) : Con w l Z EL n0 y code ml ret R as' D h Q := by
  intro ws
  refine MetFree.of_bodySF hp hisR ?_
  intro p e s m args below meth c s₁ Bd hml0 hP hK
  obtain ⟨rfl, hZ, hh, hO, hE, hC, hD⟩ := hP
  have hnm := (name_of_methodNamed Bd.named Bd.method).1
  have hown : s.vm.findClass y.cls = some m.cls := findClass_of_methodNamed Bd.named
  have X0 : Stand p l e R s m args below meth c s₁ [] 0 0 := Stand.of_body Bd
  have e0 : s₁.heap = h := by rw [← hh, Bd.state]; rfl
  obtain ⟨s₂, o, S, r1, r2, r3⟩ := K p e s s.vm m args below meth c s₁ [] ⟨Bd.exec, hZ, Bd.bytes, hml0, hown, Bd.returns, Bd.notSynchronized, hnm⟩ X0 e0 (Fr.nil n0) hO
    ⟨by split; exact ⟨0, (State.WarmedH.refl s).since 0, Nat.zero_le _⟩; rfl, hE, by rw [← hh] at hC ⊢; exact CHr.refl hC, hD⟩
  exact ⟨s₂, o, castTop (he m) S, r1, r2, r3⟩
theorem Runs.plain (K : Runs w l Z EL n0 own nm code ml ret R Q D h kc ks pc' ls' st')
    (f : ∀ (p : Program) (e : Env) (m : MethodId) (below : List Frame) (c : Code) (T target : State), p.tables.exec = Jvm.exec → c.code = code → At T m c below → Steps p.tables e below (T.setTop (mkF m pc' ls' st')) target → Steps p.tables e below (T.setTop (mkF m pc ls st)) target) : Runs w l Z EL n0 own nm code ml ret R Q D h kc ks pc ls st := by
  intro p e s vm0 m args below meth c T locs C X eT N O H
  obtain ⟨s₂, o, S, r⟩ := K p e s vm0 m args below meth c T locs C X eT N O H
  exact ⟨s₂, o, f p e m below c T s₂ C.1 C.2.2.1 X.here S, r⟩
/-- a step whose law moves the tables alone -/
theorem Runs.warm (K : Runs w l Z EL n0 own nm code ml ret R Q D h kc ks pc' ls' st')
    (f : ∀ (p : Program) (e : Env) (s : State) (m : MethodId) (args : Array Value) (below : List Frame) (meth : Method) (c : Code) (T : State) (locs : List Loc), Ctx p s m meth c Z own nm code ml ret → Stand p l e R s m args below meth c T locs kc ks → T.heap = h → Old Z n0 h →
      ∃ T', Stand p l e R s m args below meth c T' locs kc ks ∧ T'.heap = h ∧ ∀ target, Steps p.tables e below (T'.setTop (mkF m pc' ls' st')) target → Steps p.tables e below (T.setTop (mkF m pc ls st)) target) : Runs w l Z EL n0 own nm code ml ret R Q D h kc ks pc ls st := by
  intro p e s vm0 m args below meth c T locs C X eT N O H
  obtain ⟨T', X', e', S'⟩ := f p e _ m args below meth c T locs C X eT O
  obtain ⟨s₂, o, S, r⟩ := K p e s vm0 m args below meth c T' locs C X' e' N O H
  exact ⟨s₂, o, S' _ S, r⟩
theorem Runs.old (K : Old Z n0 h → Runs w l Z EL n0 own nm code ml ret R Q D h kc ks pc ls st) : Runs w l Z EL n0 own nm code ml ret R Q D h kc ks pc ls st :=
  fun p e s vm0 m args below meth c T locs C X eT N O H => K O p e s vm0 m args below meth c T locs C X eT N O H
theorem Runs.weak {D1 : List Addr} (hs : ∀ x ∈ D1, x ∈ D) (K : Runs w l Z EL n0 own nm code ml ret R Q D1 h kc ks pc ls st) : Runs w l Z EL n0 own nm code ml ret R Q D h kc ks pc ls st :=
  fun p e s vm0 m args below meth c T locs C X eT N O H => K p e s vm0 m args below meth c T locs C X eT N O ⟨H.1, H.2.1, H.2.2.1, fun x hx => H.2.2.2 x (hs x hx)⟩
/-- fewer cells, fewer slots made: at most more -/
theorem Runs.mono {kc' ks' : Nat} (h1 : kc ≤ kc') (h2 : ks ≤ ks') (K : Runs w l Z EL n0 own nm code ml ret R Q D h kc' ks' pc ls st) : Runs w l Z EL n0 own nm code ml ret R Q D h kc ks pc ls st :=
  fun p e s vm0 m args below meth c T locs C X eT N O H => K p e s vm0 m args below meth c T locs C (X.mono h1 h2) eT N O H

theorem Runs.iloadN {k : Fin 4} {v : Int32} (hd : Ins code pc (.iload_n k) 1 pc') (hl : ls[k.val]? = some (.val (.int v))) (K : Runs w l Z EL n0 own nm code ml ret R Q D h kc ks pc' ls (.int v :: st)) : Runs w l Z EL n0 own nm code ml ret R Q D h kc ks pc ls st := by
  obtain ⟨hd, rfl⟩ := hd
  exact K.plain fun p e m below c T t hx hb X S => XS.iloadN (g := mkF m pc ls st) X hx rfl (Jvm.hb hb hd) hl S
theorem Runs.iload {k : Nat} {v : Int32} (hd : Ins code pc (.iload k) 2 pc') (hl : ls[k]? = some (.val (.int v))) (K : Runs w l Z EL n0 own nm code ml ret R Q D h kc ks pc' ls (.int v :: st)) : Runs w l Z EL n0 own nm code ml ret R Q D h kc ks pc ls st := by
  obtain ⟨hd, rfl⟩ := hd
  exact K.plain fun p e m below c T t hx hb X S => XS.iload (g := mkF m pc ls st) X hx rfl (Jvm.hb hb hd) hl S
theorem Runs.istoreN {k : Fin 4} {x : Int32} (hd : Ins code pc (.istore_n k) 1 pc') (hl : storeLocals ls k.val (.int x) = some ls') (K : Runs w l Z EL n0 own nm code ml ret R Q D h kc ks pc' ls' rest) : Runs w l Z EL n0 own nm code ml ret R Q D h kc ks pc ls (.int x :: rest) := by
  obtain ⟨hd, rfl⟩ := hd
  exact K.plain fun p e m below c T t hx hb X S => XS.istoreN (g := mkF m pc ls (.int x :: rest)) X hx rfl (Jvm.hb hb hd) rfl hl S
theorem Runs.istore {k : Nat} {x : Int32} (hd : Ins code pc (.istore k) 2 pc') (hl : storeLocals ls k (.int x) = some ls') (K : Runs w l Z EL n0 own nm code ml ret R Q D h kc ks pc' ls' rest) : Runs w l Z EL n0 own nm code ml ret R Q D h kc ks pc ls (.int x :: rest) := by
  obtain ⟨hd, rfl⟩ := hd
  exact K.plain fun p e m below c T t hx hb X S => XS.istore (g := mkF m pc ls (.int x :: rest)) X hx rfl (Jvm.hb hb hd) rfl hl S
theorem Runs.lloadN {k : Fin 4} {v : Int64} (hd : Ins code pc (.lload_n k) 1 pc') (hl : ls[k.val]? = some (.val (.long v))) (K : Runs w l Z EL n0 own nm code ml ret R Q D h kc ks pc' ls (.long v :: st)) : Runs w l Z EL n0 own nm code ml ret R Q D h kc ks pc ls st := by
  obtain ⟨hd, rfl⟩ := hd
  exact K.plain fun p e m below c T t hx hb X S => XT.lloadN (g := mkF m pc ls st) X hx rfl (Jvm.hb hb hd) hl S
theorem Runs.lload {k : Nat} {v : Int64} (hd : Ins code pc (.lload k) 2 pc') (hl : ls[k]? = some (.val (.long v))) (K : Runs w l Z EL n0 own nm code ml ret R Q D h kc ks pc' ls (.long v :: st)) : Runs w l Z EL n0 own nm code ml ret R Q D h kc ks pc ls st := by
  obtain ⟨hd, rfl⟩ := hd
  exact K.plain fun p e m below c T t hx hb X S => XT.lload (g := mkF m pc ls st) X hx rfl (Jvm.hb hb hd) hl S
theorem Runs.lstoreN {k : Fin 4} {x : Int64} (hd : Ins code pc (.lstore_n k) 1 pc') (hl : storeLocals ls k.val (.long x) = some ls') (K : Runs w l Z EL n0 own nm code ml ret R Q D h kc ks pc' ls' rest) : Runs w l Z EL n0 own nm code ml ret R Q D h kc ks pc ls (.long x :: rest) := by
  obtain ⟨hd, rfl⟩ := hd
  exact K.plain fun p e m below c T t hx hb X S => XT.lstoreN (g := mkF m pc ls (.long x :: rest)) X hx rfl (Jvm.hb hb hd) rfl hl S
theorem Runs.lstore {k : Nat} {x : Int64} (hd : Ins code pc (.lstore k) 2 pc') (hl : storeLocals ls k (.long x) = some ls') (K : Runs w l Z EL n0 own nm code ml ret R Q D h kc ks pc' ls' rest) : Runs w l Z EL n0 own nm code ml ret R Q D h kc ks pc ls (.long x :: rest) := by
  obtain ⟨hd, rfl⟩ := hd
  exact K.plain fun p e m below c T t hx hb X S => XT.lstore (g := mkF m pc ls (.long x :: rest)) X hx rfl (Jvm.hb hb hd) rfl hl S
theorem Runs.aloadN {k : Fin 4} {v : Value} (hd : Ins code pc (.aload_n k) 1 pc') (hl : ls[k.val]? = some (.val v)) (hv : v.isRef = true) (K : Runs w l Z EL n0 own nm code ml ret R Q D h kc ks pc' ls (v :: st)) : Runs w l Z EL n0 own nm code ml ret R Q D h kc ks pc ls st := by
  obtain ⟨hd, rfl⟩ := hd
  exact K.plain fun p e m below c T t hx hb X S => XS.aloadN (g := mkF m pc ls st) X hx rfl (Jvm.hb hb hd) hl hv S
theorem Runs.aload {k : Nat} {v : Value} (hd : Ins code pc (.aload k) 2 pc') (hl : ls[k]? = some (.val v)) (hv : v.isRef = true) (K : Runs w l Z EL n0 own nm code ml ret R Q D h kc ks pc' ls (v :: st)) : Runs w l Z EL n0 own nm code ml ret R Q D h kc ks pc ls st := by
  obtain ⟨hd, rfl⟩ := hd
  exact K.plain fun p e m below c T t hx hb X S => XS.aload (g := mkF m pc ls st) X hx rfl (Jvm.hb hb hd) hl hv S
theorem Runs.astoreN {k : Fin 4} {x : Value} (hd : Ins code pc (.astore_n k) 1 pc') (hv : x.isRef = true) (hl : storeLocals ls k.val x = some ls') (K : Runs w l Z EL n0 own nm code ml ret R Q D h kc ks pc' ls' rest) : Runs w l Z EL n0 own nm code ml ret R Q D h kc ks pc ls (x :: rest) := by
  obtain ⟨hd, rfl⟩ := hd
  exact K.plain fun p e m below c T t hx hb X S => XS.astoreN (g := mkF m pc ls (x :: rest)) X hx rfl (Jvm.hb hb hd) rfl hv hl S
theorem Runs.astore {k : Nat} {x : Value} (hd : Ins code pc (.astore k) 2 pc') (hv : x.isRef = true) (hl : storeLocals ls k x = some ls') (K : Runs w l Z EL n0 own nm code ml ret R Q D h kc ks pc' ls' rest) : Runs w l Z EL n0 own nm code ml ret R Q D h kc ks pc ls (x :: rest) := by
  obtain ⟨hd, rfl⟩ := hd
  exact K.plain fun p e m below c T t hx hb X S => XS.astore (g := mkF m pc ls (x :: rest)) X hx rfl (Jvm.hb hb hd) rfl hv hl S
theorem Runs.iconst {i : Int} {v : Int32} (hd : Ins code pc (.iconst i) 1 pc') (hz : Int32.ofInt i = v) (K : Runs w l Z EL n0 own nm code ml ret R Q D h kc ks pc' ls (.int v :: st)) : Runs w l Z EL n0 own nm code ml ret R Q D h kc ks pc ls st := by
  obtain ⟨hd, rfl⟩ := hd
  subst hz
  exact K.plain fun p e m below c T t hx hb X S => XS.iconst (g := mkF m pc ls st) X hx rfl (Jvm.hb hb hd) S
theorem Runs.bipush {i : Int} {v : Int32} (hd : Ins code pc (.bipush i) 2 pc') (hz : (Int8.ofInt i).toInt32 = v) (K : Runs w l Z EL n0 own nm code ml ret R Q D h kc ks pc' ls (.int v :: st)) : Runs w l Z EL n0 own nm code ml ret R Q D h kc ks pc ls st := by
  obtain ⟨hd, rfl⟩ := hd
  subst hz
  exact K.plain fun p e m below c T t hx hb X S => XS.bipush (g := mkF m pc ls st) X hx rfl (Jvm.hb hb hd) S
theorem Runs.sipush {i : Int} {v : Int32} (hd : Ins code pc (.sipush i) 3 pc') (hz : (Int16.ofInt i).toInt32 = v) (K : Runs w l Z EL n0 own nm code ml ret R Q D h kc ks pc' ls (.int v :: st)) : Runs w l Z EL n0 own nm code ml ret R Q D h kc ks pc ls st := by
  obtain ⟨hd, rfl⟩ := hd
  subst hz
  exact K.plain fun p e m below c T t hx hb X S => XS.sipush (g := mkF m pc ls st) X hx rfl (Jvm.hb hb hd) S
theorem Runs.lconst {k : Fin 2} {v : Int64} (hd : Ins code pc (.lconst k) 1 pc') (hz : Int64.ofNat k = v) (K : Runs w l Z EL n0 own nm code ml ret R Q D h kc ks pc' ls (.long v :: st)) : Runs w l Z EL n0 own nm code ml ret R Q D h kc ks pc ls st := by
  obtain ⟨hd, rfl⟩ := hd
  subst hz
  exact K.plain fun p e m below c T t hx hb X S => XT.lconst (g := mkF m pc ls st) X hx rfl (Jvm.hb hb hd) S
theorem Runs.aconstNull  (hd : Ins code pc (.aconst_null) 1 pc')  (K : Runs w l Z EL n0 own nm code ml ret R Q D h kc ks pc' ls (.null :: st)) : Runs w l Z EL n0 own nm code ml ret R Q D h kc ks pc ls st := by
  obtain ⟨hd, rfl⟩ := hd
  exact K.plain fun p e m below c T t hx hb X S => XS.aconstNull (g := mkF m pc ls st) X hx rfl (Jvm.hb hb hd) S
theorem Runs.iadd {x y z : Int32} (hd : Ins code pc (.iadd) 1 pc') (hz : x + y = z) (K : Runs w l Z EL n0 own nm code ml ret R Q D h kc ks pc' ls (.int z :: rest)) : Runs w l Z EL n0 own nm code ml ret R Q D h kc ks pc ls (.int y :: .int x :: rest) := by
  obtain ⟨hd, rfl⟩ := hd
  subst hz
  exact K.plain fun p e m below c T t hx hb X S => XS.iadd (g := mkF m pc ls (.int y :: .int x :: rest)) X hx rfl (Jvm.hb hb hd) rfl S
theorem Runs.isub {x y z : Int32} (hd : Ins code pc (.isub) 1 pc') (hz : x - y = z) (K : Runs w l Z EL n0 own nm code ml ret R Q D h kc ks pc' ls (.int z :: rest)) : Runs w l Z EL n0 own nm code ml ret R Q D h kc ks pc ls (.int y :: .int x :: rest) := by
  obtain ⟨hd, rfl⟩ := hd
  subst hz
  exact K.plain fun p e m below c T t hx hb X S => XS.isub (g := mkF m pc ls (.int y :: .int x :: rest)) X hx rfl (Jvm.hb hb hd) rfl S
theorem Runs.imul {x y z : Int32} (hd : Ins code pc (.imul) 1 pc') (hz : x * y = z) (K : Runs w l Z EL n0 own nm code ml ret R Q D h kc ks pc' ls (.int z :: rest)) : Runs w l Z EL n0 own nm code ml ret R Q D h kc ks pc ls (.int y :: .int x :: rest) := by
  obtain ⟨hd, rfl⟩ := hd
  subst hz
  exact K.plain fun p e m below c T t hx hb X S => XS.imul (g := mkF m pc ls (.int y :: .int x :: rest)) X hx rfl (Jvm.hb hb hd) rfl S
theorem Runs.iand {x y z : Int32} (hd : Ins code pc (.iand) 1 pc') (hz : x &&& y = z) (K : Runs w l Z EL n0 own nm code ml ret R Q D h kc ks pc' ls (.int z :: rest)) : Runs w l Z EL n0 own nm code ml ret R Q D h kc ks pc ls (.int y :: .int x :: rest) := by
  obtain ⟨hd, rfl⟩ := hd
  subst hz
  exact K.plain fun p e m below c T t hx hb X S => XS.iand (g := mkF m pc ls (.int y :: .int x :: rest)) X hx rfl (Jvm.hb hb hd) rfl S
theorem Runs.ior {x y z : Int32} (hd : Ins code pc (.ior) 1 pc') (hz : x ||| y = z) (K : Runs w l Z EL n0 own nm code ml ret R Q D h kc ks pc' ls (.int z :: rest)) : Runs w l Z EL n0 own nm code ml ret R Q D h kc ks pc ls (.int y :: .int x :: rest) := by
  obtain ⟨hd, rfl⟩ := hd
  subst hz
  exact K.plain fun p e m below c T t hx hb X S => XT.ior (g := mkF m pc ls (.int y :: .int x :: rest)) X hx rfl (Jvm.hb hb hd) rfl S
theorem Runs.ixor {x y z : Int32} (hd : Ins code pc (.ixor) 1 pc') (hz : x ^^^ y = z) (K : Runs w l Z EL n0 own nm code ml ret R Q D h kc ks pc' ls (.int z :: rest)) : Runs w l Z EL n0 own nm code ml ret R Q D h kc ks pc ls (.int y :: .int x :: rest) := by
  obtain ⟨hd, rfl⟩ := hd
  subst hz
  exact K.plain fun p e m below c T t hx hb X S => XT.ixor (g := mkF m pc ls (.int y :: .int x :: rest)) X hx rfl (Jvm.hb hb hd) rfl S
theorem Runs.ishl {x y z : Int32} (hd : Ins code pc (.ishl) 1 pc') (hz : x <<< (y &&& 31) = z) (K : Runs w l Z EL n0 own nm code ml ret R Q D h kc ks pc' ls (.int z :: rest)) : Runs w l Z EL n0 own nm code ml ret R Q D h kc ks pc ls (.int y :: .int x :: rest) := by
  obtain ⟨hd, rfl⟩ := hd
  subst hz
  exact K.plain fun p e m below c T t hx hb X S => XT.ishl (g := mkF m pc ls (.int y :: .int x :: rest)) X hx rfl (Jvm.hb hb hd) rfl S
theorem Runs.ishr {x y z : Int32} (hd : Ins code pc (.ishr) 1 pc') (hz : x >>> (y &&& 31) = z) (K : Runs w l Z EL n0 own nm code ml ret R Q D h kc ks pc' ls (.int z :: rest)) : Runs w l Z EL n0 own nm code ml ret R Q D h kc ks pc ls (.int y :: .int x :: rest) := by
  obtain ⟨hd, rfl⟩ := hd
  subst hz
  exact K.plain fun p e m below c T t hx hb X S => XT.ishr (g := mkF m pc ls (.int y :: .int x :: rest)) X hx rfl (Jvm.hb hb hd) rfl S
theorem Runs.iushr {x y z : Int32} (hd : Ins code pc (.iushr) 1 pc') (hz : XT.ushr x y = z) (K : Runs w l Z EL n0 own nm code ml ret R Q D h kc ks pc' ls (.int z :: rest)) : Runs w l Z EL n0 own nm code ml ret R Q D h kc ks pc ls (.int y :: .int x :: rest) := by
  obtain ⟨hd, rfl⟩ := hd
  subst hz
  exact K.plain fun p e m below c T t hx hb X S => XT.iushr (g := mkF m pc ls (.int y :: .int x :: rest)) X hx rfl (Jvm.hb hb hd) rfl S
theorem Runs.ladd {x y z : Int64} (hd : Ins code pc (.ladd) 1 pc') (hz : x + y = z) (K : Runs w l Z EL n0 own nm code ml ret R Q D h kc ks pc' ls (.long z :: rest)) : Runs w l Z EL n0 own nm code ml ret R Q D h kc ks pc ls (.long y :: .long x :: rest) := by
  obtain ⟨hd, rfl⟩ := hd
  subst hz
  exact K.plain fun p e m below c T t hx hb X S => XT.ladd (g := mkF m pc ls (.long y :: .long x :: rest)) X hx rfl (Jvm.hb hb hd) rfl S
theorem Runs.lsub {x y z : Int64} (hd : Ins code pc (.lsub) 1 pc') (hz : x - y = z) (K : Runs w l Z EL n0 own nm code ml ret R Q D h kc ks pc' ls (.long z :: rest)) : Runs w l Z EL n0 own nm code ml ret R Q D h kc ks pc ls (.long y :: .long x :: rest) := by
  obtain ⟨hd, rfl⟩ := hd
  subst hz
  exact K.plain fun p e m below c T t hx hb X S => XT.lsub (g := mkF m pc ls (.long y :: .long x :: rest)) X hx rfl (Jvm.hb hb hd) rfl S
theorem Runs.lmul {x y z : Int64} (hd : Ins code pc (.lmul) 1 pc') (hz : x * y = z) (K : Runs w l Z EL n0 own nm code ml ret R Q D h kc ks pc' ls (.long z :: rest)) : Runs w l Z EL n0 own nm code ml ret R Q D h kc ks pc ls (.long y :: .long x :: rest) := by
  obtain ⟨hd, rfl⟩ := hd
  subst hz
  exact K.plain fun p e m below c T t hx hb X S => XT.lmul (g := mkF m pc ls (.long y :: .long x :: rest)) X hx rfl (Jvm.hb hb hd) rfl S
theorem Runs.land {x y z : Int64} (hd : Ins code pc (.land) 1 pc') (hz : x &&& y = z) (K : Runs w l Z EL n0 own nm code ml ret R Q D h kc ks pc' ls (.long z :: rest)) : Runs w l Z EL n0 own nm code ml ret R Q D h kc ks pc ls (.long y :: .long x :: rest) := by
  obtain ⟨hd, rfl⟩ := hd
  subst hz
  exact K.plain fun p e m below c T t hx hb X S => XT.land (g := mkF m pc ls (.long y :: .long x :: rest)) X hx rfl (Jvm.hb hb hd) rfl S
theorem Runs.lor {x y z : Int64} (hd : Ins code pc (.lor) 1 pc') (hz : x ||| y = z) (K : Runs w l Z EL n0 own nm code ml ret R Q D h kc ks pc' ls (.long z :: rest)) : Runs w l Z EL n0 own nm code ml ret R Q D h kc ks pc ls (.long y :: .long x :: rest) := by
  obtain ⟨hd, rfl⟩ := hd
  subst hz
  exact K.plain fun p e m below c T t hx hb X S => XT.lor (g := mkF m pc ls (.long y :: .long x :: rest)) X hx rfl (Jvm.hb hb hd) rfl S
theorem Runs.lxor {x y z : Int64} (hd : Ins code pc (.lxor) 1 pc') (hz : x ^^^ y = z) (K : Runs w l Z EL n0 own nm code ml ret R Q D h kc ks pc' ls (.long z :: rest)) : Runs w l Z EL n0 own nm code ml ret R Q D h kc ks pc ls (.long y :: .long x :: rest) := by
  obtain ⟨hd, rfl⟩ := hd
  subst hz
  exact K.plain fun p e m below c T t hx hb X S => XT.lxor (g := mkF m pc ls (.long y :: .long x :: rest)) X hx rfl (Jvm.hb hb hd) rfl S
theorem Runs.irem {x y z : Int32} (hd : Ins code pc (.irem) 1 pc') (hy : y ≠ 0) (hz : x % y = z) (K : Runs w l Z EL n0 own nm code ml ret R Q D h kc ks pc' ls (.int z :: rest)) : Runs w l Z EL n0 own nm code ml ret R Q D h kc ks pc ls (.int y :: .int x :: rest) := by
  obtain ⟨hd, rfl⟩ := hd
  subst hz
  exact K.plain fun p e m below c T t hx hb X S => XS.irem (g := mkF m pc ls (.int y :: .int x :: rest)) X hx rfl (Jvm.hb hb hd) rfl hy (by rw [show x - x / y * y = x % y from irem_eq_mod x y]; exact S)
theorem Runs.idiv {x y z : Int32} (hd : Ins code pc (.idiv) 1 pc') (hy : y ≠ 0) (hz : x / y = z) (K : Runs w l Z EL n0 own nm code ml ret R Q D h kc ks pc' ls (.int z :: rest)) : Runs w l Z EL n0 own nm code ml ret R Q D h kc ks pc ls (.int y :: .int x :: rest) := by
  obtain ⟨hd, rfl⟩ := hd
  subst hz
  exact K.plain fun p e m below c T t hx hb X S => XS.idiv (g := mkF m pc ls (.int y :: .int x :: rest)) X hx rfl (Jvm.hb hb hd) rfl hy S
theorem Runs.lcmp {x y : Int64} {z : Int32} (hd : Ins code pc (.lcmp) 1 pc') (hz : XT.cmpL x y = z) (K : Runs w l Z EL n0 own nm code ml ret R Q D h kc ks pc' ls (.int z :: rest)) : Runs w l Z EL n0 own nm code ml ret R Q D h kc ks pc ls (.long y :: .long x :: rest) := by
  obtain ⟨hd, rfl⟩ := hd
  subst hz
  exact K.plain fun p e m below c T t hx hb X S => XT.lcmp (g := mkF m pc ls (.long y :: .long x :: rest)) X hx rfl (Jvm.hb hb hd) rfl S
theorem Runs.ineg {x : Int32} {z : Int32} (hd : Ins code pc (.ineg) 1 pc') (hz : -x = z) (K : Runs w l Z EL n0 own nm code ml ret R Q D h kc ks pc' ls (.int z :: rest)) : Runs w l Z EL n0 own nm code ml ret R Q D h kc ks pc ls (.int x :: rest) := by
  obtain ⟨hd, rfl⟩ := hd
  subst hz
  exact K.plain fun p e m below c T t hx hb X S => XS.ineg (g := mkF m pc ls (.int x :: rest)) X hx rfl (Jvm.hb hb hd) rfl S
theorem Runs.i2l {x : Int32} {z : Int64} (hd : Ins code pc (.i2l) 1 pc') (hz : x.toInt64 = z) (K : Runs w l Z EL n0 own nm code ml ret R Q D h kc ks pc' ls (.long z :: rest)) : Runs w l Z EL n0 own nm code ml ret R Q D h kc ks pc ls (.int x :: rest) := by
  obtain ⟨hd, rfl⟩ := hd
  subst hz
  exact K.plain fun p e m below c T t hx hb X S => XT.i2l (g := mkF m pc ls (.int x :: rest)) X hx rfl (Jvm.hb hb hd) rfl S
theorem Runs.l2i {x : Int64} {z : Int32} (hd : Ins code pc (.l2i) 1 pc') (hz : x.toInt32 = z) (K : Runs w l Z EL n0 own nm code ml ret R Q D h kc ks pc' ls (.int z :: rest)) : Runs w l Z EL n0 own nm code ml ret R Q D h kc ks pc ls (.long x :: rest) := by
  obtain ⟨hd, rfl⟩ := hd
  subst hz
  exact K.plain fun p e m below c T t hx hb X S => XT.l2i (g := mkF m pc ls (.long x :: rest)) X hx rfl (Jvm.hb hb hd) rfl S
theorem Runs.i2b {x : Int32} {z : Int32} (hd : Ins code pc (.i2b) 1 pc') (hz : x.toInt8.toInt32 = z) (K : Runs w l Z EL n0 own nm code ml ret R Q D h kc ks pc' ls (.int z :: rest)) : Runs w l Z EL n0 own nm code ml ret R Q D h kc ks pc ls (.int x :: rest) := by
  obtain ⟨hd, rfl⟩ := hd
  subst hz
  exact K.plain fun p e m below c T t hx hb X S => XT.i2b (g := mkF m pc ls (.int x :: rest)) X hx rfl (Jvm.hb hb hd) rfl S
theorem Runs.i2c {x : Int32} {z : Int32} (hd : Ins code pc (.i2c) 1 pc') (hz : x.toUInt32.toUInt16.toUInt32.toInt32 = z) (K : Runs w l Z EL n0 own nm code ml ret R Q D h kc ks pc' ls (.int z :: rest)) : Runs w l Z EL n0 own nm code ml ret R Q D h kc ks pc ls (.int x :: rest) := by
  obtain ⟨hd, rfl⟩ := hd
  subst hz
  exact K.plain fun p e m below c T t hx hb X S => XT.i2c (g := mkF m pc ls (.int x :: rest)) X hx rfl (Jvm.hb hb hd) rfl S
theorem Runs.i2s {x : Int32} {z : Int32} (hd : Ins code pc (.i2s) 1 pc') (hz : x.toInt16.toInt32 = z) (K : Runs w l Z EL n0 own nm code ml ret R Q D h kc ks pc' ls (.int z :: rest)) : Runs w l Z EL n0 own nm code ml ret R Q D h kc ks pc ls (.int x :: rest) := by
  obtain ⟨hd, rfl⟩ := hd
  subst hz
  exact K.plain fun p e m below c T t hx hb X S => XT.i2s (g := mkF m pc ls (.int x :: rest)) X hx rfl (Jvm.hb hb hd) rfl S
theorem Runs.lneg {x : Int64} {z : Int64} (hd : Ins code pc (.lneg) 1 pc') (hz : -x = z) (K : Runs w l Z EL n0 own nm code ml ret R Q D h kc ks pc' ls (.long z :: rest)) : Runs w l Z EL n0 own nm code ml ret R Q D h kc ks pc ls (.long x :: rest) := by
  obtain ⟨hd, rfl⟩ := hd
  subst hz
  exact K.plain fun p e m below c T t hx hb X S => XT.lneg (g := mkF m pc ls (.long x :: rest)) X hx rfl (Jvm.hb hb hd) rfl S
theorem Runs.iinc {k : Nat} {cst : Int} {x z : Int32} (hd : Ins code pc (.iinc k cst) 3 pc') (hl : ls[k]? = some (.val (.int x))) (hz : x + Int32.ofInt cst = z) (hl' : storeLocals ls k (.int z) = some ls') (K : Runs w l Z EL n0 own nm code ml ret R Q D h kc ks pc' ls' st) : Runs w l Z EL n0 own nm code ml ret R Q D h kc ks pc ls st := by
  obtain ⟨hd, rfl⟩ := hd
  subst hz
  exact K.plain fun p e m below c T t hx hb X S => XS.iinc (g := mkF m pc ls st) X hx rfl (Jvm.hb hb hd) hl hl' S
theorem Runs.dup {x : Value} (hd : Ins code pc (.dup) 1 pc') (hc : x.category = 1) (K : Runs w l Z EL n0 own nm code ml ret R Q D h kc ks pc' ls (x :: x :: rest)) : Runs w l Z EL n0 own nm code ml ret R Q D h kc ks pc ls (x :: rest) := by
  obtain ⟨hd, rfl⟩ := hd
  exact K.plain fun p e m below c T t hx hb X S => XS.dup (g := mkF m pc ls (x :: rest)) X hx rfl (Jvm.hb hb hd) rfl hc S
theorem Runs.pop {x : Value} (hd : Ins code pc (.pop) 1 pc') (hc : x.category = 1) (K : Runs w l Z EL n0 own nm code ml ret R Q D h kc ks pc' ls rest) : Runs w l Z EL n0 own nm code ml ret R Q D h kc ks pc ls (x :: rest) := by
  obtain ⟨hd, rfl⟩ := hd
  exact K.plain fun p e m below c T t hx hb X S => XT.pop (g := mkF m pc ls (x :: rest)) X hx rfl (Jvm.hb hb hd) rfl hc S
theorem Runs.dupX1 {x y : Value} (hd : Ins code pc (.dup_x1) 1 pc') (hc : x.category = 1) (hc' : y.category = 1) (K : Runs w l Z EL n0 own nm code ml ret R Q D h kc ks pc' ls (x :: y :: x :: rest)) : Runs w l Z EL n0 own nm code ml ret R Q D h kc ks pc ls (x :: y :: rest) := by
  obtain ⟨hd, rfl⟩ := hd
  exact K.plain fun p e m below c T t hx hb X S => XT.dupX1 (g := mkF m pc ls (x :: y :: rest)) X hx rfl (Jvm.hb hb hd) rfl hc hc' S
theorem Runs.dup2 {x y : Value} (hd : Ins code pc (.dup2) 1 pc') (hc : x.category = 1) (hc' : y.category = 1) (K : Runs w l Z EL n0 own nm code ml ret R Q D h kc ks pc' ls (x :: y :: x :: y :: rest)) : Runs w l Z EL n0 own nm code ml ret R Q D h kc ks pc ls (x :: y :: rest) := by
  obtain ⟨hd, rfl⟩ := hd
  exact K.plain fun p e m below c T t hx hb X S => XT.dup2 (g := mkF m pc ls (x :: y :: rest)) X hx rfl (Jvm.hb hb hd) rfl hc hc' S
theorem Runs.goto  {o : Int} {t nx : Nat} (hd : Ins code pc (.goto o) 3 nx) (hj : Jmp pc o t)  (K : Runs w l Z EL n0 own nm code ml ret R Q D h kc ks t ls st) : Runs w l Z EL n0 own nm code ml ret R Q D h kc ks pc ls st :=
  K.plain fun p e m below c T tg hx hb X S => XS.goto (g := mkF m pc ls st) X hx rfl (pc0 := pc) rfl (Jvm.hb hb hd.1) hj.1 hj.2 S
theorem Runs.ifY {cd : ClassFile.Cond} {x : Int32} {o : Int} {t nx : Nat} (hd : Ins code pc (.ifCond cd o) 3 nx) (hj : Jmp pc o t) (hc : if_icmp.holds cd x 0 = true) (K : Runs w l Z EL n0 own nm code ml ret R Q D h kc ks t ls rest) : Runs w l Z EL n0 own nm code ml ret R Q D h kc ks pc ls (.int x :: rest) :=
  K.plain fun p e m below c T tg hx hb X S => XS.ifYes (g := mkF m pc ls (.int x :: rest)) X hx rfl (pc0 := pc) rfl (Jvm.hb hb hd.1) rfl ((if0 cd x).trans hc) hj.1 hj.2 S
theorem Runs.icY {cd : ClassFile.Cond} {x y : Int32} {o : Int} {t nx : Nat} (hd : Ins code pc (.if_icmp cd o) 3 nx) (hj : Jmp pc o t) (hc : if_icmp.holds cd x y = true) (K : Runs w l Z EL n0 own nm code ml ret R Q D h kc ks t ls rest) : Runs w l Z EL n0 own nm code ml ret R Q D h kc ks pc ls (.int y :: .int x :: rest) :=
  K.plain fun p e m below c T tg hx hb X S => XS.icmpYes (g := mkF m pc ls (.int y :: .int x :: rest)) X hx rfl (pc0 := pc) rfl (Jvm.hb hb hd.1) rfl hc hj.1 hj.2 S
theorem Runs.nullY  {o : Int} {t nx : Nat} (hd : Ins code pc (.ifnull o) 3 nx) (hj : Jmp pc o t)  (K : Runs w l Z EL n0 own nm code ml ret R Q D h kc ks t ls rest) : Runs w l Z EL n0 own nm code ml ret R Q D h kc ks pc ls (.null :: rest) :=
  K.plain fun p e m below c T tg hx hb X S => XS.ifnullYes (g := mkF m pc ls (.null :: rest)) X hx rfl (pc0 := pc) rfl (Jvm.hb hb hd.1) rfl hj.1 hj.2 S
theorem Runs.nnullY {b : Addr} {o : Int} {t nx : Nat} (hd : Ins code pc (.ifnonnull o) 3 nx) (hj : Jmp pc o t)  (K : Runs w l Z EL n0 own nm code ml ret R Q D h kc ks t ls rest) : Runs w l Z EL n0 own nm code ml ret R Q D h kc ks pc ls (.ref b :: rest) :=
  K.plain fun p e m below c T tg hx hb X S => XT.ifnonnullYes (g := mkF m pc ls (.ref b :: rest)) X hx rfl (pc0 := pc) rfl (Jvm.hb hb hd.1) rfl hj.1 hj.2 S
theorem Runs.acY {cd : ClassFile.ACond} {x y : Value} {o : Int} {t nx : Nat} (hd : Ins code pc (.if_acmp cd o) 3 nx) (hj : Jmp pc o t) (hx' : x.isRef = true) (hy' : y.isRef = true) (hc : XT.acmp cd x y = true) (K : Runs w l Z EL n0 own nm code ml ret R Q D h kc ks t ls rest) : Runs w l Z EL n0 own nm code ml ret R Q D h kc ks pc ls (y :: x :: rest) :=
  K.plain fun p e m below c T tg hx hb X S => XT.acmpYes (g := mkF m pc ls (y :: x :: rest)) X hx rfl (pc0 := pc) rfl (Jvm.hb hb hd.1) rfl hx' hy' hc hj.1 hj.2 S
theorem Runs.ifN {cd : ClassFile.Cond} {o : Int} {x : Int32} (hd : Ins code pc (.ifCond cd o) 3 pc') (hc : if_icmp.holds cd x 0 = false) (K : Runs w l Z EL n0 own nm code ml ret R Q D h kc ks pc' ls rest) : Runs w l Z EL n0 own nm code ml ret R Q D h kc ks pc ls (.int x :: rest) := by
  obtain ⟨hd, rfl⟩ := hd
  exact K.plain fun p e m below c T t hx hb X S => XS.ifNo (g := mkF m pc ls (.int x :: rest)) X hx rfl (Jvm.hb hb hd) rfl ((if0 cd x).trans hc) S
theorem Runs.icN {cd : ClassFile.Cond} {o : Int} {x y : Int32} (hd : Ins code pc (.if_icmp cd o) 3 pc') (hc : if_icmp.holds cd x y = false) (K : Runs w l Z EL n0 own nm code ml ret R Q D h kc ks pc' ls rest) : Runs w l Z EL n0 own nm code ml ret R Q D h kc ks pc ls (.int y :: .int x :: rest) := by
  obtain ⟨hd, rfl⟩ := hd
  exact K.plain fun p e m below c T t hx hb X S => XS.icmpNo (g := mkF m pc ls (.int y :: .int x :: rest)) X hx rfl (Jvm.hb hb hd) rfl hc S
theorem Runs.nullN {o : Int} {b : Addr} (hd : Ins code pc (.ifnull o) 3 pc')  (K : Runs w l Z EL n0 own nm code ml ret R Q D h kc ks pc' ls rest) : Runs w l Z EL n0 own nm code ml ret R Q D h kc ks pc ls (.ref b :: rest) := by
  obtain ⟨hd, rfl⟩ := hd
  exact K.plain fun p e m below c T t hx hb X S => XS.ifnullNo (g := mkF m pc ls (.ref b :: rest)) X hx rfl (Jvm.hb hb hd) rfl S
theorem Runs.nnullN {o : Int} (hd : Ins code pc (.ifnonnull o) 3 pc')  (K : Runs w l Z EL n0 own nm code ml ret R Q D h kc ks pc' ls rest) : Runs w l Z EL n0 own nm code ml ret R Q D h kc ks pc ls (.null :: rest) := by
  obtain ⟨hd, rfl⟩ := hd
  exact K.plain fun p e m below c T t hx hb X S => XT.ifnonnullNo (g := mkF m pc ls (.null :: rest)) X hx rfl (Jvm.hb hb hd) rfl S
theorem Runs.acN {cd : ClassFile.ACond} {o : Int} {x y : Value} (hd : Ins code pc (.if_acmp cd o) 3 pc') (hx' : x.isRef = true) (hy' : y.isRef = true) (hc : XT.acmp cd x y = false) (K : Runs w l Z EL n0 own nm code ml ret R Q D h kc ks pc' ls rest) : Runs w l Z EL n0 own nm code ml ret R Q D h kc ks pc ls (y :: x :: rest) := by
  obtain ⟨hd, rfl⟩ := hd
  exact K.plain fun p e m below c T t hx hb X S => XT.acmpNo (g := mkF m pc ls (y :: x :: rest)) X hx rfl (Jvm.hb hb hd) rfl hx' hy' hc S

/-! the returns -/
theorem Runs.leave {v : Option Value} (hv : ret = none → v = none)
    (f : ∀ (p : Program) (e : Env) (s : State) (m : MethodId) (args : Array Value) (below : List Frame) (meth : Method) (c : Code) (T : State) (locs : List Loc), Ctx p s m meth c Z own nm code ml ret → Stand p l e R s m args below meth c T locs kc ks → ∀ fs : List Frame,
      (∀ (f : JFrame) (acts : List Action), f.method = m → f.locked = none → f.entered = [] → (doReturn e (T.setTop f) acts v).1 = T.setFrames fs) → Steps p.tables e below (T.setTop (mkF m pc ls st)) (T.setFrames fs))
    (hc : kc ≤ R.cells) (hk : ks ≤ R.slots) (hQ : Q v h D) : Runs w l Z EL n0 own nm code ml ret R Q D h kc ks pc ls st := by
  intro p e s vm0 m args below meth c T locs C X eT N O H
  have hlk : meth.locks = false := C.2.2.2.2.2.2.1
  have hr : meth.sig.returnType = ret := C.2.2.2.2.2.1
  obtain ⟨H1, ⟨a0, H2⟩, H3, H4⟩ := H
  have A := CHv.at X C.2.1 H2 H3.1
  have hs : ∀ x ∈ D, x < h.size ∧ Safe Z EL T.vm h x := fun x hx => ⟨(H4 x hx).1, A.safe (H4 x hx).1 (H4 x hx).2⟩
  have A' := H3.trans A
  subst eT
  cases w
  · have e1 : vm0 = s.vm := H1
    subst e1
    obtain ⟨fs, h1, h2, h3, h4, h5⟩ := X.leave (v := v) (fun q => hv (hr ▸ q)) hlk
    exact ⟨_, _, f p e _ m args below meth c T locs C X fs h1, h2, h3, v, locs, D, rfl, hQ, O, N, ⟨A', hs⟩, ⟨v, rfl⟩, h4, h5.mono hc hk⟩
  · obtain ⟨k0, hS, hk0⟩ := H1
    obtain ⟨fs, h1, h2, h3, ⟨g1, g2, g3, g4⟩⟩ := X.leaveW hS hk0 (v := v) (fun q => hv (hr ▸ q)) hlk
    exact ⟨_, _, f p e _ m args below meth c T locs C X fs h1, h2, h3, v, locs, D, rfl, hQ, O, N, ⟨A', hs⟩, g1, g2, g3, g4.mono hc hk⟩
theorem Runs.retV {nx : Nat} (hd : Ins code pc .return_ 1 nx) (hr : ret = none) (hc : kc ≤ R.cells) (hk : ks ≤ R.slots) (hQ : Q none h D) : Runs w l Z EL n0 own nm code ml ret R Q D h kc ks pc ls [] :=
  Runs.leave (v := none) (fun _ => rfl) (fun p e s m args below meth c T locs C X fs hl => X.returnOut C.1 (C.2.2.2.2.2.1.trans hr) (Jvm.hb C.2.2.1 hd.1) hl) hc hk hQ
theorem Runs.retI {nx : Nat} {t : FieldType} {x z : Int32} (hd : Ins code pc .ireturn 1 nx) (hr : ret = some t) (ht : t = .int ∨ t = .boolean ∨ t = .byte ∨ t = .char ∨ t = .short) (hn : narrow t (.int x) = .int z) (hc : kc ≤ R.cells) (hk : ks ≤ R.slots) (hQ : Q (some (.int z)) h D) : Runs w l Z EL n0 own nm code ml ret R Q D h kc ks pc ls [.int x] :=
  Runs.leave (v := some (.int z)) (fun q => by rw [hr] at q; cases q) (fun p e s m args below meth c T locs C X fs hl => by
    have hm' : T.vm.method? m = some meth := X.method'
    have hx := C.1
    have hd' := Jvm.hb C.2.2.1 hd.1
    have hret : meth.sig.returnType = some t := C.2.2.2.2.2.1.trans hr
    show Steps p.tables e below (T.setTop { method := m, pc := pc, locals := ls, stack := [_], locked := none }) _
    rcases ht with rfl | rfl | rfl | rfl | rfl
    all_goals
      jvm_step X.here [X.here.top, hx, hd', hm', hret, hn]
      first | (intro acts; rw [hl _ acts rfl rfl rfl]) | rw [hl _ _ rfl rfl rfl]
      exact Steps.refl _) hc hk hQ
theorem Runs.retA {nx : Nat} {t : FieldType} {x : Value} (hd : Ins code pc .areturn 1 nx) (hr : ret = some t) (ht : t.isReference = true) (hx : x.isRef = true) (hc : kc ≤ R.cells) (hk : ks ≤ R.slots) (hQ : Q (some x) h D) : Runs w l Z EL n0 own nm code ml ret R Q D h kc ks pc ls [x] :=
  Runs.leave (v := some x) (fun q => by rw [hr] at q; cases q) (fun p e s m args below meth c T locs C X fs hl =>
    RoadKit.retOut X C.1 (C.2.2.2.2.2.1.trans hr) (by cases x <;> first | rfl | (simp [Value.isRef] at hx; done) | (cases t <;> first | rfl | (simp [FieldType.isReference] at ht; done))) (Or.inr (Or.inr (Or.inr (Or.inr ⟨rfl, ht, hx⟩)))) (Jvm.hb C.2.2.1 hd.1) hl) hc hk hQ
theorem Runs.retJ {nx : Nat} {x : Int64} (hd : Ins code pc .lreturn 1 nx) (hr : ret = some .long) (hc : kc ≤ R.cells) (hk : ks ≤ R.slots) (hQ : Q (some (.long x)) h D) : Runs w l Z EL n0 own nm code ml ret R Q D h kc ks pc ls [.long x] :=
  Runs.leave (v := some (.long x)) (fun q => by rw [hr] at q; cases q) (fun p e s m args below meth c T locs C X fs hl =>
    RoadKit.retOut X C.1 (C.2.2.2.2.2.1.trans hr) rfl (Or.inr (Or.inl ⟨rfl, rfl, x, rfl⟩)) (Jvm.hb C.2.2.1 hd.1) hl) hc hk hQ
/-! statics, fields, constants -/
theorem Runs.getS {R0 O n d : String} {index : Nat} {v : Value} (hd : Ins code pc (.getstatic index) 3 pc') (wl : (Cond.fieldLink own index R0 n d).before a0 Z = true) (via : Via Z R0 O n d) (F : Sta Z Z.heap O n d v) (K : Runs w l Z EL n0 own nm code ml ret R Q D h kc ks pc' ls (v :: st)) : Runs w l Z EL n0 own nm code ml ret R Q D h kc ks pc ls st := by
  obtain ⟨hd, rfl⟩ := hd
  exact K.warm fun p e s m args below meth c T locs C X eT O => RoadKit.getS (host := "") X C.1 C.2.1 C.2.2.2.2.1 wl via eT (F.ext O.2) (g := mkF m pc ls st) rfl (Jvm.hb C.2.2.1 hd)
theorem Runs.getSN {R0 O n d host : String} {index : Nat} {v : Value} (hd : Ins code pc (.getstatic index) 3 pc') (wl : (Cond.fieldLinkNest own index R0 n d host).before a0 Z = true) (via : Via Z R0 O n d) (F : Sta Z Z.heap O n d v) (K : Runs w l Z EL n0 own nm code ml ret R Q D h kc ks pc' ls (v :: st)) : Runs w l Z EL n0 own nm code ml ret R Q D h kc ks pc ls st := by
  obtain ⟨hd, rfl⟩ := hd
  exact K.warm fun p e s m args below meth c T locs C X eT O => RoadKit.getS2 (host := host) X C.1 C.2.1 C.2.2.2.2.1 (Or.inr wl) via eT (F.ext O.2) (g := mkF m pc ls st) rfl (Jvm.hb C.2.2.1 hd)
theorem Runs.getF {R0 O n d host : String} {index : Nat} {a : Addr} {v : Value} (hd : Ins code pc (.getfield index) 3 pc') (wl : (Cond.fieldLink own index R0 n d).before a0 Z = true ∨ (Cond.fieldLinkNest own index R0 n d host).before a0 Z = true) (via : Via Z R0 O n d) (F : Fld Z h a O n d v) (K : Runs w l Z EL n0 own nm code ml ret R Q D h kc ks pc' ls (v :: rest)) : Runs w l Z EL n0 own nm code ml ret R Q D h kc ks pc ls (.ref a :: rest) := by
  obtain ⟨hd, rfl⟩ := hd
  exact K.warm fun p e s m args below meth c T locs C X eT O => RoadKit.getF X C.1 C.2.1 C.2.2.2.2.1 wl via eT F (g := mkF m pc ls (.ref a :: rest)) rfl rfl (Jvm.hb C.2.2.1 hd)
theorem Runs.ldcI {index : Nat} {v : Int32} (hd : Ins code pc (.ldc index) 2 pc') (wl : (Cond.constant own index v).before a0 Z = true) (K : Runs w l Z EL n0 own nm code ml ret R Q D h kc ks pc' ls (.int v :: st)) : Runs w l Z EL n0 own nm code ml ret R Q D h kc ks pc ls st := by
  obtain ⟨hd, rfl⟩ := hd
  exact K.warm fun p e s m args below meth c T locs C X eT O => ⟨T, X, eT, fun t S => X.ldcI C.1 C.2.2.2.2.1 (mv C.2.1 wl) (g := mkF m pc ls st) rfl (Jvm.hb C.2.2.1 hd) S⟩
theorem Runs.ldcJ {index : Nat} {v : Int64} (hd : Ins code pc (.ldc2_w index) 3 pc') (wl : (Cond.constantLong own index v).before a0 Z = true) (K : Runs w l Z EL n0 own nm code ml ret R Q D h kc ks pc' ls (.long v :: st)) : Runs w l Z EL n0 own nm code ml ret R Q D h kc ks pc ls st := by
  obtain ⟨hd, rfl⟩ := hd
  exact K.warm fun p e s m args below meth c T locs C X eT O => ⟨T, X, eT, fun t S => X.ldc2J C.1 C.2.2.2.2.1 (mv C.2.1 wl) (g := mkF m pc ls st) rfl (Jvm.hb C.2.2.1 hd) S⟩
end W

section W
variable {w : Bool} {l : Launch} {Z : State} {EL : List (String × Nat)} {n0 : Nat} {own nm : String} {code : ByteArray} {ml : Nat} {ret : Option FieldType} {R : Room} {Q : Option Value → Heap → List Addr → Prop} {D : List Addr} {h : Heap} {kc ks pc pc' : Nat} {ls ls' : Array Slot} {st st' rest : List Value} {a0 : Array Value}
theorem Runs.dloadN {k : Fin 4} {v : UInt64} (hd : Ins code pc (.dload_n k) 1 pc') (hl : ls[k.val]? = some (.val (.double v))) (K : Runs w l Z EL n0 own nm code ml ret R Q D h kc ks pc' ls (.double v :: st)) : Runs w l Z EL n0 own nm code ml ret R Q D h kc ks pc ls st := by
  obtain ⟨hd, rfl⟩ := hd
  exact K.plain fun p e m below c T t hx hb X S => XS.dloadN (g := mkF m pc ls st) X hx rfl (Jvm.hb hb hd) hl S
theorem Runs.dload {k : Nat} {v : UInt64} (hd : Ins code pc (.dload k) 2 pc') (hl : ls[k]? = some (.val (.double v))) (K : Runs w l Z EL n0 own nm code ml ret R Q D h kc ks pc' ls (.double v :: st)) : Runs w l Z EL n0 own nm code ml ret R Q D h kc ks pc ls st := by
  obtain ⟨hd, rfl⟩ := hd
  exact K.plain fun p e m below c T t hx hb X S => XS.dload (g := mkF m pc ls st) X hx rfl (Jvm.hb hb hd) hl S
theorem Runs.dstoreN {k : Fin 4} {x : UInt64} (hd : Ins code pc (.dstore_n k) 1 pc') (hl : storeLocals ls k.val (.double x) = some ls') (K : Runs w l Z EL n0 own nm code ml ret R Q D h kc ks pc' ls' rest) : Runs w l Z EL n0 own nm code ml ret R Q D h kc ks pc ls (.double x :: rest) := by
  obtain ⟨hd, rfl⟩ := hd
  exact K.plain fun p e m below c T t hx hb X S => XS.dstoreN (g := mkF m pc ls (.double x :: rest)) X hx rfl (Jvm.hb hb hd) rfl hl S
theorem Runs.dstore {k : Nat} {x : UInt64} (hd : Ins code pc (.dstore k) 2 pc') (hl : storeLocals ls k (.double x) = some ls') (K : Runs w l Z EL n0 own nm code ml ret R Q D h kc ks pc' ls' rest) : Runs w l Z EL n0 own nm code ml ret R Q D h kc ks pc ls (.double x :: rest) := by
  obtain ⟨hd, rfl⟩ := hd
  exact K.plain fun p e m below c T t hx hb X S => XS.dstore (g := mkF m pc ls (.double x :: rest)) X hx rfl (Jvm.hb hb hd) rfl hl S
theorem Runs.dconst0 {v : UInt64} (hd : Ins code pc (.dconst 0) 1 pc') (hz : FP.dconst0 = v) (K : Runs w l Z EL n0 own nm code ml ret R Q D h kc ks pc' ls (.double v :: st)) : Runs w l Z EL n0 own nm code ml ret R Q D h kc ks pc ls st := by
  obtain ⟨hd, rfl⟩ := hd
  exact K.plain fun p e m below c T t hx hb X S => XS.dconst0 (g := mkF m pc ls st) X hx rfl (Jvm.hb hb hd) hz S
theorem Runs.l2d {x : Int64} {z : UInt64} (hd : Ins code pc (.l2d) 1 pc') (hz : FP.l2d x = z) (K : Runs w l Z EL n0 own nm code ml ret R Q D h kc ks pc' ls (.double z :: rest)) : Runs w l Z EL n0 own nm code ml ret R Q D h kc ks pc ls (.long x :: rest) := by
  obtain ⟨hd, rfl⟩ := hd
  exact K.plain fun p e m below c T t hx hb X S => XS.l2dS (g := mkF m pc ls (.long x :: rest)) X hx rfl (Jvm.hb hb hd) rfl hz S
theorem Runs.dcmp {o : CmpOp} {x y : UInt64} {z : Int32} (hd : Ins code pc (.dcmp o) 1 pc') (hz : cmpValue (FP.dcmp x y) o = z) (K : Runs w l Z EL n0 own nm code ml ret R Q D h kc ks pc' ls (.int z :: rest)) : Runs w l Z EL n0 own nm code ml ret R Q D h kc ks pc ls (.double y :: .double x :: rest) := by
  obtain ⟨hd, rfl⟩ := hd
  exact K.plain fun p e m below c T t hx hb X S => XS.dcmpS (g := mkF m pc ls (.double y :: .double x :: rest)) X hx rfl (Jvm.hb hb hd) rfl hz S
theorem Runs.dsub {x y z : UInt64} (hd : Ins code pc (.dsub) 1 pc') (hn : Jvm.Free.Fl.NoNaN64 (FP.dsub x y)) (hz : FP.dsub x y = z) (K : Runs w l Z EL n0 own nm code ml ret R Q D h kc ks pc' ls (.double z :: rest)) : Runs w l Z EL n0 own nm code ml ret R Q D h kc ks pc ls (.double y :: .double x :: rest) := by
  obtain ⟨hd, rfl⟩ := hd
  exact K.plain fun p e m below c T t hx hb X S => XS.dsubS (g := mkF m pc ls (.double y :: .double x :: rest)) X hx rfl (Jvm.hb hb hd) rfl hn hz S
theorem Runs.ddiv {x y z : UInt64} (hd : Ins code pc (.ddiv) 1 pc') (hn : Jvm.Free.Fl.NoNaN64 (FP.ddiv x y)) (hz : FP.ddiv x y = z) (K : Runs w l Z EL n0 own nm code ml ret R Q D h kc ks pc' ls (.double z :: rest)) : Runs w l Z EL n0 own nm code ml ret R Q D h kc ks pc ls (.double y :: .double x :: rest) := by
  obtain ⟨hd, rfl⟩ := hd
  exact K.plain fun p e m below c T t hx hb X S => XS.ddivS (g := mkF m pc ls (.double y :: .double x :: rest)) X hx rfl (Jvm.hb hb hd) rfl hn hz S
theorem Runs.lshl {x z : Int64} {y : Int32} (hd : Ins code pc (.lshl) 1 pc') (hz : x <<< (y.toInt64 &&& 63) = z) (K : Runs w l Z EL n0 own nm code ml ret R Q D h kc ks pc' ls (.long z :: rest)) : Runs w l Z EL n0 own nm code ml ret R Q D h kc ks pc ls (.int y :: .long x :: rest) := by
  obtain ⟨hd, rfl⟩ := hd
  subst hz
  exact K.plain fun p e m below c T t hx hb X S => XT.lshl (g := mkF m pc ls (.int y :: .long x :: rest)) X hx rfl (Jvm.hb hb hd) rfl S
theorem Runs.lrem {x y z : Int64} (hd : Ins code pc (.lrem) 1 pc') (hy : y ≠ 0) (hz : x % y = z) (K : Runs w l Z EL n0 own nm code ml ret R Q D h kc ks pc' ls (.long z :: rest)) : Runs w l Z EL n0 own nm code ml ret R Q D h kc ks pc ls (.long y :: .long x :: rest) := by
  obtain ⟨hd, rfl⟩ := hd
  subst hz
  exact K.plain fun p e m below c T t hx hb X S => XT.lrem (g := mkF m pc ls (.long y :: .long x :: rest)) X hx rfl (Jvm.hb hb hd) rfl hy (by rw [show x - x / y * y = x % y from lrem_mod x y]; exact S)
theorem Runs.ldcD {index : Nat} {v : UInt64} (hd : Ins code pc (.ldc2_w index) 3 pc') (wl : (Cond.constantDouble own index v).before a0 Z = true) (K : Runs w l Z EL n0 own nm code ml ret R Q D h kc ks pc' ls (.double v :: st)) : Runs w l Z EL n0 own nm code ml ret R Q D h kc ks pc ls st := by
  obtain ⟨hd, rfl⟩ := hd
  exact K.warm fun p e s m args below meth c T locs C X eT O => ⟨T, X, eT, fun t S => X.ldc2DoubleC C.1 C.2.2.2.2.1 (mv C.2.1 wl) (g := mkF m pc ls st) rfl (Jvm.hb C.2.2.1 hd) t S⟩
theorem Runs.retD {nx : Nat} {x : UInt64} (hd : Ins code pc .dreturn 1 nx) (hr : ret = some .double) (hc : kc ≤ R.cells) (hk : ks ≤ R.slots) (hQ : Q (some (.double x)) h D) : Runs w l Z EL n0 own nm code ml ret R Q D h kc ks pc ls [.double x] :=
  Runs.leave (v := some (.double x)) (fun q => by rw [hr] at q; cases q) (fun p e s m args below meth c T locs C X fs hl =>
    RoadKit.retOut X C.1 (C.2.2.2.2.2.1.trans hr) rfl (Or.inr (Or.inr (Or.inl ⟨rfl, rfl, x, rfl⟩))) (Jvm.hb C.2.2.1 hd.1) hl) hc hk hQ
end W

/-! objects, arrays -/
abbrev FV := String × String × String × Value
def FV.key (f : FV) : String × String × String := (f.1, f.2.1, f.2.2.1)
/-- the object at a is exactly a C; its fields fs hold what they say -/
def Obj (Z : State) (h : Heap) (a : Addr) (C : String) (fs : List FV) : Prop := Exa Z h a C ∧ ∀ f ∈ fs, Fld Z h a f.1 f.2.1 f.2.2.1 f.2.2.2
/-- the fields of a C, at their first values -/
def LayD (Z : State) (a0 : Array Value) (C : String) (dl : List FV) : Prop := (∀ f ∈ dl, Laid Z a0 C f.1 f.2.1 f.2.2.1 ∧ ∃ t, parseFieldDescriptor f.2.2.1 = some t ∧ defaultValue t = f.2.2.2) ∧ (dl.map fun f => f.2.1).Nodup
section H
variable {Z : State} {h h' : Heap} {a b : Addr} {C : String} {fs dl : List FV} {ws : List Addr} {a0 : Array Value}
theorem Obj.fld {i : Nat} {o n d : String} {v : Value} (O : Obj Z h a C fs) (hi : fs[i]? = some (o, n, d, v)) : Fld Z h a o n d v := O.2 _ (List.mem_of_getElem? hi)
theorem Obj.keep (O : Obj Z h a C fs) (K : Keep h h' ws) (q : a ∉ ws) : Obj Z h' a C fs := ⟨O.1.keep K, fun f hf => (O.2 f hf).keep K q⟩
theorem Obj.ext (O : Obj Z h a C fs) (E : Ext h h') : Obj Z h' a C fs := ⟨O.1.ext E, fun f hf => (O.2 f hf).ext E⟩
theorem Obj.lt (O : Obj Z h a C fs) : a < h.size := O.1.lt
theorem Obj.sub {gs : List FV} (O : Obj Z h a C fs) (q : ∀ f ∈ gs, f ∈ fs) : Obj Z h a C gs := ⟨O.1, fun f hf => O.2 f (q f hf)⟩
theorem keepE (E : Ext h h') : Keep h h' ws := (Keep.refl h ws).ext E
theorem Keep.sub {ws' : List Addr} (K : Keep h h' ws) (q : ∀ x ∈ ws, x ∈ ws') : Keep h h' ws' := ⟨K.1, fun x c e r => K.2.1 x c e fun z => r (q x z), K.2.2⟩
theorem nodup_key : ∀ {dl : List FV} {i j : Nat} {f g : FV}, (dl.map fun f => f.2.1).Nodup → dl[i]? = some f → dl[j]? = some g → i ≠ j → f.2.1 ≠ g.2.1 := by
  intro dl i j f g hn hi hj hij he
  obtain ⟨h1, e1⟩ := List.getElem?_eq_some_iff.mp hi
  obtain ⟨h2, e2⟩ := List.getElem?_eq_some_iff.mp hj
  have hp := List.pairwise_iff_getElem.mp hn
  rcases Nat.lt_or_gt_of_ne hij with q | q
  · exact hp i j (by simpa using h1) (by simpa using h2) q (by simp only [List.getElem_map, e1, e2]; exact he)
  · exact hp j i (by simpa using h2) (by simpa using h1) q (by simp only [List.getElem_map, e1, e2]; exact he.symm)
theorem Obj.put {i : Nat} {o n d : String} {old v : Value} (O : Obj Z h a C fs) (hi : fs[i]? = some (o, n, d, old)) (L : LayD Z a0 C dl) (hk : fs.map FV.key = dl.map FV.key) (W : Wr h h' a (RoadKit.slotOf Z o n d) v) : Obj Z h' a C (fs.set i (o, n, d, v)) := by
  refine ⟨O.1.wr W, fun f hf => ?_⟩
  obtain ⟨j, hj⟩ := List.mem_iff_getElem?.mp hf
  by_cases e : i = j
  · subst e
    rw [List.getElem?_set_self (by exact (List.getElem?_eq_some_iff.mp hi).1)] at hj
    cases hj
    exact (O.fld hi).same W
  · rw [List.getElem?_set_ne e] at hj
    obtain ⟨o', n', d', v'⟩ := f
    have F := O.fld hj
    have key : ∀ {k : Nat} {g : FV}, fs[k]? = some g → ∃ g' : FV, dl[k]? = some g' ∧ g'.key = g.key := fun {k g} q => by
      have q' : (fs.map FV.key)[k]? = some g.key := by simp [q]
      rw [hk, List.getElem?_map] at q'
      cases hd : dl[k]? with
      | none => simp [hd] at q'
      | some g' => exact ⟨g', rfl, by simpa [hd] using q'⟩
    obtain ⟨f1, q1, k1⟩ := key hi
    obtain ⟨f2, q2, k2⟩ := key hj
    have hne := nodup_key L.2 q1 q2 e
    obtain ⟨L1, t1, p1, -⟩ := L.1 f1 (List.mem_of_getElem? q1)
    obtain ⟨L2, t2, p2, -⟩ := L.1 f2 (List.mem_of_getElem? q2)
    simp only [FV.key, Prod.mk.injEq] at k1 k2
    obtain ⟨a1, b1, c1⟩ := k1
    obtain ⟨a2, b2, c2⟩ := k2
    rw [a1, b1, c1] at L1; rw [a2, b2, c2] at L2; rw [c1] at p1; rw [c2] at p2
    exact F.other W (Or.inr (slot_ne L2 L1 (by rw [← b1, ← b2]; exact fun z => hne z.symm) p2 p1))
end H
section W2
variable {w : Bool} {l : Launch} {Z : State} {EL : List (String × Nat)} {n0 : Nat} {own nm : String} {code : ByteArray} {ml : Nat} {ret : Option FieldType} {R : Room} {Q : Option Value → Heap → List Addr → Prop} {D : List Addr} {h h' : Heap} {kc ks pc pc' : Nat} {ls ls' : Array Slot} {st st' rest : List Value} {a0 : Array Value} {s : State} {vm0 : Vm}
theorem Hid.keep {ws : List Addr} (H : Hid w Z EL D s vm0 h) (K : Keep h h' ws) (q : ∀ x ∈ ws, Safe Z EL vm0 h x) : Hid w Z EL D s vm0 h' := by
  obtain ⟨H1, H2, H3, H4⟩ := H
  refine ⟨?_, H2, H3.trans (CHr.keep K q H3.1), fun x hx => ⟨Nat.lt_of_lt_of_le (H4 x hx).1 K.1, (H4 x hx).2.keep K q H3.1⟩⟩
  split
  · rename_i e; rw [if_pos e] at H1; obtain ⟨k0, g1, g2⟩ := H1; exact ⟨k0, g1, Nat.le_trans g2 K.1⟩
  · rename_i e; rw [if_neg e] at H1; exact H1
theorem Hid.more {b : Addr} (H : Hid w Z EL D s vm0 h) (E : Ext h h') (hb : h.size ≤ b) (hb' : b < h'.size) : Hid w Z EL (b :: D) s vm0 h' := by
  have H' := H.keep (keepE (ws := []) E) (fun x q => nomatch q)
  refine ⟨H'.1, H'.2.1, H'.2.2.1, fun x hx => ?_⟩
  rcases List.mem_cons.mp hx with rfl | hx
  · exact ⟨hb', (Safe.new hb).ext E H.2.2.1.1⟩
  · exact H'.2.2.2 x hx
/-- a step that writes one old place, or none -/
theorem Runs.write {ws : List Addr} {P : Heap → Prop} (hg : ∀ x ∈ ws, n0 ≤ x) (hs : ∀ vm0 : Vm, Z.vm.Alike vm0 → (∀ x ∈ D, Safe Z EL vm0 h x) → ∀ x ∈ ws, Safe Z EL vm0 h x)
    (K : ∀ h', Keep h h' ws → P h' → Runs w l Z EL n0 own nm code ml ret R Q D h' kc ks pc' ls' st')
    (f : ∀ (p : Program) (e : Env) (s : State) (m : MethodId) (args : Array Value) (below : List Frame) (meth : Method) (c : Code) (T : State) (locs : List Loc), Ctx p s m meth c Z own nm code ml ret → Stand p l e R s m args below meth c T locs kc ks → T.heap = h → Old Z n0 h → Fr n0 locs →
      ∃ T' locs', Stand p l e R s m args below meth c T' locs' kc ks ∧ Fr n0 locs' ∧ Keep h T'.heap ws ∧ P T'.heap ∧ ∀ target, Steps p.tables e below (T'.setTop (mkF m pc' ls' st')) target → Steps p.tables e below (T.setTop (mkF m pc ls st)) target) : Runs w l Z EL n0 own nm code ml ret R Q D h kc ks pc ls st := by
  intro p e s vm0 m args below meth c T locs C X eT N O H
  obtain ⟨T', locs', X', N', K', P', S'⟩ := f p e _ m args below meth c T locs C X eT O N
  obtain ⟨s₂, o, S, r⟩ := K _ K' P' p e s vm0 m args below meth c T' locs' C X' rfl N' (O.keep K' hg) (H.keep K' (hs vm0 C.2.1.alike (fun x hx => (H.2.2.2 x hx).2)))
  exact ⟨s₂, o, S' _ S, r⟩
theorem safeC {a : Addr} {C : String} (E : Exa Z h a C) (hs : a ∈ D ∨ (C ≠ "java/lang/String" ∧ C ≠ "[B")) : ∀ vm0 : Vm, Z.vm.Alike vm0 → (∀ x ∈ D, Safe Z EL vm0 h x) → ∀ x ∈ [a], Safe Z EL vm0 h x := fun vm0 hal hD x hx => by
  cases List.mem_singleton.mp hx
  rcases hs with hs | hs
  · exact hD _ hs
  · exact Safe.exa hal E hs.1 hs.2
theorem safeA {a : Addr} {k : ClassId} {ty : FieldType} {z : Int32} {vs : List Value} {d : Value} (A : Arv Z h a k ty z vs d) (hs : a ∈ D ∨ ty ≠ .byte) : ∀ vm0 : Vm, Z.vm.Alike vm0 → (∀ x ∈ D, Safe Z EL vm0 h x) → ∀ x ∈ [a], Safe Z EL vm0 h x := fun vm0 hal hD x hx => by
  cases List.mem_singleton.mp hx
  rcases hs with hs | hs
  · exact hD _ hs
  · exact Safe.arv hal A hs
theorem one_ge {a : Addr} (hg : n0 ≤ a) : ∀ x ∈ [a], n0 ≤ x := fun x hx => by cases List.mem_singleton.mp hx; exact hg
theorem Runs.putF {R0 O n d host C : String} {index kk i : Nat} {ty : FieldType} {a : Addr} {v old : Value} {fs dl : List FV} (hd : Ins code pc (.putfield index) 3 pc') (wl : (Cond.fieldLink own index R0 n d).before a0 Z = true ∨ (Cond.fieldLinkNest own index R0 n d host).before a0 Z = true) (via : Via Z R0 O n d)
    (B : Obj Z h a C fs) (hi : fs[i]? = some (O, n, d, old)) (LD : LayD Z a0 C dl) (hk : fs.map FV.key = dl.map FV.key) (L : (Cond.lays C O n d).before a0 Z = true ∨ ((Cond.laysFinal C O n d).before a0 Z = true ∧ own = O ∧ nm = "<init>")) (wi : (Cond.instantiable C kk).before a0 Z = true)
    (hty : parseFieldDescriptor d = some ty) (hn : narrow ty v = v) (hf : fits ty v = true) (hg : n0 ≤ a) (hs : a ∈ D ∨ (C ≠ "java/lang/String" ∧ C ≠ "[B"))
    (K : ∀ h', Keep h h' [a] → Obj Z h' a C (fs.set i (O, n, d, v)) → Runs w l Z EL n0 own nm code ml ret R Q D h' kc ks pc' ls rest) : Runs w l Z EL n0 own nm code ml ret R Q D h kc ks pc ls (v :: .ref a :: rest) := by
  obtain ⟨hd, rfl⟩ := hd
  refine Runs.write (P := fun h' => Obj Z h' a C (fs.set i (O, n, d, v))) (one_ge hg) (safeC B.1 hs) K fun p e s m args below meth c T locs Cx X eT Ol N => ?_
  obtain ⟨T', h1, X', e1, W1, S1⟩ := RoadKit.putF X Cx.1 Cx.2.1 Cx.2.2.2.2.1 wl via eT (B.fld hi) B.1 (L.imp id fun q => ⟨q.1, q.2.1, Cx.2.2.2.2.2.2.2.trans q.2.2⟩) wi hty hn hf (g := mkF m pc ls (v :: .ref a :: rest)) rfl rfl (Jvm.hb Cx.2.2.1 hd)
  subst e1
  exact ⟨T', _, X', Fr.snoc X' N hg, Keep.of_wr W1, B.put hi LD hk W1, S1⟩
theorem Runs.newO {C : String} {index n : Nat} {dl : List FV} (hd : Ins code pc (.new index) 3 pc') (w1 : (Cond.classLink own index C).before a0 Z = true) (w2 : (Cond.instantiable C n).before a0 Z = true) (w3 : (Cond.initialized C).before a0 Z = true) (LD : LayD Z a0 C dl) (hc : kc + 1 ≤ R.cells) (hl : ks + n ≤ R.slots)
    (K : ∀ h' b, h.size ≤ b → n0 ≤ b → Keep h h' [] → Obj Z h' b C dl → Unt h' b → Runs w l Z EL n0 own nm code ml ret R Q (b :: D) h' (kc + 1) (ks + n) pc' ls (.ref b :: st)) : Runs w l Z EL n0 own nm code ml ret R Q D h kc ks pc ls st := by
  obtain ⟨hd, rfl⟩ := hd
  intro p e s vm0 m args below meth c T locs C' X eT N O H
  obtain ⟨T', h1, X', e1, E1, A1, D1, U1, S1⟩ := RoadKit.newO X C'.1 C'.2.1 C'.2.2.2.2.1 w1 w2 w3 eT (g := mkF m pc ls st) rfl (Jvm.hb C'.2.2.1 hd) hc hl
  subst e1
  have hO : n0 ≤ h.size := by rw [← O.1]; exact O.2.1
  obtain ⟨s₂, o, S, r⟩ := K _ h.size (Nat.le_refl _) hO (keepE E1) ⟨A1, fun f hf => by obtain ⟨L1, t, p1, d1⟩ := LD.1 f hf; rw [← d1]; exact D1 L1 p1⟩ U1 p e s vm0 m args below meth c T' locs C' X' rfl N (O.ext E1) (H.more E1 (Nat.le_refl _) A1.lt)
  exact ⟨s₂, o, S1 _ S, r⟩
theorem Runs.newP {aty : ArrayType} {n : Int32} {cap : Nat} {ad : String} (hd : Ins code pc (.newarray aty) 2 pc') (w1 : (Cond.arrayClass (newarray.typeOf aty)).before a0 Z = true) (hn : ¬ n < 0) (hcap : n.toNatClampNeg ≤ cap) (hb : cap * 8 ≤ 536870912) (hc : kc + 1 ≤ R.cells) (hl : ks + cap ≤ R.slots) (had : "[" ++ (newarray.typeOf aty).toString = ad)
    (K : ∀ h' b k, h.size ≤ b → n0 ≤ b → Keep h h' [] → Arv Z h' b k (newarray.typeOf aty) n [] (defaultValue (newarray.typeOf aty)) → Exa Z h' b ad → Runs w l Z EL n0 own nm code ml ret R Q (b :: D) h' (kc + 1) (ks + cap) pc' ls (.ref b :: rest)) : Runs w l Z EL n0 own nm code ml ret R Q D h kc ks pc ls (.int n :: rest) := by
  obtain ⟨hd, rfl⟩ := hd
  intro p e s vm0 m args below meth c T locs C' X eT N O H
  obtain ⟨T', h1, cA, X', e1, E1, A1, x1, S1⟩ := RoadKit.newPE X C'.1 C'.2.1 w1 eT (g := mkF m pc ls (.int n :: rest)) rfl (Jvm.hb C'.2.2.1 hd) rfl hn hcap hb hc hl had
  subst e1
  have hO : n0 ≤ h.size := by rw [← O.1]; exact O.2.1
  obtain ⟨s₂, o, S, r⟩ := K _ h.size cA (Nat.le_refl _) hO (keepE E1) (Arv.new A1 hn) x1 p e s vm0 m args below meth c T' locs C' X' rfl N (O.ext E1) (H.more E1 (Nat.le_refl _) x1.lt)
  exact ⟨s₂, o, S1 _ S, r⟩
theorem Runs.arrlen {a : Addr} {k : ClassId} {ty : FieldType} {z : Int32} {vs : List Value} {d : Value} (hd : Ins code pc .arraylength 1 pc') (A : Arv Z h a k ty z vs d) (K : Runs w l Z EL n0 own nm code ml ret R Q D h kc ks pc' ls (.int z :: rest)) : Runs w l Z EL n0 own nm code ml ret R Q D h kc ks pc ls (.ref a :: rest) := by
  obtain ⟨hd, rfl⟩ := hd
  obtain ⟨cl, A1, -, S1, q, -⟩ := A
  refine K.warm fun p e s m args below meth c T locs C X eT O => ⟨T, X, eT, fun t S => X.arraylength C.1 (by rw [eT]; exact A1.1) (State.isArrayOf_alike C.2.1.alike A1.2.1) (g := mkF m pc ls (.ref a :: rest)) rfl rfl (Jvm.hb C.2.2.1 hd) t ?_⟩
  rw [len_of S1 q]; exact S

theorem Runs.baload {a : Addr} {k : ClassId} {z j : Int32} {vs : List Value} {d v : Value} (hd : Ins code pc .baload 1 pc') (A : Arv Z h a k .byte z vs d) (hj : ¬ j < 0 ∧ j < z) (hv : vs.getD j.toNatClampNeg d = v) (K : Runs w l Z EL n0 own nm code ml ret R Q D h kc ks pc' ls (v :: rest)) : Runs w l Z EL n0 own nm code ml ret R Q D h kc ks pc ls (.int j :: .ref a :: rest) := by
  obtain ⟨hd, rfl⟩ := hd
  obtain ⟨cl, A1, -, S1, q, H1, -⟩ := A
  have hin := inb_of S1 hj
  exact K.warm fun p e s m args below meth c T locs C X eT O => ⟨T, X, eT, fun t S => X.baloadBytes C.1 (by rw [eT]; exact A1.1) (State.isArrayOf_alike C.2.1.alike A1.2.1) A1.2.2 hin (H1.at hin hv) (g := mkF m pc ls (.int j :: .ref a :: rest)) rfl rfl (Jvm.hb C.2.2.1 hd) t S⟩
theorem Runs.caload {a : Addr} {k : ClassId} {z j : Int32} {vs : List Value} {d v : Value} (hd : Ins code pc .caload 1 pc') (A : Arv Z h a k .char z vs d) (hj : ¬ j < 0 ∧ j < z) (hv : vs.getD j.toNatClampNeg d = v) (K : Runs w l Z EL n0 own nm code ml ret R Q D h kc ks pc' ls (v :: rest)) : Runs w l Z EL n0 own nm code ml ret R Q D h kc ks pc ls (.int j :: .ref a :: rest) := by
  obtain ⟨hd, rfl⟩ := hd
  obtain ⟨cl, A1, -, S1, q, H1, -⟩ := A
  have hin := inb_of S1 hj
  exact K.warm fun p e s m args below meth c T locs C X eT O => ⟨T, X, eT, fun t S => X.caload C.1 (by rw [eT]; exact A1.1) (State.isArrayOf_alike C.2.1.alike A1.2.1) A1.2.2 hin (H1.at hin hv) (g := mkF m pc ls (.int j :: .ref a :: rest)) rfl rfl (Jvm.hb C.2.2.1 hd) t S⟩
theorem Runs.iaload {a : Addr} {k : ClassId} {z j : Int32} {vs : List Value} {d v : Value} (hd : Ins code pc .iaload 1 pc') (A : Arv Z h a k .int z vs d) (hj : ¬ j < 0 ∧ j < z) (hv : vs.getD j.toNatClampNeg d = v) (K : Runs w l Z EL n0 own nm code ml ret R Q D h kc ks pc' ls (v :: rest)) : Runs w l Z EL n0 own nm code ml ret R Q D h kc ks pc ls (.int j :: .ref a :: rest) := by
  obtain ⟨hd, rfl⟩ := hd
  obtain ⟨cl, A1, -, S1, q, H1, -⟩ := A
  have hin := inb_of S1 hj
  exact K.warm fun p e s m args below meth c T locs C X eT O => ⟨T, X, eT, fun t S => X.iaload C.1 (by rw [eT]; exact A1.1) (State.isArrayOf_alike C.2.1.alike A1.2.1) A1.2.2 hin (H1.at hin hv) (g := mkF m pc ls (.int j :: .ref a :: rest)) rfl rfl (Jvm.hb C.2.2.1 hd) t S⟩
theorem Runs.aaload {a : Addr} {k : ClassId} {z j : Int32} {vs : List Value} {d v : Value} {ty : FieldType} (hd : Ins code pc .aaload 1 pc') (A : Arv Z h a k ty z vs d) (hty : ty.isReference = true) (hj : ¬ j < 0 ∧ j < z) (hv : vs.getD j.toNatClampNeg d = v) (K : Runs w l Z EL n0 own nm code ml ret R Q D h kc ks pc' ls (v :: rest)) : Runs w l Z EL n0 own nm code ml ret R Q D h kc ks pc ls (.int j :: .ref a :: rest) := by
  obtain ⟨hd, rfl⟩ := hd
  obtain ⟨cl, A1, -, S1, q, H1, -⟩ := A
  have hin := inb_of S1 hj
  exact K.warm fun p e s m args below meth c T locs C X eT O => ⟨T, X, eT, fun t S => X.aaload C.1 (by rw [eT]; exact A1.1) (State.isArrayOf_alike C.2.1.alike A1.2.1) hty A1.2.2 hin (H1.at hin hv) (g := mkF m pc ls (.int j :: .ref a :: rest)) rfl rfl (Jvm.hb C.2.2.1 hd) t S⟩
theorem Runs.bastore {a : Addr} {k : ClassId} {z j x y : Int32} {vs : List Value} {d : Value} {i : Nat} (hd : Ins code pc .bastore 1 pc') (A : Arv Z h a k .byte z vs d) (hj : ¬ j < 0 ∧ j < z) (hi : j.toNatClampNeg = i) (hil : i < vs.length) (hy : x.toInt8.toInt32 = y) (hg : n0 ≤ a) (hs : a ∈ D ∨ (.byte : FieldType) ≠ .byte) (K : ∀ h', Keep h h' [a] → Arv Z h' a k .byte z (vs.set i (.int y)) d → Runs w l Z EL n0 own nm code ml ret R Q D h' kc ks pc' ls rest) : Runs w l Z EL n0 own nm code ml ret R Q D h kc ks pc ls (.int x :: .int j :: .ref a :: rest) := by
  obtain ⟨hd, rfl⟩ := hd
  subst hy
  refine Runs.write (P := fun h' => Arv Z h' a k .byte z (vs.set i (.int (x.toInt8.toInt32))) d) (one_ge hg) (safeA A hs) K fun p e s m args below meth c T locs Cx X eT Ol N => ?_
  obtain ⟨cl, A1, q1, S1, q, H1, G1⟩ := A
  obtain ⟨T', h1, X', e1, W1, st1⟩ := RoadKit.stB X Cx.1 Cx.2.1 eT A1 (inb_of S1 hj) (g := mkF m pc ls (.int x :: .int j :: .ref a :: rest)) rfl rfl (Jvm.hb Cx.2.2.1 hd)
  subst e1
  exact ⟨T', _, X', Fr.snoc X' N hg, Keep.of_wr W1, Arv.set A1 q1 S1 q H1 G1 (fits_nar_byte x) W1 i hi hil, st1⟩
theorem Runs.castore {a : Addr} {k : ClassId} {z j x y : Int32} {vs : List Value} {d : Value} {i : Nat} (hd : Ins code pc .castore 1 pc') (A : Arv Z h a k .char z vs d) (hj : ¬ j < 0 ∧ j < z) (hi : j.toNatClampNeg = i) (hil : i < vs.length) (hy : nar .char x = y) (hg : n0 ≤ a) (hs : a ∈ D ∨ (.char : FieldType) ≠ .byte) (K : ∀ h', Keep h h' [a] → Arv Z h' a k .char z (vs.set i (.int y)) d → Runs w l Z EL n0 own nm code ml ret R Q D h' kc ks pc' ls rest) : Runs w l Z EL n0 own nm code ml ret R Q D h kc ks pc ls (.int x :: .int j :: .ref a :: rest) := by
  obtain ⟨hd, rfl⟩ := hd
  subst hy
  refine Runs.write (P := fun h' => Arv Z h' a k .char z (vs.set i (.int (nar .char x))) d) (one_ge hg) (safeA A hs) K fun p e s m args below meth c T locs Cx X eT Ol N => ?_
  obtain ⟨cl, A1, q1, S1, q, H1, G1⟩ := A
  obtain ⟨T', h1, X', e1, W1, st1⟩ := RoadKit.stC X Cx.1 Cx.2.1 eT A1 (inb_of S1 hj) (g := mkF m pc ls (.int x :: .int j :: .ref a :: rest)) rfl rfl (Jvm.hb Cx.2.2.1 hd)
  subst e1
  exact ⟨T', _, X', Fr.snoc X' N hg, Keep.of_wr W1, Arv.set A1 q1 S1 q H1 G1 (fits_nar_char x) W1 i hi hil, st1⟩
theorem Runs.iastore {a : Addr} {k : ClassId} {z j x y : Int32} {vs : List Value} {d : Value} {i : Nat} (hd : Ins code pc .iastore 1 pc') (A : Arv Z h a k .int z vs d) (hj : ¬ j < 0 ∧ j < z) (hi : j.toNatClampNeg = i) (hil : i < vs.length) (hy : x = y) (hg : n0 ≤ a) (hs : a ∈ D ∨ (.int : FieldType) ≠ .byte) (K : ∀ h', Keep h h' [a] → Arv Z h' a k .int z (vs.set i (.int y)) d → Runs w l Z EL n0 own nm code ml ret R Q D h' kc ks pc' ls rest) : Runs w l Z EL n0 own nm code ml ret R Q D h kc ks pc ls (.int x :: .int j :: .ref a :: rest) := by
  obtain ⟨hd, rfl⟩ := hd
  subst hy
  refine Runs.write (P := fun h' => Arv Z h' a k .int z (vs.set i (.int (x))) d) (one_ge hg) (safeA A hs) K fun p e s m args below meth c T locs Cx X eT Ol N => ?_
  obtain ⟨cl, A1, q1, S1, q, H1, G1⟩ := A
  obtain ⟨T', h1, X', e1, W1, st1⟩ := RoadKit.stI X Cx.1 Cx.2.1 eT A1 (inb_of S1 hj) (g := mkF m pc ls (.int x :: .int j :: .ref a :: rest)) rfl rfl (Jvm.hb Cx.2.2.1 hd)
  subst e1
  exact ⟨T', _, X', Fr.snoc X' N hg, Keep.of_wr W1, Arv.set A1 q1 S1 q H1 G1 (rfl) W1 i hi hil, st1⟩

theorem Runs.initO {idx W : Nat} {a : Addr} (hd : Ins code pc (.invokespecial idx) 3 pc') (w1 : (Cond.methodLink own idx Lib.objectInit).before a0 Z = true) (w2 : (Cond.instanceMethod Lib.objectInit).before a0 Z = true) (w3 : (Cond.code Lib.objectInit ⟨#[0xb1]⟩ 1 none).before a0 Z = true) (hls : ls.size = ml) (hf : 1 ≤ R.frames) (hW : (rest.map fun v => v.category).sum = W) (hl : W + 12 ≤ R.locals)
    (K : Runs w l Z EL n0 own nm code ml ret R Q D h kc ks pc' ls rest) : Runs w l Z EL n0 own nm code ml ret R Q D h kc ks pc ls (.ref a :: rest) := by
  obtain ⟨hd, rfl⟩ := hd
  exact K.warm fun p e s m args below meth c T locs C X eT O => RoadKit.initO X C.1 C.2.1 C.2.2.2.2.1 w1 w2 w3 eT (g := mkF m pc ls (.ref a :: rest)) rfl (by rw [C.2.2.2.1]; exact hls) rfl (Jvm.hb C.2.2.1 hd) hf (W := W) (by show 2 * 0 + _ ≤ _; omega) hl
end W2


/-! calls by a contract: no constant is interned (w = false) -/
section P
variable {l : Launch} {Z : State} {n0 : Nat} {own nm : String} {code : ByteArray} {ml : Nat} {ret : Option FieldType} {R : Room} {Q : Option Value → Heap → List Addr → Prop} {D : List Addr} {h : Heap} {kc ks pc pc' : Nat} {ls : Array Slot} {st rest : List Value} {a0 : Array Value}
theorem ch0 {vm : Vm} {h : Heap} : CHv Z [] vm h := fun p hp => by cases hp
theorem safe0 {vm : Vm} {h : Heap} {x : Addr} : Safe Z [] vm h x := fun ⟨p, hp, _⟩ => by cases hp
theorem chr0 {vm vm1 : Vm} {h h1 : Heap} (q : h.size ≤ h1.size) : CHr Z [] vm h vm1 h1 := ⟨ch0, q, fun _ ⟨p, hp, _⟩ => by cases hp⟩
theorem hid0 {s : State} {h : Heap} (q : s.heap.size ≤ h.size) (hD : ∀ x ∈ D, x < h.size) : Hid false Z [] D s s.vm h := ⟨rfl, ⟨#[], EW.nil⟩, chr0 q, fun x hx => ⟨hD x hx, safe0⟩⟩
/-- a callee's contract as what the call laws ask -/
theorem Con.back {p : Program} {e : Env} {s : State} {args : Array Value} {below : List Frame} {y : MethodName} {bytes : ByteArray} {maxL : Nat} {rt : Option FieldType} {rm : Room} {as' : Array Value} {Q' : Option Value → Heap → List Addr → Prop} {len W : Nat}
    (H : Con false l Z [] n0 y bytes maxL rt rm as' D h Q') (hO : Old Z n0 h) (hD : ∀ x ∈ D, x < h.size) (hZ : Z.Warmed39 s.vm) (wc : (Cond.code y bytes maxL rt).before a0 Z = true) (wz : (Cond.initialized y.cls).before a0 Z = true) (hf : rm.frames + 1 ≤ R.frames) (hl : W + (maxL + 11) + rm.locals ≤ R.locals) :
    Back l R p e below s args y len W (fun A a => a = as' ∧ A.U.heap = h ∧ A.cells + rm.cells ≤ R.cells ∧ A.slots + rm.slots ≤ R.slots)
      (fun A _ v B => ∃ L D', Q' v B.U.heap D' ∧ Old Z n0 B.U.heap ∧ Fr n0 L ∧ h.size ≤ B.U.heap.size ∧ (∀ x ∈ D', x < B.U.heap.size) ∧ B.locs = A.locs ++ L ∧ B.cells = A.cells + rm.cells ∧ B.slots = A.slots + rm.slots) :=
  Back.of_free (bytes := bytes) (maxL := maxL) (ret := rt) (E := fun _ first o t L k n => k = rm.cells ∧ n = rm.slots ∧ ∃ v D', o = .returned v ∧ Q' v t.heap D' ∧ Old Z n0 t.heap ∧ Fr n0 L ∧ first.heap.size ≤ t.heap.size ∧ ∀ x ∈ D', x < t.heap.size) (H []) hf hl
    (fun m meth c A a Y hp => have hU : Z.Warmed39 A.U.vm := wtrans hZ Y.warmed
      ⟨by show (Cond.and _ .tt).before a A.U = true; rw [Cond.before_and, mv hU wc]; rfl, mv hU wc, mv hU wz, hp.2.2.1, hp.2.2.2⟩)
    (fun m meth c A a g mk Y hp => ⟨hp.1, wtrans hZ Y.warmed, hp.2.1, hO, ⟨#[], EW.nil⟩, ch0, fun x hx => ⟨hD x hx, safe0⟩⟩) (fun _ _ _ _ _ _ _ _ _ => trivial)
    (fun _ _ _ _ ⟨v, L, D', h1, h2, h3, h4, h5, h6⟩ => ⟨L, _, _, h6, rfl, rfl, v, D', h1, h2, h3, h4, h5.1.2.1, fun x hx => (h5.2 x hx).1⟩)
    (fun m meth c A a g mk v t L k n Y hp _ _ ⟨e1, e2, v', D', e3, e4, e5, e6, e7, e8⟩ => by
      cases e3; subst e1 e2
      exact ⟨L, D', e4, e5, e6, by rw [← hp.2.1]; exact e7, e8, rfl, rfl, rfl⟩)
/-- the walk goes on behind a call -/
theorem goOn {p : Program} {e : Env} {s : State} {m : MethodId} {args : Array Value} {below : List Frame} {meth : Method} {c : Code} {T : State} {locs : List Loc} {Q' : Option Value → Heap → List Addr → Prop} {kc' ks' : Nat}
    (K : ∀ v h' D', Q' v h' D' → h.size ≤ h'.size → Runs false l Z [] n0 own nm code ml ret R Q (D' ++ D) h' kc' ks' pc' ls (v.toList ++ rest))
    (C : Ctx p s m meth c Z own nm code ml ret) (hs : s.heap.size ≤ h.size) (hD : ∀ x ∈ D, x < h.size) (N : Fr n0 locs) {v : Option Value} {B : Pt} (X : Stand p l e R s m args below meth c B.U B.locs B.cells B.slots)
    (P : ∃ L D', Q' v B.U.heap D' ∧ Old Z n0 B.U.heap ∧ Fr n0 L ∧ h.size ≤ B.U.heap.size ∧ (∀ x ∈ D', x < B.U.heap.size) ∧ B.locs = locs ++ L ∧ B.cells = kc' ∧ B.slots = ks')
    (S : ∀ target, Steps p.tables e below (B.U.setTop (mkF m pc' ls (v.toList ++ rest))) target → Steps p.tables e below (T.setTop (mkF m pc ls st)) target) :
    ∃ s₂ o, Steps p.tables e below (T.setTop (mkF m pc ls st)) s₂ ∧ s₂.status = .running ∧ Ended s₂ below o ∧ Done false Z [] n0 R Q s o s₂ := by
  obtain ⟨L, D', h1, h2, h3, h4, h5, h6, h7, h8⟩ := P
  obtain ⟨U, Ls, kk, nn⟩ := B
  dsimp only [Pt.U, Pt.locs, Pt.cells, Pt.slots] at *
  subst h6 h7 h8
  obtain ⟨s₂, o, S₂, r⟩ := K v U.heap D' h1 h4 p e s s.vm m args below meth c U _ C X rfl (N.app h3) h2 (hid0 (Nat.le_trans hs h4) (fun x hx => (List.mem_append.mp hx).elim (h5 x) (fun q => Nat.lt_of_lt_of_le (hD x q) h4)))
  exact ⟨s₂, o, S _ S₂, r⟩
theorem Runs.callS {y : MethodName} {index : Nat} {bytes : ByteArray} {maxL : Nat} {rt : Option FieldType} {rm : Room} {argsL : List Value} {Q' : Option Value → Heap → List Addr → Prop} {W : Nat} {ps : List FieldType} {rr : Option FieldType}
    (hd : Ins code pc (.invokestatic index) 3 pc') (w1 : (Cond.methodLink own index y).before a0 Z = true) (w2 : (Cond.static y).before a0 Z = true) (w3 : (Cond.initialized y.cls).before a0 Z = true) (w4 : (Cond.code y bytes maxL rt).before a0 Z = true) (hy : y.cls ≠ "java/lang/invoke/MethodHandle" ∧ y.cls ≠ "java/lang/invoke/VarHandle")
    (pd : parseMethodDescriptor y.desc = some ⟨ps, rr⟩) (hn : argsL.length = ps.length) (hls : ls.size = ml) (hst : st = argsL.reverse ++ rest) (hW : (rest.map fun v => v.category).sum = W) (hf : rm.frames + 1 ≤ R.frames) (hl : W + (maxL + 11) + rm.locals ≤ R.locals) (hc : kc + rm.cells ≤ R.cells) (hs : ks + rm.slots ≤ R.slots)
    {D0 : List Addr} (hD0 : ∀ x ∈ D0, x ∈ D) (H : Con false l Z [] n0 y bytes maxL rt rm argsL.toArray D0 h Q')
    (K : ∀ v h' D', Q' v h' D' → h.size ≤ h'.size → Runs false l Z [] n0 own nm code ml ret R Q (D' ++ D) h' (kc + rm.cells) (ks + rm.slots) pc' ls (v.toList ++ rest)) : Runs false l Z [] n0 own nm code ml ret R Q D h kc ks pc ls st := by
  obtain ⟨hd, rfl⟩ := hd
  intro p e s vm0 m args below meth c T locs C X eT N O Hd
  obtain ⟨e1, -, H3, H4⟩ := Hd
  have e1 : vm0 = s.vm := e1
  subst e1
  have hD : ∀ x ∈ D, x < h.size := fun x hx => (H4 x hx).1
  have C' : Ctx p s m meth c Z own nm code ml ret := C
  have X' : Stand p l e R s m args below meth c T locs kc ks := X
  obtain ⟨v, vm₁, B, -, XB, P, S⟩ := Jvm.LawKit.callS X' C'.1 (y := y) C'.2.2.2.2.1 (mvT C'.2.1 w1) (mvT C'.2.1 w2) (mvT C'.2.1 w3) (mvT C'.2.1 w4) hy (H.back (W := W) O (fun x hx => hD x (hD0 x hx)) C'.2.1 w4 w3 hf hl) (g := mkF m pc ls st) rfl (by rw [C'.2.2.2.1]; exact hls) (argsL := argsL) (rest := rest) (lenOf pd hn) hst (by show 2 * 0 + _ ≤ _; omega) (Jvm.hb C'.2.2.1 hd) (fun _ _ => ⟨rfl, eT, hc, hs⟩)
  exact goOn K C' H3.2.1 hD N XB P S
theorem Runs.callV {y z : MethodName} {index : Nat} {CC : String} {bytes : ByteArray} {maxL : Nat} {rt : Option FieldType} {rm : Room} {b : Addr} {argsL : List Value} {Q' : Option Value → Heap → List Addr → Prop} {W : Nat} {ps : List FieldType} {rr : Option FieldType}
    (hd : Ins code pc (.invokevirtual index) 3 pc') (w1 : (Cond.methodLink own index y).before a0 Z = true) (w2 : (Cond.declares y).before a0 Z = true) (nf : ∀ s : State, Z.Warmed39 s.vm → NotFace s y) (w3 : (Cond.selects CC y z).before a0 Z = true) (w4 : (Cond.instanceMethod z).before a0 Z = true) (w5 : (Cond.code z bytes maxL rt).before a0 Z = true) (w6 : (Cond.initialized z.cls).before a0 Z = true) (hy : y.cls ≠ "java/lang/invoke/MethodHandle" ∧ y.cls ≠ "java/lang/invoke/VarHandle")
    (E : Exa Z h b CC) (pd : parseMethodDescriptor y.desc = some ⟨ps, rr⟩) (hn : argsL.length = ps.length) (hls : ls.size = ml) (hst : st = argsL.reverse ++ .ref b :: rest) (hW : (rest.map fun v => v.category).sum = W) (hf : rm.frames + 1 ≤ R.frames) (hl : W + (maxL + 11) + rm.locals ≤ R.locals) (hc : kc + rm.cells ≤ R.cells) (hs : ks + rm.slots ≤ R.slots)
    {D0 : List Addr} (hD0 : ∀ x ∈ D0, x ∈ D) (H : Con false l Z [] n0 z bytes maxL rt rm (.ref b :: argsL).toArray D0 h Q')
    (K : ∀ v h' D', Q' v h' D' → h.size ≤ h'.size → Runs false l Z [] n0 own nm code ml ret R Q (D' ++ D) h' (kc + rm.cells) (ks + rm.slots) pc' ls (v.toList ++ rest)) : Runs false l Z [] n0 own nm code ml ret R Q D h kc ks pc ls st := by
  obtain ⟨hd, rfl⟩ := hd
  intro p e s vm0 m args below meth c T locs C X eT N O Hd
  obtain ⟨e1, -, H3, H4⟩ := Hd
  have e1 : vm0 = s.vm := e1
  subst e1
  have hD : ∀ x ∈ D, x < h.size := fun x hx => (H4 x hx).1
  have C' : Ctx p s m meth c Z own nm code ml ret := C
  have X' : Stand p l e R s m args below meth c T locs kc ks := X
  obtain ⟨cB, kB, q1, -, q3⟩ := isOf C'.2.1 eT E
  obtain ⟨v, vm₁, B, -, XB, P, S⟩ := X'.virtualBack C'.1 (y := y) (z := z) C'.2.2.2.2.1 (mvT C'.2.1 w1) (mvT C'.2.1 w2) (nf s C'.2.1) (mvT C'.2.1 w3) (mvT C'.2.1 w4) hy (H.back (W := W) O (fun x hx => hD x (hD0 x hx)) C'.2.1 w5 w6 hf hl) q1 q3 (g := mkF m pc ls st) rfl (by rw [C'.2.2.2.1]; exact hls) (Steps.refl _) (argsL := argsL) (rest := rest) (lenOf pd hn) hst (by show 2 * 0 + _ ≤ _; omega) (Jvm.hb C'.2.2.1 hd) (fun _ _ => ⟨rfl, eT, hc, hs⟩)
  exact goOn K C' H3.2.1 hD N XB P (fun t k => S.trans k)
theorem Runs.callC {y : MethodName} {index : Nat} {bytes : ByteArray} {maxL : Nat} {rm : Room} {b : Addr} {argsL : List Value} {Q' : Option Value → Heap → List Addr → Prop} {W : Nat} {ps : List FieldType} {rr : Option FieldType}
    (hd : Ins code pc (.invokespecial index) 3 pc') (hi : y.name = "<init>") (w1 : (Cond.methodLink own index y).before a0 Z = true) (w2 : (Cond.instanceMethod y).before a0 Z = true) (w3 : (Cond.code y bytes maxL none).before a0 Z = true) (w4 : (Cond.initialized y.cls).before a0 Z = true) (hy : y.cls ≠ "java/lang/invoke/MethodHandle" ∧ y.cls ≠ "java/lang/invoke/VarHandle")
    (pd : parseMethodDescriptor y.desc = some ⟨ps, rr⟩) (hn : argsL.length = ps.length) (hls : ls.size = ml) (hst : st = argsL.reverse ++ .ref b :: rest) (hW : (rest.map fun v => v.category).sum = W) (hf : rm.frames + 1 ≤ R.frames) (hl : W + (maxL + 11) + rm.locals ≤ R.locals) (hc : kc + rm.cells ≤ R.cells) (hs : ks + rm.slots ≤ R.slots)
    {D0 : List Addr} (hD0 : ∀ x ∈ D0, x ∈ D) (H : Con false l Z [] n0 y bytes maxL none rm (.ref b :: argsL).toArray D0 h Q')
    (K : ∀ v h' D', Q' v h' D' → h.size ≤ h'.size → Runs false l Z [] n0 own nm code ml ret R Q (D' ++ D) h' (kc + rm.cells) (ks + rm.slots) pc' ls (v.toList ++ rest)) : Runs false l Z [] n0 own nm code ml ret R Q D h kc ks pc ls st := by
  obtain ⟨hd, rfl⟩ := hd
  intro p e s vm0 m args below meth c T locs C X eT N O Hd
  obtain ⟨e1, -, H3, H4⟩ := Hd
  have e1 : vm0 = s.vm := e1
  subst e1
  have hD : ∀ x ∈ D, x < h.size := fun x hx => (H4 x hx).1
  have C' : Ctx p s m meth c Z own nm code ml ret := C
  have X' : Stand p l e R s m args below meth c T locs kc ks := X
  obtain ⟨v, vm₁, B, -, XB, P, S⟩ := X'.specialBack C'.1 (y := y) hi C'.2.2.2.2.1 (mvT C'.2.1 w1) (mvT C'.2.1 w2) (mvT C'.2.1 w3) hy (H.back (W := W) O (fun x hx => hD x (hD0 x hx)) C'.2.1 w3 w4 hf hl) (g := mkF m pc ls st) rfl (by rw [C'.2.2.2.1]; exact hls) (Steps.refl _) (a := b) (argsL := argsL) (rest := rest) (lenOf pd hn) hst (by show 2 * 0 + _ ≤ _; omega) (Jvm.hb C'.2.2.1 hd) (fun _ _ => ⟨rfl, eT, hc, hs⟩)
  exact goOn K C' H3.2.1 hD N XB P (fun t k => S.trans k)
end P


/-! the wide walk (w = true): constants of strings may come to be interned -/
section Wd
variable {l : Launch} {Z : State} {EL : List (String × Nat)} {n0 : Nat} {own nm : String} {code : ByteArray} {ml : Nat} {ret : Option FieldType} {R : Room} {Q : Option Value → Heap → List Addr → Prop} {D : List Addr} {h : Heap} {kc ks pc pc' : Nat} {ls : Array Slot} {st rest : List Value} {a0 : Array Value}
theorem Ctx.later {p : Program} {s : State} {vm0 vm1 : Vm} {n : Nat} {m : MethodId} {meth : Method} {c : Code} (C : Ctx p (s.setVm vm0) m meth c Z own nm code ml ret) (h1 : (s.setVm vm0).Since vm1 n) : Ctx p (s.setVm vm1) m meth c Z own nm code ml ret :=
  ⟨C.1, State.Warmed39.trans (t := s.setVm vm0) C.2.1 h1.1, C.2.2.1, C.2.2.2.1, by rw [show (s.setVm vm1).vm = vm1 from rfl, h1.1.alike.findClass]; exact C.2.2.2.2.1, C.2.2.2.2.2⟩
theorem Con.backW {p : Program} {e : Env} {s : State} {vm0 : Vm} {args : Array Value} {below : List Frame} {y : MethodName} {bytes : ByteArray} {maxL : Nat} {rt : Option FieldType} {rm : Room} {as' : Array Value} {D0 : List Addr} {Q' : Option Value → Heap → List Addr → Prop} {len W : Nat}
    (H : Con true l Z EL n0 y bytes maxL rt rm as' D0 h Q') (hO : Old Z n0 h) (hE : ∃ a0, EW Z a0 EL) (hC : CHv Z EL vm0 h) (hD : ∀ x ∈ D0, x < h.size ∧ Safe Z EL vm0 h x) (hZ : Z.Warmed39 vm0) (wc : (Cond.code y bytes maxL rt).before a0 Z = true) (wz : (Cond.initialized y.cls).before a0 Z = true) (hf : rm.frames + 1 ≤ R.frames) (hl : W + (maxL + 11) + rm.locals ≤ R.locals) :
    BackS l R p e below (s.setVm vm0) args y len W (fun A a => a = as' ∧ A.U.heap = h ∧ A.cells + rm.cells ≤ R.cells ∧ A.slots + rm.slots ≤ R.slots)
      (fun A _ v B => ∃ L D', Q' v B.U.heap D' ∧ Old Z n0 B.U.heap ∧ Fr n0 L ∧ CHr Z EL vm0 h B.U.vm B.U.heap ∧ (∀ x ∈ D', x < B.U.heap.size ∧ Safe Z EL B.U.vm B.U.heap x) ∧ B.locs = A.locs ++ L ∧ B.cells = A.cells + rm.cells ∧ B.slots = A.slots + rm.slots) := by
  obtain ⟨a1, hE1⟩ := id hE
  exact BackS.of_freeW (bytes := bytes) (maxL := maxL) (ret := rt) (E := fun _ first o t L k n => k = rm.cells ∧ n = rm.slots ∧ ∃ v D', o = .returned v ∧ Q' v t.heap D' ∧ Old Z n0 t.heap ∧ Fr n0 L ∧ CHr Z EL first.vm first.heap t.vm t.heap ∧ ∀ x ∈ D', x < t.heap.size ∧ Safe Z EL t.vm t.heap x) (H []) hf hl
    (fun m meth c A a Y hp => have hU : Z.Warmed39 A.U.vm := wtrans (s := s.setVm vm0) hZ Y.warmed
      ⟨by show (Cond.and _ .tt).before a A.U = true; rw [Cond.before_and, mv hU wc]; rfl, mv hU wc, mv hU wz, hp.2.2.1, hp.2.2.2⟩)
    (fun m meth c A a g mk Y hp => ⟨hp.1, wtrans (s := s.setVm vm0) hZ Y.warmed, hp.2.1, hO, hE, (CHv.at Y hZ hE1 hC).1, fun x hx => ⟨(hD x hx).1, (CHv.at Y hZ hE1 hC).safe (hD x hx).1 (hD x hx).2⟩⟩) (fun _ _ _ _ _ _ _ _ _ => trivial)
    (fun _ _ _ _ ⟨v, L, D', h1, h2, h3, h4, h5, h6⟩ => ⟨L, _, _, h6, rfl, rfl, v, D', h1, h2, h3, h4, h5.1, h5.2⟩)
    (fun m meth c A a g mk v t L k n Y hp _ _ ⟨e1, e2, v', D', e3, e4, e5, e6, e7, e8⟩ => by
      cases e3; subst e1 e2
      refine ⟨L, D', e4, e5, e6, (CHv.at Y hZ hE1 hC).trans ?_, e8, rfl, rfl, rfl⟩
      rw [← hp.2.1]; exact e7)
theorem goOnW {p : Program} {e : Env} {s : State} {vm0 : Vm} {m : MethodId} {args : Array Value} {below : List Frame} {meth : Method} {c : Code} {T : State} {locs : List Loc} {Q' : Option Value → Heap → List Addr → Prop} {kc' ks' : Nat}
    (K : ∀ v h' D', Q' v h' D' → h.size ≤ h'.size → Runs true l Z EL n0 own nm code ml ret R Q (D' ++ D) h' kc' ks' pc' ls (v.toList ++ rest))
    (C : Ctx p (s.setVm vm0) m meth c Z own nm code ml ret) (H : Hid true Z EL D s vm0 h) (N : Fr n0 locs) {v : Option Value} {B : Pt} (X : Stand p l e R ((s.setVm vm0).setVm B.U.vm) m args below meth c B.U B.locs B.cells B.slots)
    (hS : (s.setVm vm0).Since B.U.vm B.U.heap.size)
    (P : ∃ L D', Q' v B.U.heap D' ∧ Old Z n0 B.U.heap ∧ Fr n0 L ∧ CHr Z EL vm0 h B.U.vm B.U.heap ∧ (∀ x ∈ D', x < B.U.heap.size ∧ Safe Z EL B.U.vm B.U.heap x) ∧ B.locs = locs ++ L ∧ B.cells = kc' ∧ B.slots = ks')
    (S : Steps p.tables e below (T.setTop (mkF m pc ls st)) (B.U.setTop (mkF m pc' ls (v.toList ++ rest)))) :
    ∃ s₂ o, Steps p.tables e below (T.setTop (mkF m pc ls st)) s₂ ∧ s₂.status = .running ∧ Ended s₂ below o ∧ Done true Z EL n0 R Q s o s₂ := by
  obtain ⟨L, D', h1, h2, h3, h4, h5, h6, h7, h8⟩ := P
  obtain ⟨U, Ls, kk, nn⟩ := B
  dsimp only [Pt.U, Pt.locs, Pt.cells, Pt.slots] at *
  subst h6 h7 h8
  obtain ⟨H1, H2, H3, H4⟩ := H
  obtain ⟨k0, g1, g2⟩ : ∃ k0, s.Since vm0 k0 ∧ k0 ≤ h.size := H1
  have hsz : h.size ≤ U.heap.size := h4.2.1
  have C1 : Ctx p (s.setVm U.vm) m meth c Z own nm code ml ret := C.later hS
  have X1 : Stand p l e R (s.setVm U.vm) m args below meth c U (locs ++ L) kk nn := X
  have HN : Hid true Z EL (D' ++ D) s U.vm U.heap := ⟨⟨U.heap.size, g1.trans hS (Nat.le_trans g2 hsz), Nat.le_refl _⟩, H2, H3.trans h4, fun x hx => by
    rcases List.mem_append.mp hx with q | q
    · exact h5 x q
    · exact ⟨Nat.lt_of_lt_of_le (H4 x q).1 hsz, h4.safe (H4 x q).1 (H4 x q).2⟩⟩
  obtain ⟨s₂, o, S₂, r⟩ := K v U.heap D' h1 hsz p e s U.vm m args below meth c U _ C1 X1 rfl (N.app h3) h2 HN
  exact ⟨s₂, o, S.trans S₂, r⟩
theorem Runs.callSW {y : MethodName} {index : Nat} {bytes : ByteArray} {maxL : Nat} {rt : Option FieldType} {rm : Room} {argsL : List Value} {Q' : Option Value → Heap → List Addr → Prop} {W : Nat} {ps : List FieldType} {rr : Option FieldType}
    (hd : Ins code pc (.invokestatic index) 3 pc') (w1 : (Cond.methodLink own index y).before a0 Z = true) (w2 : (Cond.static y).before a0 Z = true) (w3 : (Cond.initialized y.cls).before a0 Z = true) (w4 : (Cond.code y bytes maxL rt).before a0 Z = true) (hy : y.cls ≠ "java/lang/invoke/MethodHandle" ∧ y.cls ≠ "java/lang/invoke/VarHandle")
    (pd : parseMethodDescriptor y.desc = some ⟨ps, rr⟩) (hn : argsL.length = ps.length) (hls : ls.size = ml) (hst : st = argsL.reverse ++ rest) (hW : (rest.map fun v => v.category).sum = W) (hf : rm.frames + 1 ≤ R.frames) (hl : W + (maxL + 11) + rm.locals ≤ R.locals) (hc : kc + rm.cells ≤ R.cells) (hs : ks + rm.slots ≤ R.slots)
    {D0 : List Addr} (hD0 : ∀ x ∈ D0, x ∈ D) (H : Con true l Z EL n0 y bytes maxL rt rm argsL.toArray D0 h Q')
    (K : ∀ v h' D', Q' v h' D' → h.size ≤ h'.size → Runs true l Z EL n0 own nm code ml ret R Q (D' ++ D) h' (kc + rm.cells) (ks + rm.slots) pc' ls (v.toList ++ rest)) : Runs true l Z EL n0 own nm code ml ret R Q D h kc ks pc ls st := by
  obtain ⟨hd, rfl⟩ := hd
  intro p e s vm0 m args below meth c T locs C X eT N O Hd
  obtain ⟨v, vm₁, B, -, XB, hS, -, P, S⟩ := callSS X C.1 (y := y) C.2.2.2.2.1 (mvT C.2.1 w1) (mvT C.2.1 w2) (mvT C.2.1 w3) (mvT C.2.1 w4) hy (H.backW (W := W) O Hd.2.1 Hd.2.2.1.1 (fun x hx => Hd.2.2.2 x (hD0 x hx)) C.2.1 w4 w3 hf hl) (g := mkF m pc ls st) rfl (by rw [C.2.2.2.1]; exact hls) (argsL := argsL) (rest := rest) (lenOf pd hn) hst (by show 2 * 0 + _ ≤ _; omega) (Jvm.hb C.2.2.1 hd) (fun _ _ => ⟨rfl, eT, hc, hs⟩)
  exact goOnW K C Hd N XB hS P S
theorem Runs.callVW {y z : MethodName} {index : Nat} {CC : String} {bytes : ByteArray} {maxL : Nat} {rt : Option FieldType} {rm : Room} {b : Addr} {argsL : List Value} {Q' : Option Value → Heap → List Addr → Prop} {W : Nat} {ps : List FieldType} {rr : Option FieldType}
    (hd : Ins code pc (.invokevirtual index) 3 pc') (w1 : (Cond.methodLink own index y).before a0 Z = true) (w2 : (Cond.declares y).before a0 Z = true) (nf : ∀ s : State, Z.Warmed39 s.vm → NotFace s y) (w3 : (Cond.selects CC y z).before a0 Z = true) (w4 : (Cond.instanceMethod z).before a0 Z = true) (w5 : (Cond.code z bytes maxL rt).before a0 Z = true) (w6 : (Cond.initialized z.cls).before a0 Z = true) (hy : y.cls ≠ "java/lang/invoke/MethodHandle" ∧ y.cls ≠ "java/lang/invoke/VarHandle")
    (E : Exa Z h b CC) (pd : parseMethodDescriptor y.desc = some ⟨ps, rr⟩) (hn : argsL.length = ps.length) (hls : ls.size = ml) (hst : st = argsL.reverse ++ .ref b :: rest) (hW : (rest.map fun v => v.category).sum = W) (hf : rm.frames + 1 ≤ R.frames) (hl : W + (maxL + 11) + rm.locals ≤ R.locals) (hc : kc + rm.cells ≤ R.cells) (hs : ks + rm.slots ≤ R.slots)
    {D0 : List Addr} (hD0 : ∀ x ∈ D0, x ∈ D) (H : Con true l Z EL n0 z bytes maxL rt rm (.ref b :: argsL).toArray D0 h Q')
    (K : ∀ v h' D', Q' v h' D' → h.size ≤ h'.size → Runs true l Z EL n0 own nm code ml ret R Q (D' ++ D) h' (kc + rm.cells) (ks + rm.slots) pc' ls (v.toList ++ rest)) : Runs true l Z EL n0 own nm code ml ret R Q D h kc ks pc ls st := by
  obtain ⟨hd, rfl⟩ := hd
  intro p e s vm0 m args below meth c T locs C X eT N O Hd
  obtain ⟨cB, kB, q1, -, q3⟩ := isOf C.2.1 eT E
  obtain ⟨v, vm₁, B, -, XB, hS, -, P, S⟩ := X.virtualBackS C.1 (y := y) (z := z) C.2.2.2.2.1 (mvT C.2.1 w1) (mvT C.2.1 w2) (nf _ C.2.1) (mvT C.2.1 w3) (mvT C.2.1 w4) hy (H.backW (W := W) O Hd.2.1 Hd.2.2.1.1 (fun x hx => Hd.2.2.2 x (hD0 x hx)) C.2.1 w5 w6 hf hl) q1 q3 (g := mkF m pc ls st) rfl (by rw [C.2.2.2.1]; exact hls) (Steps.refl _) (argsL := argsL) (rest := rest) (lenOf pd hn) hst (by show 2 * 0 + _ ≤ _; omega) (Jvm.hb C.2.2.1 hd) (fun _ _ => ⟨rfl, eT, hc, hs⟩)
  exact goOnW K C Hd N XB hS P S
theorem Runs.callCW {y : MethodName} {index : Nat} {bytes : ByteArray} {maxL : Nat} {rm : Room} {b : Addr} {argsL : List Value} {Q' : Option Value → Heap → List Addr → Prop} {W : Nat} {ps : List FieldType} {rr : Option FieldType}
    (hd : Ins code pc (.invokespecial index) 3 pc') (hi : y.name = "<init>") (w1 : (Cond.methodLink own index y).before a0 Z = true) (w2 : (Cond.instanceMethod y).before a0 Z = true) (w3 : (Cond.code y bytes maxL none).before a0 Z = true) (w4 : (Cond.initialized y.cls).before a0 Z = true) (hy : y.cls ≠ "java/lang/invoke/MethodHandle" ∧ y.cls ≠ "java/lang/invoke/VarHandle")
    (pd : parseMethodDescriptor y.desc = some ⟨ps, rr⟩) (hn : argsL.length = ps.length) (hls : ls.size = ml) (hst : st = argsL.reverse ++ .ref b :: rest) (hW : (rest.map fun v => v.category).sum = W) (hf : rm.frames + 1 ≤ R.frames) (hl : W + (maxL + 11) + rm.locals ≤ R.locals) (hc : kc + rm.cells ≤ R.cells) (hs : ks + rm.slots ≤ R.slots)
    {D0 : List Addr} (hD0 : ∀ x ∈ D0, x ∈ D) (H : Con true l Z EL n0 y bytes maxL none rm (.ref b :: argsL).toArray D0 h Q')
    (K : ∀ v h' D', Q' v h' D' → h.size ≤ h'.size → Runs true l Z EL n0 own nm code ml ret R Q (D' ++ D) h' (kc + rm.cells) (ks + rm.slots) pc' ls (v.toList ++ rest)) : Runs true l Z EL n0 own nm code ml ret R Q D h kc ks pc ls st := by
  obtain ⟨hd, rfl⟩ := hd
  intro p e s vm0 m args below meth c T locs C X eT N O Hd
  obtain ⟨v, vm₁, B, -, XB, hS, -, P, S⟩ := X.specialBackS C.1 (y := y) hi C.2.2.2.2.1 (mvT C.2.1 w1) (mvT C.2.1 w2) (mvT C.2.1 w3) hy (H.backW (W := W) O Hd.2.1 Hd.2.2.1.1 (fun x hx => Hd.2.2.2 x (hD0 x hx)) C.2.1 w3 w4 hf hl) (g := mkF m pc ls st) rfl (by rw [C.2.2.2.1]; exact hls) (Steps.refl _) (a := b) (argsL := argsL) (rest := rest) (lenOf pd hn) hst (by show 2 * 0 + _ ≤ _; omega) (Jvm.hb C.2.2.1 hd) (fun _ _ => ⟨rfl, eT, hc, hs⟩)
  exact goOnW K C Hd N XB hS P S
/-- ldc of a String constant: a String, no more is said -/
theorem Runs.ldcS {text : String} {index n : Nat} (hd : Ins code pc (.ldc index) 2 pc') (wl : (Cond.stringLink own index text).before a0 Z = true) (wS : ∀ a ∈ Bundle.stringAtoms, a.before a0 Z = true) (hEL : EW Z a0 EL) (hn : 4 * text.toList.length ≤ n) (hbig : n ≤ 536870912) (hc : kc + 2 ≤ R.cells) (hl : ks + (n + 4) ≤ R.slots)
    (K : ∀ h' a, Keep h h' [] → Runs true l Z EL n0 own nm code ml ret R Q D h' (kc + 2) (ks + (n + 4)) pc' ls (.ref a :: st)) : Runs true l Z EL n0 own nm code ml ret R Q D h kc ks pc ls st := by
  obtain ⟨hd, rfl⟩ := hd
  intro p e s vm0 m args below meth c T locs C X eT N O Hd
  obtain ⟨H1, H2, H3, H4⟩ := Hd
  obtain ⟨k0, g1, g2⟩ : ∃ k0, s.Since vm0 k0 ∧ k0 ≤ h.size := H1
  obtain ⟨a, T', h', k1, X', e', E', S1, hk1, W1, F1, C1, -, st1⟩ := ldcOH X C.1 C.2.1 C.2.2.2.2.1 wl wS eT g1 g2 hEL H3.1 (g := mkF m pc ls st) rfl (Jvm.hb C.2.2.1 hd) hn hbig hc hl
  subst e'
  obtain ⟨s₂, o, S, r⟩ := K _ a (keepE E') p e s T'.vm m args below meth c T' locs ⟨C.1, W1, C.2.2.1, C.2.2.2.1, F1, C.2.2.2.2.2⟩ X' rfl N (O.ext E') ⟨⟨k1, S1, hk1⟩, H2, H3.trans C1, fun x hx => ⟨Nat.lt_of_lt_of_le (H4 x hx).1 E'.1, C1.safe (H4 x hx).1 (H4 x hx).2⟩⟩
  exact ⟨s₂, o, st1 _ S, r⟩
/-- ldc of a String constant that is held: its text -/
theorem Runs.ldcT {text : String} {index n : Nat} {vs : List Value} {z : Int32} (hd : Ins code pc (.ldc index) 2 pc') (wl : (Cond.stringLink own index text).before a0 Z = true) (wS : ∀ a ∈ Bundle.stringAtoms, a.before a0 Z = true) (hEL : EW Z a0 EL) (hmem : (own, index) ∈ EL)
    (ht : (∀ c ∈ text.toList, c.toNat < 256) ∧ text.toList.map (fun c => Value.int (Jvm.Lit.byteI c.toNat.toUInt16)) = vs) (hz : ¬ z < 0) (hzl : z.toNatClampNeg = vs.length) (hn : 4 * text.toList.length ≤ n) (hbig : n ≤ 536870912) (hc : kc + 2 ≤ R.cells) (hl : ks + (n + 4) ≤ R.slots)
    (K : ∀ h' a b k, Keep h h' [] → Obj Z h' a "java/lang/String" [("java/lang/String", "value", "[B", .ref b), ("java/lang/String", "coder", "B", .int 0)] → Arv Z h' b k .byte z vs (.int 0) → (∀ x ∈ D, x ≠ a ∧ x ≠ b) → Runs true l Z EL n0 own nm code ml ret R Q D h' (kc + 2) (ks + (n + 4)) pc' ls (.ref a :: st)) : Runs true l Z EL n0 own nm code ml ret R Q D h kc ks pc ls st := by
  obtain ⟨hd, rfl⟩ := hd
  intro p e s vm0 m args below meth c T locs C X eT N O Hd
  obtain ⟨H1, H2, H3, H4⟩ := Hd
  obtain ⟨k0, g1, g2⟩ : ∃ k0, s.Since vm0 k0 ∧ k0 ≤ h.size := H1
  obtain ⟨a, T', h', k1, b, k, X', e', E', S1, hk1, W1, F1, x1, x2, x3, x4, -, -, C1, -, D1, st1⟩ := ldcCH X C.1 C.2.1 C.2.2.2.2.1 wl wS eT g1 g2 hEL hmem H3.1 ht hz hzl (g := mkF m pc ls st) rfl (Jvm.hb C.2.2.1 hd) hn hbig hc hl
  subst e'
  have hD : ∀ x ∈ D, x < T'.heap.size ∧ Safe Z EL T'.vm T'.heap x := fun x hx => ⟨Nat.lt_of_lt_of_le (H4 x hx).1 E'.1, C1.safe (H4 x hx).1 (H4 x hx).2⟩
  obtain ⟨s₂, o, S, r⟩ := K _ a b k (keepE E') ⟨x1, fun f hf => by simp only [List.mem_cons, List.not_mem_nil, or_false] at hf; rcases hf with rfl | rfl; exact x3; exact x2⟩ x4 (fun x hx => D1 x (hD x hx).2) p e s T'.vm m args below meth c T' locs ⟨C.1, W1, C.2.2.1, C.2.2.2.1, F1, C.2.2.2.2.2⟩ X' rfl N (O.ext E') ⟨⟨k1, S1, hk1⟩, H2, H3.trans C1, hD⟩
  exact ⟨s₂, o, st1 _ S, r⟩
end Wd


section W3
variable {w : Bool} {l : Launch} {Z : State} {EL : List (String × Nat)} {n0 : Nat} {own nm : String} {code : ByteArray} {ml : Nat} {ret : Option FieldType} {R : Room} {Q : Option Value → Heap → List Addr → Prop} {D : List Addr} {h h' : Heap} {kc ks pc pc' : Nat} {ls ls' : Array Slot} {st st' rest : List Value} {a0 : Array Value}
theorem Runs.instY {K : String} {index : Nat} {a : Addr} (hd : Ins code pc (.instanceof index) 3 pc') (wl : (Cond.classLink own index K).before a0 Z = true) (F : RoadKit.Ins Z h a K true) (k : Runs w l Z EL n0 own nm code ml ret R Q D h kc ks pc' ls (.int 1 :: rest)) : Runs w l Z EL n0 own nm code ml ret R Q D h kc ks pc ls (.ref a :: rest) := by
  obtain ⟨hd, rfl⟩ := hd
  exact k.warm fun p e s m args below meth c T locs C X eT O => RoadKit.instY X C.1 C.2.1 C.2.2.2.2.1 wl eT F (g := mkF m pc ls (.ref a :: rest)) rfl rfl (Jvm.hb C.2.2.1 hd)
theorem Runs.instN {K CC : String} {index : Nat} {a : Addr} (hd : Ins code pc (.instanceof index) 3 pc') (wl : (Cond.classLink own index K).before a0 Z = true) (E : Exa Z h a CC) (F : ∃ c t, Z.vm.findClass CC = some c ∧ Z.vm.findClass K = some t ∧ Z.vm.assignable c t = false) (k : Runs w l Z EL n0 own nm code ml ret R Q D h kc ks pc' ls (.int 0 :: rest)) : Runs w l Z EL n0 own nm code ml ret R Q D h kc ks pc ls (.ref a :: rest) := by
  obtain ⟨hd, rfl⟩ := hd
  exact k.warm fun p e s m args below meth c T locs C X eT O => RoadKit.instNo X C.1 C.2.1 C.2.2.2.2.1 wl eT E F (g := mkF m pc ls (.ref a :: rest)) rfl rfl (Jvm.hb C.2.2.1 hd)
theorem Runs.inst0 {index : Nat} (hd : Ins code pc (.instanceof index) 3 pc') (k : Runs w l Z EL n0 own nm code ml ret R Q D h kc ks pc' ls (.int 0 :: rest)) : Runs w l Z EL n0 own nm code ml ret R Q D h kc ks pc ls (.null :: rest) := by
  obtain ⟨hd, rfl⟩ := hd
  exact k.warm fun p e s m args below meth c T locs C X eT O => ⟨T, X, eT, fun t S => X.instanceofNull C.1 (g := mkF m pc ls (.null :: rest)) rfl rfl (Jvm.hb C.2.2.1 hd) t S⟩
theorem Runs.castY {K : String} {index : Nat} {a : Addr} (hd : Ins code pc (.checkcast index) 3 pc') (wl : (Cond.classLink own index K).before a0 Z = true) (F : RoadKit.Ins Z h a K true) (k : Runs w l Z EL n0 own nm code ml ret R Q D h kc ks pc' ls (.ref a :: rest)) : Runs w l Z EL n0 own nm code ml ret R Q D h kc ks pc ls (.ref a :: rest) := by
  obtain ⟨hd, rfl⟩ := hd
  exact k.warm fun p e s m args below meth c T locs C X eT O => RoadKit.castY X C.1 C.2.1 C.2.2.2.2.1 wl eT F (g := mkF m pc ls (.ref a :: rest)) rfl rfl (Jvm.hb C.2.2.1 hd)
/-- C is no K: C's superclass has none, and neither of them is K, which is a class that can be made -/
theorem notInst {C S K : String} {n : Nat} (wC : (Cond.superclass C S).before a0 Z = true) (wS : (Cond.noSuperclass S).before a0 Z = true) (wK : (Cond.instantiable K n).before a0 Z = true) (h1 : C ≠ K) (h2 : S ≠ K) : ∃ c t, Z.vm.findClass C = some c ∧ Z.vm.findClass K = some t ∧ Z.vm.assignable c t = false := by
  obtain ⟨cs, k0, f1, f2, f3, -, -⟩ := Cond.noSuperclass_spec wS
  obtain ⟨t, kt, g1, g2, g3, g4, -⟩ := Cond.instantiable_spec wK
  obtain ⟨c, h0⟩ := found_sup wC
  obtain ⟨p, k, kp, e1, e2, e3, e4, e5, -, e7⟩ := Cond.superclass_spec h0 wC
  cases f1.symm.trans e1
  have ne := ids_ne h0 g1 h1
  have ne2 := ids_ne f1 g1 h2
  have gi : kt.isInterface = false := by simp only [Bool.or_eq_false_iff] at g4; exact g4.1
  have key : ∀ fuel, Z.vm.isSubclassAux fuel c t = false := fun fuel => by
    cases fuel with
    | zero => rfl
    | succ f =>
      cases f with
      | zero => simp [Vm.isSubclassAux, ne, e2, e4]
      | succ f => simp [Vm.isSubclassAux, ne, e2, e4, ne2, f2, f3]
  refine ⟨c, t, h0, g1, ?_⟩
  show Z.vm.assignableAux (255 + 1) c t = false
  simp [Vm.assignableAux, ne, e2, g2, e5, g3, gi, Vm.isSubclass, key]
end W3

end Jvm.OwnW
namespace Jvm.Pilot.@@N@@
open Jvm Jvm.ClassFile Sem Op Lib Jvm.Free Jvm.Stand Jvm.LawKit Jvm.RoadKit Bundle Jvm.OwnW Jvm.Pilot.@@N@@.Jvm.D
abbrev Wds (Z : State) (a0 : Array Value) : Prop := ∀ d ∈ tables_1, d.before a0 Z = true
theorem w0 {Z : State} {a0 : Array Value} (hw : Wds Z a0) : (Jvm.Cond.constantDouble "com/example/arcpose/arcpose/WheelWrapJumpPinLaw" (13 : Nat) (4616189618054758400 : UInt64)).before a0 Z = true := hw _ (List.mem_of_getElem? (i := 0) rfl)
theorem w1 {Z : State} {a0 : Array Value} (hw : Wds Z a0) : (Jvm.Cond.methodLink "com/example/arcpose/arcpose/WheelWrapJumpPinLaw" (15 : Nat) ({ cls := "com/example/arcpose/arcpose/WheelWrapJumpPinLaw", name := "fits", desc := "(J)Z" } : Jvm.MethodName)).before a0 Z = true := hw _ (List.mem_of_getElem? (i := 1) rfl)
theorem w2 {Z : State} {a0 : Array Value} (hw : Wds Z a0) : (Jvm.Cond.static ({ cls := "com/example/arcpose/arcpose/WheelWrapJumpPinLaw", name := "fits", desc := "(J)Z" } : Jvm.MethodName)).before a0 Z = true := hw _ (List.mem_of_getElem? (i := 2) rfl)
theorem w3 {Z : State} {a0 : Array Value} (hw : Wds Z a0) : (Jvm.Cond.initialized "com/example/arcpose/arcpose/WheelWrapJumpPinLaw").before a0 Z = true := hw _ (List.mem_of_getElem? (i := 3) rfl)
theorem w4 {Z : State} {a0 : Array Value} (hw : Wds Z a0) : (Jvm.Cond.code ({ cls := "com/example/arcpose/arcpose/WheelWrapJumpPinLaw", name := "fits", desc := "(J)Z" } : Jvm.MethodName) method_2_code (2 : Nat) (Option.some Jvm.ClassFile.FieldType.boolean)).before a0 Z = true := hw _ (List.mem_of_getElem? (i := 4) rfl)
theorem w5 {Z : State} {a0 : Array Value} (hw : Wds Z a0) : (Jvm.Cond.constantLong "com/example/arcpose/arcpose/WheelWrapJumpPinLaw" (9 : Nat) (-8589934592 : Int64)).before a0 Z = true := hw _ (List.mem_of_getElem? (i := 5) rfl)
theorem w6 {Z : State} {a0 : Array Value} (hw : Wds Z a0) : (Jvm.Cond.constantLong "com/example/arcpose/arcpose/WheelWrapJumpPinLaw" (11 : Nat) (8589934588 : Int64)).before a0 Z = true := hw _ (List.mem_of_getElem? (i := 6) rfl)
theorem w7 {Z : State} {a0 : Array Value} (hw : Wds Z a0) : (Jvm.Cond.constantLong "com/example/arcpose/arcpose/WheelWrapJumpPinLaw" (19 : Nat) (8589934592 : Int64)).before a0 Z = true := hw _ (List.mem_of_getElem? (i := 7) rfl)
theorem w8 {Z : State} {a0 : Array Value} (hw : Wds Z a0) : (Jvm.Cond.methodLink "com/example/arcpose/arcpose/WheelWrapJumpPinLaw" (25 : Nat) ({ cls := "com/example/arcpose/arcpose/Wheel", name := "wrapJump", desc := "(DD)D" } : Jvm.MethodName)).before a0 Z = true := hw _ (List.mem_of_getElem? (i := 8) rfl)
theorem w9 {Z : State} {a0 : Array Value} (hw : Wds Z a0) : (Jvm.Cond.static ({ cls := "com/example/arcpose/arcpose/Wheel", name := "wrapJump", desc := "(DD)D" } : Jvm.MethodName)).before a0 Z = true := hw _ (List.mem_of_getElem? (i := 9) rfl)
theorem w10 {Z : State} {a0 : Array Value} (hw : Wds Z a0) : (Jvm.Cond.initialized "com/example/arcpose/arcpose/Wheel").before a0 Z = true := hw _ (List.mem_of_getElem? (i := 10) rfl)
theorem w11 {Z : State} {a0 : Array Value} (hw : Wds Z a0) : (Jvm.Cond.code ({ cls := "com/example/arcpose/arcpose/Wheel", name := "wrapJump", desc := "(DD)D" } : Jvm.MethodName) prog_28_method_7_code (6 : Nat) (Option.some Jvm.ClassFile.FieldType.double)).before a0 Z = true := hw _ (List.mem_of_getElem? (i := 11) rfl)
theorem w12 {Z : State} {a0 : Array Value} (hw : Wds Z a0) : (Jvm.Cond.methodLink "com/example/arcpose/arcpose/Wheel" (80 : Nat) ({ cls := "com/example/arcpose/arcpose/Wheel", name := "fitsCounter", desc := "(D)Z" } : Jvm.MethodName)).before a0 Z = true := hw _ (List.mem_of_getElem? (i := 12) rfl)
theorem w13 {Z : State} {a0 : Array Value} (hw : Wds Z a0) : (Jvm.Cond.static ({ cls := "com/example/arcpose/arcpose/Wheel", name := "fitsCounter", desc := "(D)Z" } : Jvm.MethodName)).before a0 Z = true := hw _ (List.mem_of_getElem? (i := 13) rfl)
theorem w14 {Z : State} {a0 : Array Value} (hw : Wds Z a0) : (Jvm.Cond.code ({ cls := "com/example/arcpose/arcpose/Wheel", name := "fitsCounter", desc := "(D)Z" } : Jvm.MethodName) prog_28_method_8_code (2 : Nat) (Option.some Jvm.ClassFile.FieldType.boolean)).before a0 Z = true := hw _ (List.mem_of_getElem? (i := 14) rfl)
theorem w15 {Z : State} {a0 : Array Value} (hw : Wds Z a0) : (Jvm.Cond.constantDouble "com/example/arcpose/arcpose/Wheel" (87 : Nat) (13970166044103278592 : UInt64)).before a0 Z = true := hw _ (List.mem_of_getElem? (i := 15) rfl)
theorem w16 {Z : State} {a0 : Array Value} (hw : Wds Z a0) : (Jvm.Cond.constantDouble "com/example/arcpose/arcpose/Wheel" (93 : Nat) (4746794007244308480 : UInt64)).before a0 Z = true := hw _ (List.mem_of_getElem? (i := 16) rfl)
theorem w17 {Z : State} {a0 : Array Value} (hw : Wds Z a0) : (Jvm.Cond.constantDouble "com/example/arcpose/arcpose/Wheel" (83 : Nat) (4746794007248502784 : UInt64)).before a0 Z = true := hw _ (List.mem_of_getElem? (i := 17) rfl)
theorem w18 {Z : State} {a0 : Array Value} (hw : Wds Z a0) : (Jvm.Cond.constantDouble "com/example/arcpose/arcpose/WheelWrapJumpPinLaw" (23 : Nat) (13974669643730649088 : UInt64)).before a0 Z = true := hw _ (List.mem_of_getElem? (i := 18) rfl)
theorem w19 {Z : State} {a0 : Array Value} (hw : Wds Z a0) : (Jvm.Cond.constantDouble "com/example/arcpose/arcpose/Wheel" (89 : Nat) (13974669643730649088 : UInt64)).before a0 Z = true := hw _ (List.mem_of_getElem? (i := 19) rfl)
theorem w20 {Z : State} {a0 : Array Value} (hw : Wds Z a0) : (Jvm.Cond.constantDouble "com/example/arcpose/arcpose/WheelWrapJumpPinLaw" (21 : Nat) (4751297606875873280 : UInt64)).before a0 Z = true := hw _ (List.mem_of_getElem? (i := 20) rfl)
theorem w21 {Z : State} {a0 : Array Value} (hw : Wds Z a0) : (Jvm.Cond.constantDouble "com/example/arcpose/arcpose/Wheel" (85 : Nat) (4751297606875873280 : UInt64)).before a0 Z = true := hw _ (List.mem_of_getElem? (i := 21) rfl)
theorem i0_0 : Ins code 0 (.bipush 32) 2 2 := ⟨at_0, rfl⟩
theorem i0_2 : Ins code 2 (.iload 4) 2 4 := ⟨at_2, rfl⟩
theorem i0_4 : Ins code 4 (.bipush 15) 2 6 := ⟨at_4, rfl⟩
theorem i0_6 : Ins code 6 (.iand) 1 7 := ⟨at_6, rfl⟩
theorem i0_7 : Ins code 7 (.iadd) 1 8 := ⟨at_7, rfl⟩
theorem i0_8 : Ins code 8 (.istore 5) 2 10 := ⟨at_8, rfl⟩
theorem i0_10 : Ins code 10 (.bipush 32) 2 12 := ⟨at_10, rfl⟩
theorem i0_12 : Ins code 12 (.iload 4) 2 14 := ⟨at_12, rfl⟩
theorem i0_14 : Ins code 14 (.iconst 4) 1 15 := ⟨at_14, rfl⟩
theorem i0_15 : Ins code 15 (.iushr) 1 16 := ⟨at_15, rfl⟩
theorem i0_16 : Ins code 16 (.bipush 15) 2 18 := ⟨at_16, rfl⟩
theorem i0_18 : Ins code 18 (.iand) 1 19 := ⟨at_18, rfl⟩
theorem i0_19 : Ins code 19 (.iadd) 1 20 := ⟨at_19, rfl⟩
theorem i0_20 : Ins code 20 (.istore 6) 2 22 := ⟨at_20, rfl⟩
theorem i0_22 : Ins code 22 (.lload_n 0) 1 23 := ⟨at_22, rfl⟩
theorem i0_23 : Ins code 23 (.lconst 1) 1 24 := ⟨at_23, rfl⟩
theorem i0_24 : Ins code 24 (.iload 5) 2 26 := ⟨at_24, rfl⟩
theorem i0_26 : Ins code 26 (.lshl) 1 27 := ⟨at_26, rfl⟩
theorem i0_27 : Ins code 27 (.lrem) 1 28 := ⟨at_27, rfl⟩
theorem i0_28 : Ins code 28 (.lstore 7) 2 30 := ⟨at_28, rfl⟩
theorem i0_30 : Ins code 30 (.lload_n 2) 1 31 := ⟨at_30, rfl⟩
theorem i0_31 : Ins code 31 (.lconst 1) 1 32 := ⟨at_31, rfl⟩
theorem i0_32 : Ins code 32 (.iload 6) 2 34 := ⟨at_32, rfl⟩
theorem i0_34 : Ins code 34 (.lshl) 1 35 := ⟨at_34, rfl⟩
theorem i0_35 : Ins code 35 (.lrem) 1 36 := ⟨at_35, rfl⟩
theorem i0_36 : Ins code 36 (.lstore 9) 2 38 := ⟨at_36, rfl⟩
theorem i0_38 : Ins code 38 (.lload 7) 2 40 := ⟨at_38, rfl⟩
theorem i0_40 : Ins code 40 (.l2d) 1 41 := ⟨at_40, rfl⟩
theorem i0_41 : Ins code 41 (.ldc2_w 13) 3 44 := ⟨at_41, rfl⟩
theorem i0_44 : Ins code 44 (.ddiv) 1 45 := ⟨at_44, rfl⟩
theorem i0_45 : Ins code 45 (.dstore 11) 2 47 := ⟨at_45, rfl⟩
theorem i0_47 : Ins code 47 (.lload 9) 2 49 := ⟨at_47, rfl⟩
theorem i0_49 : Ins code 49 (.l2d) 1 50 := ⟨at_49, rfl⟩
theorem i0_50 : Ins code 50 (.ldc2_w 13) 3 53 := ⟨at_50, rfl⟩
theorem i0_53 : Ins code 53 (.ddiv) 1 54 := ⟨at_53, rfl⟩
theorem i0_54 : Ins code 54 (.dstore 13) 2 56 := ⟨at_54, rfl⟩
theorem i0_56 : Ins code 56 (.lload 7) 2 58 := ⟨at_56, rfl⟩
theorem i0_58 : Ins code 58 (.invokestatic 15) 3 61 := ⟨at_58, rfl⟩
theorem i0_61 : Ins code 61 (.ifCond .eq 11) 3 64 := ⟨at_61, rfl⟩
theorem i0_64 : Ins code 64 (.lload 9) 2 66 := ⟨at_64, rfl⟩
theorem i0_66 : Ins code 66 (.invokestatic 15) 3 69 := ⟨at_66, rfl⟩
theorem i0_69 : Ins code 69 (.ifCond .ne 9) 3 72 := ⟨at_69, rfl⟩
theorem i0_72 : Ins code 72 (.dconst 0) 1 73 := ⟨at_72, rfl⟩
theorem i0_73 : Ins code 73 (.dstore 15) 2 75 := ⟨at_73, rfl⟩
theorem i0_75 : Ins code 75 (.goto 47) 3 78 := ⟨at_75, rfl⟩
theorem i0_78 : Ins code 78 (.lload 9) 2 80 := ⟨at_78, rfl⟩
theorem i0_80 : Ins code 80 (.lload 7) 2 82 := ⟨at_80, rfl⟩
theorem i0_82 : Ins code 82 (.lsub) 1 83 := ⟨at_82, rfl⟩
theorem i0_83 : Ins code 83 (.lstore 17) 2 85 := ⟨at_83, rfl⟩
theorem i0_85 : Ins code 85 (.lload 17) 2 87 := ⟨at_85, rfl⟩
theorem i0_87 : Ins code 87 (.ldc2_w 19) 3 90 := ⟨at_87, rfl⟩
theorem i0_90 : Ins code 90 (.lcmp) 1 91 := ⟨at_90, rfl⟩
theorem i0_91 : Ins code 91 (.ifCond .lt 11) 3 94 := ⟨at_91, rfl⟩
theorem i0_94 : Ins code 94 (.ldc2_w 21) 3 97 := ⟨at_94, rfl⟩
theorem i0_97 : Ins code 97 (.dstore 15) 2 99 := ⟨at_97, rfl⟩
theorem i0_99 : Ins code 99 (.goto 23) 3 102 := ⟨at_99, rfl⟩
theorem i0_102 : Ins code 102 (.lload 17) 2 104 := ⟨at_102, rfl⟩
theorem i0_104 : Ins code 104 (.ldc2_w 9) 3 107 := ⟨at_104, rfl⟩
theorem i0_107 : Ins code 107 (.lcmp) 1 108 := ⟨at_107, rfl⟩
theorem i0_108 : Ins code 108 (.ifCond .ge 11) 3 111 := ⟨at_108, rfl⟩
theorem i0_111 : Ins code 111 (.ldc2_w 23) 3 114 := ⟨at_111, rfl⟩
theorem i0_114 : Ins code 114 (.dstore 15) 2 116 := ⟨at_114, rfl⟩
theorem i0_116 : Ins code 116 (.goto 6) 3 119 := ⟨at_116, rfl⟩
theorem i0_119 : Ins code 119 (.dconst 0) 1 120 := ⟨at_119, rfl⟩
theorem i0_120 : Ins code 120 (.dstore 15) 2 122 := ⟨at_120, rfl⟩
theorem i0_122 : Ins code 122 (.dload 11) 2 124 := ⟨at_122, rfl⟩
theorem i0_124 : Ins code 124 (.dload 13) 2 126 := ⟨at_124, rfl⟩
theorem i0_126 : Ins code 126 (.invokestatic 25) 3 129 := ⟨at_126, rfl⟩
theorem i0_129 : Ins code 129 (.dstore 17) 2 131 := ⟨at_129, rfl⟩
theorem i0_131 : Ins code 131 (.dload 17) 2 133 := ⟨at_131, rfl⟩
theorem i0_133 : Ins code 133 (.dload 15) 2 135 := ⟨at_133, rfl⟩
theorem i0_135 : Ins code 135 (.dcmp .l) 1 136 := ⟨at_135, rfl⟩
theorem i0_136 : Ins code 136 (.ifCond .ne 7) 3 139 := ⟨at_136, rfl⟩
theorem i0_139 : Ins code 139 (.iconst 1) 1 140 := ⟨at_139, rfl⟩
theorem i0_140 : Ins code 140 (.goto 4) 3 143 := ⟨at_140, rfl⟩
theorem i0_144 : Ins code 144 (.ireturn) 1 145 := ⟨at_144, rfl⟩
theorem i1_0 : Ins method_2_code 0 (.lload_n 0) 1 1 := ⟨by decide +kernel, rfl⟩
theorem i1_1 : Ins method_2_code 1 (.ldc2_w 9) 3 4 := ⟨by decide +kernel, rfl⟩
theorem i1_4 : Ins method_2_code 4 (.lcmp) 1 5 := ⟨by decide +kernel, rfl⟩
theorem i1_5 : Ins method_2_code 5 (.ifCond .lt 15) 3 8 := ⟨by decide +kernel, rfl⟩
theorem i1_8 : Ins method_2_code 8 (.lload_n 0) 1 9 := ⟨by decide +kernel, rfl⟩
theorem i1_9 : Ins method_2_code 9 (.ldc2_w 11) 3 12 := ⟨by decide +kernel, rfl⟩
theorem i1_12 : Ins method_2_code 12 (.lcmp) 1 13 := ⟨by decide +kernel, rfl⟩
theorem i1_13 : Ins method_2_code 13 (.ifCond .gt 7) 3 16 := ⟨by decide +kernel, rfl⟩
theorem i1_16 : Ins method_2_code 16 (.iconst 1) 1 17 := ⟨by decide +kernel, rfl⟩
theorem i1_17 : Ins method_2_code 17 (.goto 4) 3 20 := ⟨by decide +kernel, rfl⟩
theorem i1_20 : Ins method_2_code 20 (.iconst 0) 1 21 := ⟨by decide +kernel, rfl⟩
theorem i1_21 : Ins method_2_code 21 (.ireturn) 1 22 := ⟨by decide +kernel, rfl⟩
theorem i2_0 : Ins prog_28_method_7_code 0 (.dload_n 0) 1 1 := ⟨by decide +kernel, rfl⟩
theorem i2_1 : Ins prog_28_method_7_code 1 (.invokestatic 80) 3 4 := ⟨by decide +kernel, rfl⟩
theorem i2_4 : Ins prog_28_method_7_code 4 (.ifCond .eq 10) 3 7 := ⟨by decide +kernel, rfl⟩
theorem i2_7 : Ins prog_28_method_7_code 7 (.dload_n 2) 1 8 := ⟨by decide +kernel, rfl⟩
theorem i2_8 : Ins prog_28_method_7_code 8 (.invokestatic 80) 3 11 := ⟨by decide +kernel, rfl⟩
theorem i2_11 : Ins prog_28_method_7_code 11 (.ifCond .ne 5) 3 14 := ⟨by decide +kernel, rfl⟩
theorem i2_14 : Ins prog_28_method_7_code 14 (.dconst 0) 1 15 := ⟨by decide +kernel, rfl⟩
theorem i2_15 : Ins prog_28_method_7_code 15 (.dreturn) 1 16 := ⟨by decide +kernel, rfl⟩
theorem i2_16 : Ins prog_28_method_7_code 16 (.dload_n 2) 1 17 := ⟨by decide +kernel, rfl⟩
theorem i2_17 : Ins prog_28_method_7_code 17 (.dload_n 0) 1 18 := ⟨by decide +kernel, rfl⟩
theorem i2_18 : Ins prog_28_method_7_code 18 (.dsub) 1 19 := ⟨by decide +kernel, rfl⟩
theorem i2_19 : Ins prog_28_method_7_code 19 (.dstore 4) 2 21 := ⟨by decide +kernel, rfl⟩
theorem i2_21 : Ins prog_28_method_7_code 21 (.dload 4) 2 23 := ⟨by decide +kernel, rfl⟩
theorem i2_23 : Ins prog_28_method_7_code 23 (.ldc2_w 83) 3 26 := ⟨by decide +kernel, rfl⟩
theorem i2_26 : Ins prog_28_method_7_code 26 (.dcmp .l) 1 27 := ⟨by decide +kernel, rfl⟩
theorem i2_27 : Ins prog_28_method_7_code 27 (.ifCond .lt 7) 3 30 := ⟨by decide +kernel, rfl⟩
theorem i2_30 : Ins prog_28_method_7_code 30 (.ldc2_w 85) 3 33 := ⟨by decide +kernel, rfl⟩
theorem i2_33 : Ins prog_28_method_7_code 33 (.dreturn) 1 34 := ⟨by decide +kernel, rfl⟩
theorem i2_34 : Ins prog_28_method_7_code 34 (.dload 4) 2 36 := ⟨by decide +kernel, rfl⟩
theorem i2_36 : Ins prog_28_method_7_code 36 (.ldc2_w 87) 3 39 := ⟨by decide +kernel, rfl⟩
theorem i2_39 : Ins prog_28_method_7_code 39 (.dcmp .g) 1 40 := ⟨by decide +kernel, rfl⟩
theorem i2_40 : Ins prog_28_method_7_code 40 (.ifCond .ge 7) 3 43 := ⟨by decide +kernel, rfl⟩
theorem i2_43 : Ins prog_28_method_7_code 43 (.ldc2_w 89) 3 46 := ⟨by decide +kernel, rfl⟩
theorem i2_46 : Ins prog_28_method_7_code 46 (.dreturn) 1 47 := ⟨by decide +kernel, rfl⟩
theorem i2_47 : Ins prog_28_method_7_code 47 (.dconst 0) 1 48 := ⟨by decide +kernel, rfl⟩
theorem i2_48 : Ins prog_28_method_7_code 48 (.dreturn) 1 49 := ⟨by decide +kernel, rfl⟩
theorem i3_0 : Ins prog_28_method_8_code 0 (.dload_n 0) 1 1 := ⟨by decide +kernel, rfl⟩
theorem i3_1 : Ins prog_28_method_8_code 1 (.ldc2_w 87) 3 4 := ⟨by decide +kernel, rfl⟩
theorem i3_4 : Ins prog_28_method_8_code 4 (.dcmp .l) 1 5 := ⟨by decide +kernel, rfl⟩
theorem i3_5 : Ins prog_28_method_8_code 5 (.ifCond .lt 15) 3 8 := ⟨by decide +kernel, rfl⟩
theorem i3_8 : Ins prog_28_method_8_code 8 (.dload_n 0) 1 9 := ⟨by decide +kernel, rfl⟩
theorem i3_9 : Ins prog_28_method_8_code 9 (.ldc2_w 93) 3 12 := ⟨by decide +kernel, rfl⟩
theorem i3_12 : Ins prog_28_method_8_code 12 (.dcmp .g) 1 13 := ⟨by decide +kernel, rfl⟩
theorem i3_13 : Ins prog_28_method_8_code 13 (.ifCond .gt 7) 3 16 := ⟨by decide +kernel, rfl⟩
theorem i3_16 : Ins prog_28_method_8_code 16 (.iconst 1) 1 17 := ⟨by decide +kernel, rfl⟩
theorem i3_17 : Ins prog_28_method_8_code 17 (.goto 4) 3 20 := ⟨by decide +kernel, rfl⟩
theorem i3_20 : Ins prog_28_method_8_code 20 (.iconst 0) 1 21 := ⟨by decide +kernel, rfl⟩
theorem i3_21 : Ins prog_28_method_8_code 21 (.ireturn) 1 22 := ⟨by decide +kernel, rfl⟩
theorem pd_0 : parseMethodDescriptor "(D)Z" = some ⟨[.double], some .boolean⟩ := by decide +kernel
theorem pd_1 : parseMethodDescriptor "(J)Z" = some ⟨[.long], some .boolean⟩ := by decide +kernel
theorem pd_2 : parseMethodDescriptor "(DD)D" = some ⟨[.double, .double], some .double⟩ := by decide +kernel
/-! quarters: a double that is n / 4 exactly -/
section Q4
open Jvm.FP Jvm.FP.Core
def own_up : Datum → Datum
  | .nan => .nan
  | .inf s => .inf s
  | .fin s c q => .fin s c (q + 2)
def own_Q (n : Int) (a : UInt64) : Prop := Whole n (own_up (val64 a))
theorem own_up_order (x y : Datum) : order (own_up x) (own_up y) = order x y := by
  cases x with
  | nan => rfl
  | inf s => cases y <;> rfl
  | fin s c q =>
    cases y with
    | nan => rfl
    | inf t => rfl
    | fin t d r =>
      simp only [own_up, order, inUnits]
      rw [show q + 2 - min (q + 2) (r + 2) = q - min q r by omega, show r + 2 - min (q + 2) (r + 2) = r - min q r by omega]
theorem own_up_sum (x y : Datum) : exactSum (own_up x) (own_up y) = own_up (exactSum x y) := by
  cases x with
  | nan => rfl
  | inf s =>
    cases y with
    | nan => rfl
    | inf t => simp only [own_up, exactSum]; split <;> rfl
    | fin t d r => rfl
  | fin s c q =>
    cases y with
    | nan => rfl
    | inf t => rfl
    | fin t d r =>
      simp only [own_up, exactSum, sumUnits, inUnits]
      rw [show q + 2 - min (q + 2) (r + 2) = q - min q r by omega, show r + 2 - min (q + 2) (r + 2) = r - min q r by omega, show min (q + 2) (r + 2) = min q r + 2 by omega]
theorem own_up_neg (x : Datum) : negate (own_up x) = own_up (negate x) := by cases x <;> rfl
theorem own_Q_num {n : Int} {a : UInt64} (h : own_Q n a) : val64 a ≠ .nan := by
  intro q; unfold own_Q at h; rw [q] at h; exact h.elim
theorem own_qcmp {i j : Int} {a b : UInt64} (ha : own_Q i a) (hb : own_Q j b) : FP.dcmp a b = some (compare i j) := by
  have h := order_whole ha hb
  rw [own_up_order] at h
  exact h
theorem own_qround {n : Int} {s : Bool} (hn : n.natAbs ≤ 2 ^ 53) (hs : n ≠ 0 → s = decide (n < 0)) : Whole n (own_up (roundRatio b64 s n.natAbs 1 (-2))) := by
  by_cases h0 : n = 0
  · subst h0
    show signed s (0 * _) = 0 * _
    rw [Nat.zero_mul, Int.zero_mul]; exact signed_zero s
  · obtain ⟨c, q, hfit, hv⟩ := natFit good_b64 wide_b64 s (n := n.natAbs) hn
    obtain ⟨f1, f2, f3, f4⟩ := hfit
    have e1 : b64.qmin = -1074 := by decide
    have e2 : b64.p = 53 := rfl
    have hq : -60 ≤ q := by
      refine Int.not_lt.mp fun hlt => ?_
      rw [show (q - 0).toNat = 0 by omega, Nat.pow_zero, Nat.mul_one, Nat.mul_one] at hv
      have h1 : 2 ^ 53 ≤ 2 ^ (0 - q).toNat := Nat.pow_le_pow_right (by decide) (by omega)
      have h2 : 1 * 2 ^ (0 - q).toNat ≤ n.natAbs * 2 ^ (0 - q).toNat := Nat.mul_le_mul_right _ (by omega)
      rw [e2] at f1
      omega
    have hfit' : Jvm.FP.Core.fits b64 (.fin s c (q - 2)) := ⟨f1, by omega, by omega, by omega⟩
    rw [roundRatio_exact good_b64 (by decide) hfit' (by rw [show (-2 - (q - 2)).toNat = (0 - q).toNat by omega, show (q - 2 - -2).toNat = (q - 0).toNat by omega]; exact hv)]
    have h := whole_round good_b64 wide_b64 hn (whole_ofInt n)
    rw [show round b64 (ofInt n) = roundRatio b64 s n.natAbs 1 0 by rw [hs h0]; rfl, roundRatio_exact good_b64 (by decide) ⟨f1, f2, f3, f4⟩ hv] at h
    show Whole n (.fin s c (q - 2 + 2))
    rw [show q - 2 + 2 = q by omega]
    exact h
theorem own_qround2 {n : Int} {d : Datum} (hn : n.natAbs ≤ 2 ^ 53) (h : Whole n (own_up d)) : Whole n (own_up (round b64 d)) := by
  cases d with
  | nan => exact h.elim
  | inf => exact h.elim
  | fin s c q =>
    have h1 := whole_natAbs (show Whole n (.fin s c (q + 2)) from h)
    have h2 : round b64 (.fin s c q) = roundRatio b64 s n.natAbs 1 (-2) := by
      refine roundRatio_congr (by decide) (by decide) ?_
      rw [show (q - -2).toNat = (q + 2).toNat by omega, show (-2 - q).toNat = (-(q + 2)).toNat by omega, Nat.mul_one, Nat.mul_one]
      exact h1
    rw [h2]
    exact own_qround hn (whole_sign (show Whole n (.fin s c (q + 2)) from h))
theorem own_qsub {i j : Int} {a b : UInt64} (ha : own_Q i a) (hb : own_Q j b) (h : (i - j).natAbs ≤ 2 ^ 53) : own_Q (i - j) (FP.dsub a b) := by
  show Whole (i - j) (own_up (val64 (Core.dsub a b)))
  rw [val64_dsub]
  refine own_qround2 h ?_
  rw [← own_up_sum, ← own_up_neg]
  exact whole_sum ha (whole_negate hb)
theorem own_v4 : val64 4616189618054758400 = .fin false 4503599627370496 (-50) := by decide +kernel
theorem own_qdiv {a : Int64} (h : a.toInt.natAbs ≤ 2 ^ 53) : own_Q a.toInt (FP.ddiv (FP.l2d a) 4616189618054758400) := by
  show Whole _ (own_up (val64 (Core.ddiv (Core.l2d a) _)))
  rw [val64_ddiv, own_v4]
  have hd : Whole a.toInt (val64 (Core.l2d a)) := l2d_int h
  revert hd
  generalize val64 (Core.l2d a) = d
  intro hd
  cases d with
  | nan => exact hd.elim
  | inf => exact hd.elim
  | fin s c q =>
    have h1 := whole_natAbs hd
    have h2 : quotient b64 (.fin s c q) (.fin false 4503599627370496 (-50)) = roundRatio b64 s a.toInt.natAbs 1 (-2) := by
      show (if (4503599627370496 : Nat) = 0 then (if c = 0 then Datum.nan else .inf (s != false)) else roundRatio b64 (s != false) c 4503599627370496 (q - -50)) = _
      rw [if_neg (by decide), show (s != false) = s by cases s <;> rfl]
      refine roundRatio_congr (by decide) (by decide) ?_
      rw [Nat.mul_one]
      refine Nat.eq_of_mul_eq_mul_right (Nat.two_pow_pos (-q).toNat) ?_
      have hx : (q - -50 - -2).toNat + (-q).toNat = q.toNat + (52 + (-2 - (q - -50)).toNat) := by omega
      rw [Nat.mul_assoc, ← Nat.pow_add, hx, Nat.pow_add, ← Nat.mul_assoc, h1, Nat.pow_add, show (2 : Nat) ^ 52 = 4503599627370496 by decide +kernel]
      ac_rfl
    rw [h2]
    exact own_qround h (whole_sign hd)
theorem own_Q1 : own_Q (-8589934592) 13970166044103278592 := by unfold own_Q; rw [show val64 13970166044103278592 = .fin true 4503599627370496 (-21) by decide +kernel]; show signed _ _ = _; decide +kernel
theorem own_Q2 : own_Q 8589934588 4746794007244308480 := by unfold own_Q; rw [show val64 4746794007244308480 = .fin false 9007199250546688 (-22) by decide +kernel]; show signed _ _ = _; decide +kernel
theorem own_Q3 : own_Q 8589934592 4746794007248502784 := by unfold own_Q; rw [show val64 4746794007248502784 = .fin false 4503599627370496 (-21) by decide +kernel]; show signed _ _ = _; decide +kernel
theorem own_nn {n : Int} {a : UInt64} (h : own_Q n a) : Jvm.Free.Fl.NoNaN64 a := Jvm.Free.Fl.val64_no.mpr (own_Q_num h)
end Q4

def own_fit (n : Int) : Int32 := if -8589934592 ≤ n ∧ n ≤ 8589934588 then 1 else 0
def own_wj (i j : Int) : UInt64 := if (-8589934592 ≤ i ∧ i ≤ 8589934588) ∧ -8589934592 ≤ j ∧ j ≤ 8589934588 then (if 8589934592 ≤ j - i then 4751297606875873280 else if j - i < -8589934592 then 13974669643730649088 else 0) else 0
theorem own_fit1 {n : Int} (h : -8589934592 ≤ n ∧ n ≤ 8589934588) : own_fit n = 1 := if_pos h
theorem own_fit0 {n : Int} (h : ¬ (-8589934592 ≤ n ∧ n ≤ 8589934588)) : own_fit n = 0 := if_neg h
theorem own_fit2 (n : Int) : (own_fit n = 1 ∧ -8589934592 ≤ n ∧ n ≤ 8589934588) ∨ (own_fit n = 0 ∧ ¬ (-8589934592 ≤ n ∧ n ≤ 8589934588)) := by
  by_cases h : -8589934592 ≤ n ∧ n ≤ 8589934588
  · exact Or.inl ⟨own_fit1 h, h⟩
  · exact Or.inr ⟨own_fit0 h, h⟩
theorem own_wj0 {i j : Int} (h : ¬ ((-8589934592 ≤ i ∧ i ≤ 8589934588) ∧ -8589934592 ≤ j ∧ j ≤ 8589934588)) : own_wj i j = 0 := if_neg h
theorem own_wj1 {i j : Int} (h : (-8589934592 ≤ i ∧ i ≤ 8589934588) ∧ -8589934592 ≤ j ∧ j ≤ 8589934588) (g : 8589934592 ≤ j - i) : own_wj i j = 4751297606875873280 := by rw [own_wj, if_pos h, if_pos g]
theorem own_wj2 {i j : Int} (h : (-8589934592 ≤ i ∧ i ≤ 8589934588) ∧ -8589934592 ≤ j ∧ j ≤ 8589934588) (g : j - i < -8589934592) : own_wj i j = 13974669643730649088 := by rw [own_wj, if_pos h, if_neg (by omega), if_pos g]
theorem own_wj3 {i j : Int} (h : (-8589934592 ≤ i ∧ i ≤ 8589934588) ∧ -8589934592 ≤ j ∧ j ≤ 8589934588) (g : -8589934592 ≤ j - i ∧ j - i < 8589934592) : own_wj i j = 0 := by rw [own_wj, if_pos h, if_neg (by omega), if_neg (by omega)]
theorem own_dc {o : CmpOp} {a b : UInt64} {i j : Int} (ha : own_Q i a) (hb : own_Q j b) : (i < j → cmpValue (FP.dcmp a b) o = -1) ∧ (i = j → cmpValue (FP.dcmp a b) o = 0) ∧ (j < i → cmpValue (FP.dcmp a b) o = 1) := by
  rw [own_qcmp ha hb]
  refine ⟨fun h => ?_, fun h => ?_, fun h => ?_⟩
  · rw [(Jvm.FP.Core.compare_lt_iff i j).mpr h]; rfl
  · rw [(Jvm.FP.Core.compare_eq_iff i j).mpr h]; rfl
  · rw [(Jvm.FP.Core.compare_gt_iff i j).mpr h]; rfl
theorem own_lc {x y : Int64} {d : Int} (hy : y.toInt = d) : (x.toInt < d → Jvm.Free.XT.cmpL x y = -1) ∧ (x.toInt = d → Jvm.Free.XT.cmpL x y = 0) ∧ (d < x.toInt → Jvm.Free.XT.cmpL x y = 1) := by
  subst hy
  simp only [Jvm.Free.XT.cmpL, Int64.lt_iff_toInt_lt, ← Int64.toInt_inj]
  refine ⟨fun h => ?_, fun h => ?_, fun h => ?_⟩
  · rw [if_neg (by omega), if_neg (by omega)]
  · rw [if_neg (by omega), if_pos h]
  · rw [if_pos h]
theorem own_and15 (s : Int32) : ∃ n : Fin 16, s &&& 15 = Int32.ofNat n := by
  refine ⟨⟨(s &&& 15).toBitVec.toNat, ?_⟩, ?_⟩
  · rw [Int32.toBitVec_and, BitVec.toNat_and]; exact Nat.lt_of_le_of_lt Nat.and_le_right (by decide)
  · apply Int32.toBitVec_inj.mp; simp
theorem own_ks0 : ∀ n : Fin 16, (1 : Int64) <<< (((32 : Int32) + Int32.ofNat n).toInt64 &&& 63) ≠ 0 ∧ ((1 : Int64) <<< (((32 : Int32) + Int32.ofNat n).toInt64 &&& 63)).toInt.natAbs ≤ 140737488355328 := by decide +kernel
theorem own_ks {s x1 x2 : Int32} {y : Int64} (h1 : s &&& (15 : Int32) = x1) (h2 : (32 : Int32) + x1 = x2) (h3 : (1 : Int64) <<< (x2.toInt64 &&& 63) = y) : y ≠ 0 ∧ y.toInt.natAbs ≤ 140737488355328 := by
  subst h1; subst h2; subst h3
  obtain ⟨n, h⟩ := own_and15 s
  rw [h]; exact own_ks0 n
theorem own_rm {x y z : Int64} (hy : y ≠ 0 ∧ y.toInt.natAbs ≤ 140737488355328) (h : x % y = z) : z.toInt.natAbs < 140737488355328 := by
  subst h
  have h0 : y.toInt ≠ 0 := fun q => hy.1 (Int64.toInt_inj.mp q)
  rw [Int64.toInt_mod, Int.natAbs_tmod]
  exact Nat.lt_of_lt_of_le (Nat.mod_lt _ (by omega)) hy.2
theorem own_sb {a b d : Int64} (ha : a.toInt.natAbs < 140737488355328) (hb : b.toInt.natAbs < 140737488355328) (h : b - a = d) : d.toInt = b.toInt - a.toInt := by
  subst h
  rw [Int64.toInt_sub]; exact Int.bmod_eq_of_le (by omega) (by omega)

set_option maxRecDepth 65536 in
set_option maxHeartbeats 4000000 in
theorem own_fi (l : Launch) (Z : State) (a0 : Array Value) (hw : Wds Z a0) (n0 : Nat) (q : Int64) (h0 : Heap) : Con false l Z [] n0 (⟨"com/example/arcpose/arcpose/WheelWrapJumpPinLaw", "fits", "(J)Z"⟩ : MethodName) method_2_code 2 (some .boolean) ({ frames := 0, cells := 0, slots := 0, locals := 0 } : Room) #[(.long q)] [] h0 (fun v h D' => v = some (.int (own_fit q.toInt)) ∧ h0 = h ∧ D' = []) := by
  refine Con.of_runs (ls := #[.val (.long q), .second]) (by decide +kernel) (fun m => rfl) ?_
  refine Runs.lloadN i1_0 rfl ?_
  refine Runs.ldcJ i1_1 (w5 hw) ?_
  rcases Int.lt_trichotomy (Int64.toInt q) (-8589934592) with h_1 | h_1 | h_1
  · refine Runs.lcmp (z := (-1 : Int32)) i1_4 ((own_lc (x := q) (y := (-8589934592 : Int64)) (d := (-8589934592)) (by decide)).1 h_1) ?_
    refine Runs.ifY (t := 20) i1_5 (by decide) (tlt (by decide : (-1 : Int32) < (0 : Int32))).1 ?_
    refine Runs.iconst (v := (0 : Int32)) i1_20 (by decide) ?_
    exact Runs.retI (z := (0 : Int32)) i1_21 rfl (Or.inr (Or.inl rfl)) (by decide) (by decide) (by decide) ⟨by rw [own_fit0 (by omega)], rfl, rfl⟩
  · refine Runs.lcmp (z := (0 : Int32)) i1_4 ((own_lc (x := q) (y := (-8589934592 : Int64)) (d := (-8589934592)) (by decide)).2.1 h_1) ?_
    refine Runs.ifN i1_5 (flt (by decide : ¬ ((0 : Int32) < (0 : Int32)))).1 ?_
    refine Runs.lloadN i1_8 rfl ?_
    refine Runs.ldcJ i1_9 (w6 hw) ?_
    rcases Int.lt_trichotomy (Int64.toInt q) 8589934588 with h_2 | h_2 | h_2
    · refine Runs.lcmp (z := (-1 : Int32)) i1_12 ((own_lc (x := q) (y := (8589934588 : Int64)) (d := 8589934588) (by decide)).1 h_2) ?_
      refine Runs.ifN i1_13 (flt (by decide : ¬ ((0 : Int32) < (-1 : Int32)))).2.2.1 ?_
      refine Runs.iconst (v := (1 : Int32)) i1_16 (by decide) ?_
      refine Runs.goto (t := 21) i1_17 (by decide) ?_
      exact Runs.retI (z := (1 : Int32)) i1_21 rfl (Or.inr (Or.inl rfl)) (by decide) (by decide) (by decide) ⟨by rw [own_fit1 (by omega)], rfl, rfl⟩
    · refine Runs.lcmp (z := (0 : Int32)) i1_12 ((own_lc (x := q) (y := (8589934588 : Int64)) (d := 8589934588) (by decide)).2.1 h_2) ?_
      refine Runs.ifN i1_13 (flt (by decide : ¬ ((0 : Int32) < (0 : Int32)))).2.2.1 ?_
      refine Runs.iconst (v := (1 : Int32)) i1_16 (by decide) ?_
      refine Runs.goto (t := 21) i1_17 (by decide) ?_
      exact Runs.retI (z := (1 : Int32)) i1_21 rfl (Or.inr (Or.inl rfl)) (by decide) (by decide) (by decide) ⟨by rw [own_fit1 (by omega)], rfl, rfl⟩
    · refine Runs.lcmp (z := (1 : Int32)) i1_12 ((own_lc (x := q) (y := (8589934588 : Int64)) (d := 8589934588) (by decide)).2.2 h_2) ?_
      refine Runs.ifY (t := 20) i1_13 (by decide) (tlt (by decide : (0 : Int32) < (1 : Int32))).2.2.1 ?_
      refine Runs.iconst (v := (0 : Int32)) i1_20 (by decide) ?_
      exact Runs.retI (z := (0 : Int32)) i1_21 rfl (Or.inr (Or.inl rfl)) (by decide) (by decide) (by decide) ⟨by rw [own_fit0 (by omega)], rfl, rfl⟩
  · refine Runs.lcmp (z := (1 : Int32)) i1_4 ((own_lc (x := q) (y := (-8589934592 : Int64)) (d := (-8589934592)) (by decide)).2.2 h_1) ?_
    refine Runs.ifN i1_5 (flt (by decide : ¬ ((1 : Int32) < (0 : Int32)))).1 ?_
    refine Runs.lloadN i1_8 rfl ?_
    refine Runs.ldcJ i1_9 (w6 hw) ?_
    rcases Int.lt_trichotomy (Int64.toInt q) 8589934588 with h_3 | h_3 | h_3
    · refine Runs.lcmp (z := (-1 : Int32)) i1_12 ((own_lc (x := q) (y := (8589934588 : Int64)) (d := 8589934588) (by decide)).1 h_3) ?_
      refine Runs.ifN i1_13 (flt (by decide : ¬ ((0 : Int32) < (-1 : Int32)))).2.2.1 ?_
      refine Runs.iconst (v := (1 : Int32)) i1_16 (by decide) ?_
      refine Runs.goto (t := 21) i1_17 (by decide) ?_
      exact Runs.retI (z := (1 : Int32)) i1_21 rfl (Or.inr (Or.inl rfl)) (by decide) (by decide) (by decide) ⟨by rw [own_fit1 (by omega)], rfl, rfl⟩
    · refine Runs.lcmp (z := (0 : Int32)) i1_12 ((own_lc (x := q) (y := (8589934588 : Int64)) (d := 8589934588) (by decide)).2.1 h_3) ?_
      refine Runs.ifN i1_13 (flt (by decide : ¬ ((0 : Int32) < (0 : Int32)))).2.2.1 ?_
      refine Runs.iconst (v := (1 : Int32)) i1_16 (by decide) ?_
      refine Runs.goto (t := 21) i1_17 (by decide) ?_
      exact Runs.retI (z := (1 : Int32)) i1_21 rfl (Or.inr (Or.inl rfl)) (by decide) (by decide) (by decide) ⟨by rw [own_fit1 (by omega)], rfl, rfl⟩
    · refine Runs.lcmp (z := (1 : Int32)) i1_12 ((own_lc (x := q) (y := (8589934588 : Int64)) (d := 8589934588) (by decide)).2.2 h_3) ?_
      refine Runs.ifY (t := 20) i1_13 (by decide) (tlt (by decide : (0 : Int32) < (1 : Int32))).2.2.1 ?_
      refine Runs.iconst (v := (0 : Int32)) i1_20 (by decide) ?_
      exact Runs.retI (z := (0 : Int32)) i1_21 rfl (Or.inr (Or.inl rfl)) (by decide) (by decide) (by decide) ⟨by rw [own_fit0 (by omega)], rfl, rfl⟩
set_option maxRecDepth 65536 in
set_option maxHeartbeats 4000000 in
theorem own_fc (l : Launch) (Z : State) (a0 : Array Value) (hw : Wds Z a0) (n0 : Nat) (d : UInt64) (n : Int) (Qd : own_Q n d) (h0 : Heap) : Con false l Z [] n0 (⟨"com/example/arcpose/arcpose/Wheel", "fitsCounter", "(D)Z"⟩ : MethodName) prog_28_method_8_code 2 (some .boolean) ({ frames := 0, cells := 0, slots := 0, locals := 0 } : Room) #[(.double d)] [] h0 (fun v h D' => v = some (.int (own_fit n)) ∧ h0 = h ∧ D' = []) := by
  refine Con.of_runs (ls := #[.val (.double d), .second]) (by decide +kernel) (fun m => rfl) ?_
  refine Runs.dloadN i3_0 rfl ?_
  refine Runs.ldcD i3_1 (w15 hw) ?_
  rcases Int.lt_trichotomy n (-8589934592) with h_1 | h_1 | h_1
  · refine Runs.dcmp (z := (-1 : Int32)) i3_4 ((own_dc Qd own_Q1).1 h_1) ?_
    refine Runs.ifY (t := 20) i3_5 (by decide) (tlt (by decide : (-1 : Int32) < (0 : Int32))).1 ?_
    refine Runs.iconst (v := (0 : Int32)) i3_20 (by decide) ?_
    exact Runs.retI (z := (0 : Int32)) i3_21 rfl (Or.inr (Or.inl rfl)) (by decide) (by decide) (by decide) ⟨by rw [own_fit0 (by omega)], rfl, rfl⟩
  · refine Runs.dcmp (z := (0 : Int32)) i3_4 ((own_dc Qd own_Q1).2.1 h_1) ?_
    refine Runs.ifN i3_5 (flt (by decide : ¬ ((0 : Int32) < (0 : Int32)))).1 ?_
    refine Runs.dloadN i3_8 rfl ?_
    refine Runs.ldcD i3_9 (w16 hw) ?_
    rcases Int.lt_trichotomy n 8589934588 with h_2 | h_2 | h_2
    · refine Runs.dcmp (z := (-1 : Int32)) i3_12 ((own_dc Qd own_Q2).1 h_2) ?_
      refine Runs.ifN i3_13 (flt (by decide : ¬ ((0 : Int32) < (-1 : Int32)))).2.2.1 ?_
      refine Runs.iconst (v := (1 : Int32)) i3_16 (by decide) ?_
      refine Runs.goto (t := 21) i3_17 (by decide) ?_
      exact Runs.retI (z := (1 : Int32)) i3_21 rfl (Or.inr (Or.inl rfl)) (by decide) (by decide) (by decide) ⟨by rw [own_fit1 (by omega)], rfl, rfl⟩
    · refine Runs.dcmp (z := (0 : Int32)) i3_12 ((own_dc Qd own_Q2).2.1 h_2) ?_
      refine Runs.ifN i3_13 (flt (by decide : ¬ ((0 : Int32) < (0 : Int32)))).2.2.1 ?_
      refine Runs.iconst (v := (1 : Int32)) i3_16 (by decide) ?_
      refine Runs.goto (t := 21) i3_17 (by decide) ?_
      exact Runs.retI (z := (1 : Int32)) i3_21 rfl (Or.inr (Or.inl rfl)) (by decide) (by decide) (by decide) ⟨by rw [own_fit1 (by omega)], rfl, rfl⟩
    · refine Runs.dcmp (z := (1 : Int32)) i3_12 ((own_dc Qd own_Q2).2.2 h_2) ?_
      refine Runs.ifY (t := 20) i3_13 (by decide) (tlt (by decide : (0 : Int32) < (1 : Int32))).2.2.1 ?_
      refine Runs.iconst (v := (0 : Int32)) i3_20 (by decide) ?_
      exact Runs.retI (z := (0 : Int32)) i3_21 rfl (Or.inr (Or.inl rfl)) (by decide) (by decide) (by decide) ⟨by rw [own_fit0 (by omega)], rfl, rfl⟩
  · refine Runs.dcmp (z := (1 : Int32)) i3_4 ((own_dc Qd own_Q1).2.2 h_1) ?_
    refine Runs.ifN i3_5 (flt (by decide : ¬ ((1 : Int32) < (0 : Int32)))).1 ?_
    refine Runs.dloadN i3_8 rfl ?_
    refine Runs.ldcD i3_9 (w16 hw) ?_
    rcases Int.lt_trichotomy n 8589934588 with h_3 | h_3 | h_3
    · refine Runs.dcmp (z := (-1 : Int32)) i3_12 ((own_dc Qd own_Q2).1 h_3) ?_
      refine Runs.ifN i3_13 (flt (by decide : ¬ ((0 : Int32) < (-1 : Int32)))).2.2.1 ?_
      refine Runs.iconst (v := (1 : Int32)) i3_16 (by decide) ?_
      refine Runs.goto (t := 21) i3_17 (by decide) ?_
      exact Runs.retI (z := (1 : Int32)) i3_21 rfl (Or.inr (Or.inl rfl)) (by decide) (by decide) (by decide) ⟨by rw [own_fit1 (by omega)], rfl, rfl⟩
    · refine Runs.dcmp (z := (0 : Int32)) i3_12 ((own_dc Qd own_Q2).2.1 h_3) ?_
      refine Runs.ifN i3_13 (flt (by decide : ¬ ((0 : Int32) < (0 : Int32)))).2.2.1 ?_
      refine Runs.iconst (v := (1 : Int32)) i3_16 (by decide) ?_
      refine Runs.goto (t := 21) i3_17 (by decide) ?_
      exact Runs.retI (z := (1 : Int32)) i3_21 rfl (Or.inr (Or.inl rfl)) (by decide) (by decide) (by decide) ⟨by rw [own_fit1 (by omega)], rfl, rfl⟩
    · refine Runs.dcmp (z := (1 : Int32)) i3_12 ((own_dc Qd own_Q2).2.2 h_3) ?_
      refine Runs.ifY (t := 20) i3_13 (by decide) (tlt (by decide : (0 : Int32) < (1 : Int32))).2.2.1 ?_
      refine Runs.iconst (v := (0 : Int32)) i3_20 (by decide) ?_
      exact Runs.retI (z := (0 : Int32)) i3_21 rfl (Or.inr (Or.inl rfl)) (by decide) (by decide) (by decide) ⟨by rw [own_fit0 (by omega)], rfl, rfl⟩
set_option maxRecDepth 65536 in
set_option maxHeartbeats 4000000 in
theorem own_wr (l : Launch) (Z : State) (a0 : Array Value) (hw : Wds Z a0) (n0 : Nat) (a b : UInt64) (i j : Int) (Qa : own_Q i a) (Qb : own_Q j b) (hi : i.natAbs < 140737488355328) (hj : j.natAbs < 140737488355328) (h0 : Heap) : Con false l Z [] n0 (⟨"com/example/arcpose/arcpose/Wheel", "wrapJump", "(DD)D"⟩ : MethodName) prog_28_method_7_code 6 (some .double) ({ frames := 1, cells := 0, slots := 0, locals := 13 } : Room) #[(.double a), (.double b)] [] h0 (fun v h D' => v = some (.double (own_wj i j)) ∧ h0 = h ∧ D' = []) := by
  refine Con.of_runs (ls := #[.val (.double a), .second, .val (.double b), .second, .unset, .unset]) (by decide +kernel) (fun m => rfl) ?_
  refine Runs.dloadN i2_0 rfl ?_
  refine Runs.callS (argsL := [(.double a)]) (rest := []) (W := 0) i2_1 (w12 hw) (w13 hw) (w10 hw) (w14 hw) (by decide) pd_0 rfl rfl rfl rfl (by decide) (by decide) (by decide) (by decide) all0 (own_fc l Z a0 hw n0 a i Qa _) ?_
  intro v h1 D1 q hsz
  obtain ⟨rfl, rfl, rfl⟩ := q
  show Runs _ _ _ _ _ _ _ _ _ _ _ _ [] h0 0 0 4 #[.val (.double a), .second, .val (.double b), .second, .unset, .unset] [(.int (own_fit i))]
  rcases own_fit2 i with ⟨e_1, b_2⟩ | ⟨e_1, b_2⟩
  · rw [e_1]
    refine Runs.ifN i2_4 (feq (by decide : ¬ ((1 : Int32) = (0 : Int32)))).1 ?_
    refine Runs.dloadN i2_7 rfl ?_
    refine Runs.callS (argsL := [(.double b)]) (rest := []) (W := 0) i2_8 (w12 hw) (w13 hw) (w10 hw) (w14 hw) (by decide) pd_0 rfl rfl rfl rfl (by decide) (by decide) (by decide) (by decide) all0 (own_fc l Z a0 hw n0 b j Qb _) ?_
    intro v h1 D1 q hsz
    obtain ⟨rfl, rfl, rfl⟩ := q
    show Runs _ _ _ _ _ _ _ _ _ _ _ _ [] h0 0 0 11 #[.val (.double a), .second, .val (.double b), .second, .unset, .unset] [(.int (own_fit j))]
    rcases own_fit2 j with ⟨e_3, b_4⟩ | ⟨e_3, b_4⟩
    · rw [e_3]
      refine Runs.ifY (t := 16) i2_11 (by decide) (feq (by decide : ¬ ((1 : Int32) = (0 : Int32)))).2 ?_
      refine Runs.dloadN i2_16 rfl ?_
      refine Runs.dloadN i2_17 rfl ?_
      obtain ⟨d_5, hd_5⟩ : ∃ z : UInt64, FP.dsub b a = z := ⟨_, rfl⟩
      have Qd_5 : own_Q (j - i) d_5 := hd_5 ▸ own_qsub Qb Qa (by omega)
      refine Runs.dsub i2_18 (by rw [hd_5]; exact own_nn Qd_5) hd_5 ?_
      refine Runs.dstore (ls' := #[.val (.double a), .second, .val (.double b), .second, .val (.double d_5), .second]) i2_19 rfl ?_
      refine Runs.dload i2_21 rfl ?_
      refine Runs.ldcD i2_23 (w17 hw) ?_
      rcases Int.lt_trichotomy (j - i) 8589934592 with h_6 | h_6 | h_6
      · refine Runs.dcmp (z := (-1 : Int32)) i2_26 ((own_dc Qd_5 own_Q3).1 h_6) ?_
        refine Runs.ifY (t := 34) i2_27 (by decide) (tlt (by decide : (-1 : Int32) < (0 : Int32))).1 ?_
        refine Runs.dload i2_34 rfl ?_
        refine Runs.ldcD i2_36 (w15 hw) ?_
        rcases Int.lt_trichotomy (j - i) (-8589934592) with h_7 | h_7 | h_7
        · refine Runs.dcmp (z := (-1 : Int32)) i2_39 ((own_dc Qd_5 own_Q1).1 h_7) ?_
          refine Runs.ifN i2_40 (tlt (by decide : (-1 : Int32) < (0 : Int32))).2.1 ?_
          refine Runs.ldcD i2_43 (w19 hw) ?_
          exact Runs.retD i2_46 rfl (by decide) (by decide) ⟨by rw [own_wj2 (by omega) (by omega)], rfl, rfl⟩
        · refine Runs.dcmp (z := (0 : Int32)) i2_39 ((own_dc Qd_5 own_Q1).2.1 h_7) ?_
          refine Runs.ifY (t := 47) i2_40 (by decide) (flt (by decide : ¬ ((0 : Int32) < (0 : Int32)))).2.1 ?_
          refine Runs.dconst0 (v := (0 : UInt64)) i2_47 rfl ?_
          exact Runs.retD i2_48 rfl (by decide) (by decide) ⟨by rw [own_wj3 (by omega) (by omega)], rfl, rfl⟩
        · refine Runs.dcmp (z := (1 : Int32)) i2_39 ((own_dc Qd_5 own_Q1).2.2 h_7) ?_
          refine Runs.ifY (t := 47) i2_40 (by decide) (flt (by decide : ¬ ((1 : Int32) < (0 : Int32)))).2.1 ?_
          refine Runs.dconst0 (v := (0 : UInt64)) i2_47 rfl ?_
          exact Runs.retD i2_48 rfl (by decide) (by decide) ⟨by rw [own_wj3 (by omega) (by omega)], rfl, rfl⟩
      · refine Runs.dcmp (z := (0 : Int32)) i2_26 ((own_dc Qd_5 own_Q3).2.1 h_6) ?_
        refine Runs.ifN i2_27 (flt (by decide : ¬ ((0 : Int32) < (0 : Int32)))).1 ?_
        refine Runs.ldcD i2_30 (w21 hw) ?_
        exact Runs.retD i2_33 rfl (by decide) (by decide) ⟨by rw [own_wj1 (by omega) (by omega)], rfl, rfl⟩
      · refine Runs.dcmp (z := (1 : Int32)) i2_26 ((own_dc Qd_5 own_Q3).2.2 h_6) ?_
        refine Runs.ifN i2_27 (flt (by decide : ¬ ((1 : Int32) < (0 : Int32)))).1 ?_
        refine Runs.ldcD i2_30 (w21 hw) ?_
        exact Runs.retD i2_33 rfl (by decide) (by decide) ⟨by rw [own_wj1 (by omega) (by omega)], rfl, rfl⟩
    · rw [e_3]
      refine Runs.ifN i2_11 (teq (by decide : (0 : Int32) = (0 : Int32))).2 ?_
      refine Runs.dconst0 (v := (0 : UInt64)) i2_14 rfl ?_
      exact Runs.retD i2_15 rfl (by decide) (by decide) ⟨by rw [own_wj0 (by omega)], rfl, rfl⟩
  · rw [e_1]
    refine Runs.ifY (t := 14) i2_4 (by decide) (teq (by decide : (0 : Int32) = (0 : Int32))).1 ?_
    refine Runs.dconst0 (v := (0 : UInt64)) i2_14 rfl ?_
    exact Runs.retD i2_15 rfl (by decide) (by decide) ⟨by rw [own_wj0 (by omega)], rfl, rfl⟩
set_option maxRecDepth 65536 in
set_option maxHeartbeats 4000000 in
theorem own_law (l : Launch) (Z : State) (a0 : Array Value) (hw : Wds Z a0) (n0 : Nat) (p0 p1 : Int64) (p2 : Int32) : Con false l Z [] n0 x code maxLocals ret room_1 #[(.long p0), (.long p1), (.int p2)] [] Z.heap (fun v h D' => v = some (.int 1)) := by
  refine Con.of_runs (ls := #[.val (.long p0), .second, .val (.long p1), .second, .val (.int p2), .unset, .unset, .unset, .unset, .unset, .unset, .unset, .unset, .unset, .unset, .unset, .unset, .unset, .unset]) (by decide +kernel) (fun m => by simp [entryFrame, mkF, argsToLocals, Value.category, maxLocals]) ?_
  refine Runs.bipush (v := (32 : Int32)) i0_0 (by decide) ?_
  refine Runs.iload i0_2 rfl ?_
  refine Runs.bipush (v := (15 : Int32)) i0_4 (by decide) ?_
  obtain ⟨x_1, hx_1⟩ : ∃ z : Int32, p2 &&& (15 : Int32) = z := ⟨_, rfl⟩
  refine Runs.iand i0_6 hx_1 ?_
  obtain ⟨x_2, hx_2⟩ : ∃ z : Int32, (32 : Int32) + x_1 = z := ⟨_, rfl⟩
  refine Runs.iadd i0_7 hx_2 ?_
  refine Runs.istore (ls' := #[.val (.long p0), .second, .val (.long p1), .second, .val (.int p2), .val (.int x_2), .unset, .unset, .unset, .unset, .unset, .unset, .unset, .unset, .unset, .unset, .unset, .unset, .unset]) i0_8 rfl ?_
  refine Runs.bipush (v := (32 : Int32)) i0_10 (by decide) ?_
  refine Runs.iload i0_12 rfl ?_
  refine Runs.iconst (v := (4 : Int32)) i0_14 (by decide) ?_
  obtain ⟨x_3, hx_3⟩ : ∃ z : Int32, Jvm.Free.XT.ushr p2 (4 : Int32) = z := ⟨_, rfl⟩
  refine Runs.iushr i0_15 hx_3 ?_
  refine Runs.bipush (v := (15 : Int32)) i0_16 (by decide) ?_
  obtain ⟨x_4, hx_4⟩ : ∃ z : Int32, x_3 &&& (15 : Int32) = z := ⟨_, rfl⟩
  refine Runs.iand i0_18 hx_4 ?_
  obtain ⟨x_5, hx_5⟩ : ∃ z : Int32, (32 : Int32) + x_4 = z := ⟨_, rfl⟩
  refine Runs.iadd i0_19 hx_5 ?_
  refine Runs.istore (ls' := #[.val (.long p0), .second, .val (.long p1), .second, .val (.int p2), .val (.int x_2), .val (.int x_5), .unset, .unset, .unset, .unset, .unset, .unset, .unset, .unset, .unset, .unset, .unset, .unset]) i0_20 rfl ?_
  refine Runs.lloadN i0_22 rfl ?_
  refine Runs.lconst (v := (1 : Int64)) i0_23 (by decide) ?_
  refine Runs.iload i0_24 rfl ?_
  obtain ⟨y_6, hy_6⟩ : ∃ z : Int64, (1 : Int64) <<< (Int32.toInt64 x_2 &&& 63) = z := ⟨_, rfl⟩
  refine Runs.lshl i0_26 hy_6 ?_
  obtain ⟨y_7, hy_7⟩ : ∃ z : Int64, p0 % y_6 = z := ⟨_, rfl⟩
  have By_7 := own_rm (own_ks hx_1 hx_2 hy_6) hy_7
  refine Runs.lrem i0_27 (own_ks hx_1 hx_2 hy_6).1 hy_7 ?_
  refine Runs.lstore (ls' := #[.val (.long p0), .second, .val (.long p1), .second, .val (.int p2), .val (.int x_2), .val (.int x_5), .val (.long y_7), .second, .unset, .unset, .unset, .unset, .unset, .unset, .unset, .unset, .unset, .unset]) i0_28 rfl ?_
  refine Runs.lloadN i0_30 rfl ?_
  refine Runs.lconst (v := (1 : Int64)) i0_31 (by decide) ?_
  refine Runs.iload i0_32 rfl ?_
  obtain ⟨y_8, hy_8⟩ : ∃ z : Int64, (1 : Int64) <<< (Int32.toInt64 x_5 &&& 63) = z := ⟨_, rfl⟩
  refine Runs.lshl i0_34 hy_8 ?_
  obtain ⟨y_9, hy_9⟩ : ∃ z : Int64, p1 % y_8 = z := ⟨_, rfl⟩
  have By_9 := own_rm (own_ks hx_4 hx_5 hy_8) hy_9
  refine Runs.lrem i0_35 (own_ks hx_4 hx_5 hy_8).1 hy_9 ?_
  refine Runs.lstore (ls' := #[.val (.long p0), .second, .val (.long p1), .second, .val (.int p2), .val (.int x_2), .val (.int x_5), .val (.long y_7), .second, .val (.long y_9), .second, .unset, .unset, .unset, .unset, .unset, .unset, .unset, .unset]) i0_36 rfl ?_
  refine Runs.lload i0_38 rfl ?_
  refine Runs.l2d (z := FP.l2d y_7) i0_40 rfl ?_
  refine Runs.ldcD i0_41 (w0 hw) ?_
  obtain ⟨d_10, hd_10⟩ : ∃ z : UInt64, FP.ddiv (FP.l2d y_7) (4616189618054758400 : UInt64) = z := ⟨_, rfl⟩
  have Qd_10 : own_Q (Int64.toInt y_7) d_10 := hd_10 ▸ own_qdiv (Nat.le_of_lt (Nat.lt_of_lt_of_le By_7 (by decide)))
  refine Runs.ddiv i0_44 (by rw [hd_10]; exact own_nn Qd_10) hd_10 ?_
  refine Runs.dstore (ls' := #[.val (.long p0), .second, .val (.long p1), .second, .val (.int p2), .val (.int x_2), .val (.int x_5), .val (.long y_7), .second, .val (.long y_9), .second, .val (.double d_10), .second, .unset, .unset, .unset, .unset, .unset, .unset]) i0_45 rfl ?_
  refine Runs.lload i0_47 rfl ?_
  refine Runs.l2d (z := FP.l2d y_9) i0_49 rfl ?_
  refine Runs.ldcD i0_50 (w0 hw) ?_
  obtain ⟨d_11, hd_11⟩ : ∃ z : UInt64, FP.ddiv (FP.l2d y_9) (4616189618054758400 : UInt64) = z := ⟨_, rfl⟩
  have Qd_11 : own_Q (Int64.toInt y_9) d_11 := hd_11 ▸ own_qdiv (Nat.le_of_lt (Nat.lt_of_lt_of_le By_9 (by decide)))
  refine Runs.ddiv i0_53 (by rw [hd_11]; exact own_nn Qd_11) hd_11 ?_
  refine Runs.dstore (ls' := #[.val (.long p0), .second, .val (.long p1), .second, .val (.int p2), .val (.int x_2), .val (.int x_5), .val (.long y_7), .second, .val (.long y_9), .second, .val (.double d_10), .second, .val (.double d_11), .second, .unset, .unset, .unset, .unset]) i0_54 rfl ?_
  refine Runs.lload i0_56 rfl ?_
  refine Runs.callS (argsL := [(.long y_7)]) (rest := []) (W := 0) i0_58 (w1 hw) (w2 hw) (w3 hw) (w4 hw) (by decide) pd_1 rfl rfl rfl rfl (by decide) (by decide) (by decide) (by decide) all0 (own_fi l Z a0 hw n0 y_7 _) ?_
  intro v h1 D1 q hsz
  obtain ⟨rfl, rfl, rfl⟩ := q
  show Runs _ _ _ _ _ _ _ _ _ _ _ _ [] Z.heap 0 0 61 #[.val (.long p0), .second, .val (.long p1), .second, .val (.int p2), .val (.int x_2), .val (.int x_5), .val (.long y_7), .second, .val (.long y_9), .second, .val (.double d_10), .second, .val (.double d_11), .second, .unset, .unset, .unset, .unset] [(.int (own_fit (Int64.toInt y_7)))]
  rcases own_fit2 (Int64.toInt y_7) with ⟨e_12, b_13⟩ | ⟨e_12, b_13⟩
  · rw [e_12]
    refine Runs.ifN i0_61 (feq (by decide : ¬ ((1 : Int32) = (0 : Int32)))).1 ?_
    refine Runs.lload i0_64 rfl ?_
    refine Runs.callS (argsL := [(.long y_9)]) (rest := []) (W := 0) i0_66 (w1 hw) (w2 hw) (w3 hw) (w4 hw) (by decide) pd_1 rfl rfl rfl rfl (by decide) (by decide) (by decide) (by decide) all0 (own_fi l Z a0 hw n0 y_9 _) ?_
    intro v h1 D1 q hsz
    obtain ⟨rfl, rfl, rfl⟩ := q
    show Runs _ _ _ _ _ _ _ _ _ _ _ _ [] Z.heap 0 0 69 #[.val (.long p0), .second, .val (.long p1), .second, .val (.int p2), .val (.int x_2), .val (.int x_5), .val (.long y_7), .second, .val (.long y_9), .second, .val (.double d_10), .second, .val (.double d_11), .second, .unset, .unset, .unset, .unset] [(.int (own_fit (Int64.toInt y_9)))]
    rcases own_fit2 (Int64.toInt y_9) with ⟨e_14, b_15⟩ | ⟨e_14, b_15⟩
    · rw [e_14]
      refine Runs.ifY (t := 78) i0_69 (by decide) (feq (by decide : ¬ ((1 : Int32) = (0 : Int32)))).2 ?_
      refine Runs.lload i0_78 rfl ?_
      refine Runs.lload i0_80 rfl ?_
      obtain ⟨y_16, hy_16⟩ : ∃ z : Int64, y_9 - y_7 = z := ⟨_, rfl⟩
      have Ey_16 := own_sb By_7 By_9 hy_16
      refine Runs.lsub i0_82 hy_16 ?_
      refine Runs.lstore (ls' := #[.val (.long p0), .second, .val (.long p1), .second, .val (.int p2), .val (.int x_2), .val (.int x_5), .val (.long y_7), .second, .val (.long y_9), .second, .val (.double d_10), .second, .val (.double d_11), .second, .unset, .unset, .val (.long y_16), .second]) i0_83 rfl ?_
      refine Runs.lload i0_85 rfl ?_
      refine Runs.ldcJ i0_87 (w7 hw) ?_
      rcases Int.lt_trichotomy (Int64.toInt y_16) 8589934592 with h_17 | h_17 | h_17
      · refine Runs.lcmp (z := (-1 : Int32)) i0_90 ((own_lc (x := y_16) (y := (8589934592 : Int64)) (d := 8589934592) (by decide)).1 h_17) ?_
        refine Runs.ifY (t := 102) i0_91 (by decide) (tlt (by decide : (-1 : Int32) < (0 : Int32))).1 ?_
        refine Runs.lload i0_102 rfl ?_
        refine Runs.ldcJ i0_104 (w5 hw) ?_
        rcases Int.lt_trichotomy (Int64.toInt y_16) (-8589934592) with h_18 | h_18 | h_18
        · refine Runs.lcmp (z := (-1 : Int32)) i0_107 ((own_lc (x := y_16) (y := (-8589934592 : Int64)) (d := (-8589934592)) (by decide)).1 h_18) ?_
          refine Runs.ifN i0_108 (tlt (by decide : (-1 : Int32) < (0 : Int32))).2.1 ?_
          refine Runs.ldcD i0_111 (w18 hw) ?_
          refine Runs.dstore (ls' := #[.val (.long p0), .second, .val (.long p1), .second, .val (.int p2), .val (.int x_2), .val (.int x_5), .val (.long y_7), .second, .val (.long y_9), .second, .val (.double d_10), .second, .val (.double d_11), .second, .val (.double (13974669643730649088 : UInt64)), .second, .val (.long y_16), .second]) i0_114 rfl ?_
          refine Runs.goto (t := 122) i0_116 (by decide) ?_
          refine Runs.dload i0_122 rfl ?_
          refine Runs.dload i0_124 rfl ?_
          refine Runs.callS (argsL := [(.double d_10), (.double d_11)]) (rest := []) (W := 0) i0_126 (w8 hw) (w9 hw) (w10 hw) (w11 hw) (by decide) pd_2 rfl rfl rfl rfl (by decide) (by decide) (by decide) (by decide) all0 (own_wr l Z a0 hw n0 d_10 d_11 (Int64.toInt y_7) (Int64.toInt y_9) Qd_10 Qd_11 By_7 By_9 _) ?_
          intro v h1 D1 q hsz
          obtain ⟨rfl, rfl, rfl⟩ := q
          show Runs _ _ _ _ _ _ _ _ _ _ _ _ [] Z.heap 0 0 129 #[.val (.long p0), .second, .val (.long p1), .second, .val (.int p2), .val (.int x_2), .val (.int x_5), .val (.long y_7), .second, .val (.long y_9), .second, .val (.double d_10), .second, .val (.double d_11), .second, .val (.double (13974669643730649088 : UInt64)), .second, .val (.long y_16), .second] [(.double (own_wj (Int64.toInt y_7) (Int64.toInt y_9)))]
          rw [show own_wj (Int64.toInt y_7) (Int64.toInt y_9) = (13974669643730649088 : UInt64) from own_wj2 (by omega) (by omega)]
          refine Runs.dstore (ls' := #[.val (.long p0), .second, .val (.long p1), .second, .val (.int p2), .val (.int x_2), .val (.int x_5), .val (.long y_7), .second, .val (.long y_9), .second, .val (.double d_10), .second, .val (.double d_11), .second, .val (.double (13974669643730649088 : UInt64)), .second, .val (.double (13974669643730649088 : UInt64)), .second]) i0_129 rfl ?_
          refine Runs.dload i0_131 rfl ?_
          refine Runs.dload i0_133 rfl ?_
          refine Runs.dcmp (z := (0 : Int32)) i0_135 (by decide +kernel) ?_
          refine Runs.ifN i0_136 (teq (by decide : (0 : Int32) = (0 : Int32))).2 ?_
          refine Runs.iconst (v := (1 : Int32)) i0_139 (by decide) ?_
          refine Runs.goto (t := 144) i0_140 (by decide) ?_
          exact Runs.retI (z := (1 : Int32)) i0_144 rfl (Or.inr (Or.inl rfl)) (by decide) (by decide) (by decide) rfl
        · refine Runs.lcmp (z := (0 : Int32)) i0_107 ((own_lc (x := y_16) (y := (-8589934592 : Int64)) (d := (-8589934592)) (by decide)).2.1 h_18) ?_
          refine Runs.ifY (t := 119) i0_108 (by decide) (flt (by decide : ¬ ((0 : Int32) < (0 : Int32)))).2.1 ?_
          refine Runs.dconst0 (v := (0 : UInt64)) i0_119 rfl ?_
          refine Runs.dstore (ls' := #[.val (.long p0), .second, .val (.long p1), .second, .val (.int p2), .val (.int x_2), .val (.int x_5), .val (.long y_7), .second, .val (.long y_9), .second, .val (.double d_10), .second, .val (.double d_11), .second, .val (.double (0 : UInt64)), .second, .val (.long y_16), .second]) i0_120 rfl ?_
          refine Runs.dload i0_122 rfl ?_
          refine Runs.dload i0_124 rfl ?_
          refine Runs.callS (argsL := [(.double d_10), (.double d_11)]) (rest := []) (W := 0) i0_126 (w8 hw) (w9 hw) (w10 hw) (w11 hw) (by decide) pd_2 rfl rfl rfl rfl (by decide) (by decide) (by decide) (by decide) all0 (own_wr l Z a0 hw n0 d_10 d_11 (Int64.toInt y_7) (Int64.toInt y_9) Qd_10 Qd_11 By_7 By_9 _) ?_
          intro v h1 D1 q hsz
          obtain ⟨rfl, rfl, rfl⟩ := q
          show Runs _ _ _ _ _ _ _ _ _ _ _ _ [] Z.heap 0 0 129 #[.val (.long p0), .second, .val (.long p1), .second, .val (.int p2), .val (.int x_2), .val (.int x_5), .val (.long y_7), .second, .val (.long y_9), .second, .val (.double d_10), .second, .val (.double d_11), .second, .val (.double (0 : UInt64)), .second, .val (.long y_16), .second] [(.double (own_wj (Int64.toInt y_7) (Int64.toInt y_9)))]
          rw [show own_wj (Int64.toInt y_7) (Int64.toInt y_9) = (0 : UInt64) from by first | exact own_wj0 (by omega) | exact own_wj3 (by omega) (by omega)]
          refine Runs.dstore (ls' := #[.val (.long p0), .second, .val (.long p1), .second, .val (.int p2), .val (.int x_2), .val (.int x_5), .val (.long y_7), .second, .val (.long y_9), .second, .val (.double d_10), .second, .val (.double d_11), .second, .val (.double (0 : UInt64)), .second, .val (.double (0 : UInt64)), .second]) i0_129 rfl ?_
          refine Runs.dload i0_131 rfl ?_
          refine Runs.dload i0_133 rfl ?_
          refine Runs.dcmp (z := (0 : Int32)) i0_135 (by decide +kernel) ?_
          refine Runs.ifN i0_136 (teq (by decide : (0 : Int32) = (0 : Int32))).2 ?_
          refine Runs.iconst (v := (1 : Int32)) i0_139 (by decide) ?_
          refine Runs.goto (t := 144) i0_140 (by decide) ?_
          exact Runs.retI (z := (1 : Int32)) i0_144 rfl (Or.inr (Or.inl rfl)) (by decide) (by decide) (by decide) rfl
        · refine Runs.lcmp (z := (1 : Int32)) i0_107 ((own_lc (x := y_16) (y := (-8589934592 : Int64)) (d := (-8589934592)) (by decide)).2.2 h_18) ?_
          refine Runs.ifY (t := 119) i0_108 (by decide) (flt (by decide : ¬ ((1 : Int32) < (0 : Int32)))).2.1 ?_
          refine Runs.dconst0 (v := (0 : UInt64)) i0_119 rfl ?_
          refine Runs.dstore (ls' := #[.val (.long p0), .second, .val (.long p1), .second, .val (.int p2), .val (.int x_2), .val (.int x_5), .val (.long y_7), .second, .val (.long y_9), .second, .val (.double d_10), .second, .val (.double d_11), .second, .val (.double (0 : UInt64)), .second, .val (.long y_16), .second]) i0_120 rfl ?_
          refine Runs.dload i0_122 rfl ?_
          refine Runs.dload i0_124 rfl ?_
          refine Runs.callS (argsL := [(.double d_10), (.double d_11)]) (rest := []) (W := 0) i0_126 (w8 hw) (w9 hw) (w10 hw) (w11 hw) (by decide) pd_2 rfl rfl rfl rfl (by decide) (by decide) (by decide) (by decide) all0 (own_wr l Z a0 hw n0 d_10 d_11 (Int64.toInt y_7) (Int64.toInt y_9) Qd_10 Qd_11 By_7 By_9 _) ?_
          intro v h1 D1 q hsz
          obtain ⟨rfl, rfl, rfl⟩ := q
          show Runs _ _ _ _ _ _ _ _ _ _ _ _ [] Z.heap 0 0 129 #[.val (.long p0), .second, .val (.long p1), .second, .val (.int p2), .val (.int x_2), .val (.int x_5), .val (.long y_7), .second, .val (.long y_9), .second, .val (.double d_10), .second, .val (.double d_11), .second, .val (.double (0 : UInt64)), .second, .val (.long y_16), .second] [(.double (own_wj (Int64.toInt y_7) (Int64.toInt y_9)))]
          rw [show own_wj (Int64.toInt y_7) (Int64.toInt y_9) = (0 : UInt64) from by first | exact own_wj0 (by omega) | exact own_wj3 (by omega) (by omega)]
          refine Runs.dstore (ls' := #[.val (.long p0), .second, .val (.long p1), .second, .val (.int p2), .val (.int x_2), .val (.int x_5), .val (.long y_7), .second, .val (.long y_9), .second, .val (.double d_10), .second, .val (.double d_11), .second, .val (.double (0 : UInt64)), .second, .val (.double (0 : UInt64)), .second]) i0_129 rfl ?_
          refine Runs.dload i0_131 rfl ?_
          refine Runs.dload i0_133 rfl ?_
          refine Runs.dcmp (z := (0 : Int32)) i0_135 (by decide +kernel) ?_
          refine Runs.ifN i0_136 (teq (by decide : (0 : Int32) = (0 : Int32))).2 ?_
          refine Runs.iconst (v := (1 : Int32)) i0_139 (by decide) ?_
          refine Runs.goto (t := 144) i0_140 (by decide) ?_
          exact Runs.retI (z := (1 : Int32)) i0_144 rfl (Or.inr (Or.inl rfl)) (by decide) (by decide) (by decide) rfl
      · refine Runs.lcmp (z := (0 : Int32)) i0_90 ((own_lc (x := y_16) (y := (8589934592 : Int64)) (d := 8589934592) (by decide)).2.1 h_17) ?_
        refine Runs.ifN i0_91 (flt (by decide : ¬ ((0 : Int32) < (0 : Int32)))).1 ?_
        refine Runs.ldcD i0_94 (w20 hw) ?_
        refine Runs.dstore (ls' := #[.val (.long p0), .second, .val (.long p1), .second, .val (.int p2), .val (.int x_2), .val (.int x_5), .val (.long y_7), .second, .val (.long y_9), .second, .val (.double d_10), .second, .val (.double d_11), .second, .val (.double (4751297606875873280 : UInt64)), .second, .val (.long y_16), .second]) i0_97 rfl ?_
        refine Runs.goto (t := 122) i0_99 (by decide) ?_
        refine Runs.dload i0_122 rfl ?_
        refine Runs.dload i0_124 rfl ?_
        refine Runs.callS (argsL := [(.double d_10), (.double d_11)]) (rest := []) (W := 0) i0_126 (w8 hw) (w9 hw) (w10 hw) (w11 hw) (by decide) pd_2 rfl rfl rfl rfl (by decide) (by decide) (by decide) (by decide) all0 (own_wr l Z a0 hw n0 d_10 d_11 (Int64.toInt y_7) (Int64.toInt y_9) Qd_10 Qd_11 By_7 By_9 _) ?_
        intro v h1 D1 q hsz
        obtain ⟨rfl, rfl, rfl⟩ := q
        show Runs _ _ _ _ _ _ _ _ _ _ _ _ [] Z.heap 0 0 129 #[.val (.long p0), .second, .val (.long p1), .second, .val (.int p2), .val (.int x_2), .val (.int x_5), .val (.long y_7), .second, .val (.long y_9), .second, .val (.double d_10), .second, .val (.double d_11), .second, .val (.double (4751297606875873280 : UInt64)), .second, .val (.long y_16), .second] [(.double (own_wj (Int64.toInt y_7) (Int64.toInt y_9)))]
        rw [show own_wj (Int64.toInt y_7) (Int64.toInt y_9) = (4751297606875873280 : UInt64) from own_wj1 (by omega) (by omega)]
        refine Runs.dstore (ls' := #[.val (.long p0), .second, .val (.long p1), .second, .val (.int p2), .val (.int x_2), .val (.int x_5), .val (.long y_7), .second, .val (.long y_9), .second, .val (.double d_10), .second, .val (.double d_11), .second, .val (.double (4751297606875873280 : UInt64)), .second, .val (.double (4751297606875873280 : UInt64)), .second]) i0_129 rfl ?_
        refine Runs.dload i0_131 rfl ?_
        refine Runs.dload i0_133 rfl ?_
        refine Runs.dcmp (z := (0 : Int32)) i0_135 (by decide +kernel) ?_
        refine Runs.ifN i0_136 (teq (by decide : (0 : Int32) = (0 : Int32))).2 ?_
        refine Runs.iconst (v := (1 : Int32)) i0_139 (by decide) ?_
        refine Runs.goto (t := 144) i0_140 (by decide) ?_
        exact Runs.retI (z := (1 : Int32)) i0_144 rfl (Or.inr (Or.inl rfl)) (by decide) (by decide) (by decide) rfl
      · refine Runs.lcmp (z := (1 : Int32)) i0_90 ((own_lc (x := y_16) (y := (8589934592 : Int64)) (d := 8589934592) (by decide)).2.2 h_17) ?_
        refine Runs.ifN i0_91 (flt (by decide : ¬ ((1 : Int32) < (0 : Int32)))).1 ?_
        refine Runs.ldcD i0_94 (w20 hw) ?_
        refine Runs.dstore (ls' := #[.val (.long p0), .second, .val (.long p1), .second, .val (.int p2), .val (.int x_2), .val (.int x_5), .val (.long y_7), .second, .val (.long y_9), .second, .val (.double d_10), .second, .val (.double d_11), .second, .val (.double (4751297606875873280 : UInt64)), .second, .val (.long y_16), .second]) i0_97 rfl ?_
        refine Runs.goto (t := 122) i0_99 (by decide) ?_
        refine Runs.dload i0_122 rfl ?_
        refine Runs.dload i0_124 rfl ?_
        refine Runs.callS (argsL := [(.double d_10), (.double d_11)]) (rest := []) (W := 0) i0_126 (w8 hw) (w9 hw) (w10 hw) (w11 hw) (by decide) pd_2 rfl rfl rfl rfl (by decide) (by decide) (by decide) (by decide) all0 (own_wr l Z a0 hw n0 d_10 d_11 (Int64.toInt y_7) (Int64.toInt y_9) Qd_10 Qd_11 By_7 By_9 _) ?_
        intro v h1 D1 q hsz
        obtain ⟨rfl, rfl, rfl⟩ := q
        show Runs _ _ _ _ _ _ _ _ _ _ _ _ [] Z.heap 0 0 129 #[.val (.long p0), .second, .val (.long p1), .second, .val (.int p2), .val (.int x_2), .val (.int x_5), .val (.long y_7), .second, .val (.long y_9), .second, .val (.double d_10), .second, .val (.double d_11), .second, .val (.double (4751297606875873280 : UInt64)), .second, .val (.long y_16), .second] [(.double (own_wj (Int64.toInt y_7) (Int64.toInt y_9)))]
        rw [show own_wj (Int64.toInt y_7) (Int64.toInt y_9) = (4751297606875873280 : UInt64) from own_wj1 (by omega) (by omega)]
        refine Runs.dstore (ls' := #[.val (.long p0), .second, .val (.long p1), .second, .val (.int p2), .val (.int x_2), .val (.int x_5), .val (.long y_7), .second, .val (.long y_9), .second, .val (.double d_10), .second, .val (.double d_11), .second, .val (.double (4751297606875873280 : UInt64)), .second, .val (.double (4751297606875873280 : UInt64)), .second]) i0_129 rfl ?_
        refine Runs.dload i0_131 rfl ?_
        refine Runs.dload i0_133 rfl ?_
        refine Runs.dcmp (z := (0 : Int32)) i0_135 (by decide +kernel) ?_
        refine Runs.ifN i0_136 (teq (by decide : (0 : Int32) = (0 : Int32))).2 ?_
        refine Runs.iconst (v := (1 : Int32)) i0_139 (by decide) ?_
        refine Runs.goto (t := 144) i0_140 (by decide) ?_
        exact Runs.retI (z := (1 : Int32)) i0_144 rfl (Or.inr (Or.inl rfl)) (by decide) (by decide) (by decide) rfl
    · rw [e_14]
      refine Runs.ifN i0_69 (teq (by decide : (0 : Int32) = (0 : Int32))).2 ?_
      refine Runs.dconst0 (v := (0 : UInt64)) i0_72 rfl ?_
      refine Runs.dstore (ls' := #[.val (.long p0), .second, .val (.long p1), .second, .val (.int p2), .val (.int x_2), .val (.int x_5), .val (.long y_7), .second, .val (.long y_9), .second, .val (.double d_10), .second, .val (.double d_11), .second, .val (.double (0 : UInt64)), .second, .unset, .unset]) i0_73 rfl ?_
      refine Runs.goto (t := 122) i0_75 (by decide) ?_
      refine Runs.dload i0_122 rfl ?_
      refine Runs.dload i0_124 rfl ?_
      refine Runs.callS (argsL := [(.double d_10), (.double d_11)]) (rest := []) (W := 0) i0_126 (w8 hw) (w9 hw) (w10 hw) (w11 hw) (by decide) pd_2 rfl rfl rfl rfl (by decide) (by decide) (by decide) (by decide) all0 (own_wr l Z a0 hw n0 d_10 d_11 (Int64.toInt y_7) (Int64.toInt y_9) Qd_10 Qd_11 By_7 By_9 _) ?_
      intro v h1 D1 q hsz
      obtain ⟨rfl, rfl, rfl⟩ := q
      show Runs _ _ _ _ _ _ _ _ _ _ _ _ [] Z.heap 0 0 129 #[.val (.long p0), .second, .val (.long p1), .second, .val (.int p2), .val (.int x_2), .val (.int x_5), .val (.long y_7), .second, .val (.long y_9), .second, .val (.double d_10), .second, .val (.double d_11), .second, .val (.double (0 : UInt64)), .second, .unset, .unset] [(.double (own_wj (Int64.toInt y_7) (Int64.toInt y_9)))]
      rw [show own_wj (Int64.toInt y_7) (Int64.toInt y_9) = (0 : UInt64) from by first | exact own_wj0 (by omega) | exact own_wj3 (by omega) (by omega)]
      refine Runs.dstore (ls' := #[.val (.long p0), .second, .val (.long p1), .second, .val (.int p2), .val (.int x_2), .val (.int x_5), .val (.long y_7), .second, .val (.long y_9), .second, .val (.double d_10), .second, .val (.double d_11), .second, .val (.double (0 : UInt64)), .second, .val (.double (0 : UInt64)), .second]) i0_129 rfl ?_
      refine Runs.dload i0_131 rfl ?_
      refine Runs.dload i0_133 rfl ?_
      refine Runs.dcmp (z := (0 : Int32)) i0_135 (by decide +kernel) ?_
      refine Runs.ifN i0_136 (teq (by decide : (0 : Int32) = (0 : Int32))).2 ?_
      refine Runs.iconst (v := (1 : Int32)) i0_139 (by decide) ?_
      refine Runs.goto (t := 144) i0_140 (by decide) ?_
      exact Runs.retI (z := (1 : Int32)) i0_144 rfl (Or.inr (Or.inl rfl)) (by decide) (by decide) (by decide) rfl
  · rw [e_12]
    refine Runs.ifY (t := 72) i0_61 (by decide) (teq (by decide : (0 : Int32) = (0 : Int32))).1 ?_
    refine Runs.dconst0 (v := (0 : UInt64)) i0_72 rfl ?_
    refine Runs.dstore (ls' := #[.val (.long p0), .second, .val (.long p1), .second, .val (.int p2), .val (.int x_2), .val (.int x_5), .val (.long y_7), .second, .val (.long y_9), .second, .val (.double d_10), .second, .val (.double d_11), .second, .val (.double (0 : UInt64)), .second, .unset, .unset]) i0_73 rfl ?_
    refine Runs.goto (t := 122) i0_75 (by decide) ?_
    refine Runs.dload i0_122 rfl ?_
    refine Runs.dload i0_124 rfl ?_
    refine Runs.callS (argsL := [(.double d_10), (.double d_11)]) (rest := []) (W := 0) i0_126 (w8 hw) (w9 hw) (w10 hw) (w11 hw) (by decide) pd_2 rfl rfl rfl rfl (by decide) (by decide) (by decide) (by decide) all0 (own_wr l Z a0 hw n0 d_10 d_11 (Int64.toInt y_7) (Int64.toInt y_9) Qd_10 Qd_11 By_7 By_9 _) ?_
    intro v h1 D1 q hsz
    obtain ⟨rfl, rfl, rfl⟩ := q
    show Runs _ _ _ _ _ _ _ _ _ _ _ _ [] Z.heap 0 0 129 #[.val (.long p0), .second, .val (.long p1), .second, .val (.int p2), .val (.int x_2), .val (.int x_5), .val (.long y_7), .second, .val (.long y_9), .second, .val (.double d_10), .second, .val (.double d_11), .second, .val (.double (0 : UInt64)), .second, .unset, .unset] [(.double (own_wj (Int64.toInt y_7) (Int64.toInt y_9)))]
    rw [show own_wj (Int64.toInt y_7) (Int64.toInt y_9) = (0 : UInt64) from by first | exact own_wj0 (by omega) | exact own_wj3 (by omega) (by omega)]
    refine Runs.dstore (ls' := #[.val (.long p0), .second, .val (.long p1), .second, .val (.int p2), .val (.int x_2), .val (.int x_5), .val (.long y_7), .second, .val (.long y_9), .second, .val (.double d_10), .second, .val (.double d_11), .second, .val (.double (0 : UInt64)), .second, .val (.double (0 : UInt64)), .second]) i0_129 rfl ?_
    refine Runs.dload i0_131 rfl ?_
    refine Runs.dload i0_133 rfl ?_
    refine Runs.dcmp (z := (0 : Int32)) i0_135 (by decide +kernel) ?_
    refine Runs.ifN i0_136 (teq (by decide : (0 : Int32) = (0 : Int32))).2 ?_
    refine Runs.iconst (v := (1 : Int32)) i0_139 (by decide) ?_
    refine Runs.goto (t := 144) i0_140 (by decide) ?_
    exact Runs.retI (z := (1 : Int32)) i0_144 rfl (Or.inr (Or.inl rfl)) (by decide) (by decide) (by decide) rfl
set_option maxRecDepth 65536 in
set_option maxHeartbeats 40000000 in
theorem comes_1 {Post : Tables → Env → Array Value → State → Outcome → State → Prop} (hpost : ∀ tb e args s v u, (limb_1_1.after args s (.returned v) u = true ∧ limb_1_2.after args s (.returned v) u = true ∧ True) → FrameEnd s (.returned v) u (Jvm.fieldLocs frame_1_writes args s ++ Jvm.arrayLocs frame_1_arrays args s ++ Jvm.staticLocs frame_1_statics s) 0 0 → Post tb e args s (.returned v) u) :
    ArmFor flags0 classFile x code maxLocals ret World_1 tables_1 room_1 Calls_1 rest_1 Pre_1 Post := by
  intro l hfl _ _ p e ha hc hk s m args below hf hA hF happ hP
  obtain ⟨hcalls, hrest, hpre⟩ := hP
  obtain ⟨-, -, -, hnamed, -, -, -, hat⟩ := (Spec.applies_iff hf).mp happ
  obtain ⟨hg, hn⟩ := and_e (Cond.before_iff.mp (show (Jvm.Cond.and given_1 narrow_1).before args s = true from hpre))
  obtain ⟨g1, g2⟩ := and_e hg
  obtain ⟨g3, g4⟩ := and_e g2
  obtain ⟨g5, g6⟩ := and_e g4
  obtain ⟨w0, w1, w2, rfl⟩ : ∃ w0 w1 w2 : Value, args = #[w0, w1, w2] := by
    have hs : args.size = 3 := by simpa [Cond.value, given_1] using g1
    obtain ⟨L⟩ := args
    match L, hs with
    | [w0, w1, w2], _ => exact ⟨w0, w1, w2, rfl⟩
  have hw : Wds s _ := fun d (hd : d ∈ tables_1) => atoms_spec (ws := Jvm.Cond.code x code maxLocals ret :: tables_1) hat d (List.mem_cons_of_mem _ hd)
  obtain ⟨i0, ei0⟩ := isL_v g3
  obtain rfl : w0 = (.long i0) := Option.some.inj ei0
  obtain ⟨i1, ei1⟩ := isL_v g5
  obtain rfl : w1 = (.long i1) := Option.some.inj ei1
  obtain ⟨i2, ei2⟩ := is_v g6
  obtain rfl : w2 = (.int i2) := Option.some.inj ei2
  obtain ⟨n, o, h1, h2, h3, v, L, D', rfl, rfl, -, N, -, hq⟩ := own_law l s _ hw s.heap.size i0 i1 i2 tables_1 p e ha hc hk s m _ below hf ((Spec.applies_iff_loose hf).mp happ).1 ⟨rfl, State.Warmed39.refl s, rfl, Old.start s, ⟨#[], EW.nil⟩, ch0, fun _ q => nomatch q⟩ trivial
  have hq : FrameEnd s _ _ L _ _ := hq
  refine ⟨n, _, h1, h2, h3, hpost _ _ _ _ _ _ ⟨Cond.after_iff.mpr rfl, Cond.after_iff.mpr (eq_i res_at (Term.int_eval (1)) rfl), trivial⟩ ⟨hq.1, hq.2.1, (hq.2.2.sift fun y hy => Or.inr (N y hy)).mono (by decide) (by decide)⟩⟩
theorem main_1_1 : Claimed_1_1 := comes_1 fun _ _ _ _ _ _ h hF => ⟨h.1, hF⟩
theorem main_1_2 : Claimed_1_2 := comes_1 fun _ _ _ _ _ _ h hF => ⟨h.2.1, hF⟩
end Jvm.Pilot.@@N@@
namespace Jvm.Pilot.@@N@@
open Jvm Jvm.ClassFile Sem Op Lib Jvm.Free Jvm.Stand Jvm.Pilot.@@N@@.Jvm.D
/-! MADE BY PROGRAM (witnessworld.py) out of the Statement's table words and the real class files: 9 classes; the members and pool entries that the words name. The judged class is class 1, her method 2. -/
namespace start1
open Jvm.ClassFile
def u (s : String) : CpInfo := .utf8 (stringToUtf16 s)
/-- a pool by its gaps: so many unusable entries, then the entry; so many at the end -/
def gap : Nat → List CpInfo → List CpInfo
  | 0, r => r
  | n + 1, r => .unusable :: gap n r
def poolList (es : List (Nat × CpInfo)) (last : Nat) : List CpInfo := es.foldr (fun e r => gap e.1 (e.2 :: r)) (gap last [])
def pool (es : List (Nat × CpInfo)) (last : Nat) : Array CpInfo := ⟨poolList es last⟩
def fileOf (pool : Array CpInfo) (this : Nat) (attrs : Array Attribute := #[]) (ms : Array MethodInfo := #[]) (fl : Nat := 33) (sup : Nat := 0) (ifs : Array Nat := #[]) (fds : Array FieldInfo := #[]) : ClassFile where
  minorVersion := 0
  majorVersion := 65
  constantPool := pool
  accessFlags := fl
  thisClass := this
  superClass := sup
  interfaces := ifs
  fields := fds
  methods := ms
  attributes := attrs
def plain (name : String) (sup : Option ClassId) : Class where
  name := name
  kind := .ordinary
  loader := none
  accessFlags := 33
  super := sup
  interfaces := #[]
  cf := none
  fields := #[]
  methods := #[]
  instanceTypes := #[]
  staticTypes := #[]
  resolved := #[]
  callSites := []
  init := .initialized
  statics := none
  mirror := none

def pool0 : Array CpInfo := pool [(5, u "<init>"), (0, u "()V"), (1, .class_ 10), (1, u "java/lang/Object")] 113

def k0m0 : Method := { name := "<init>", desc := "()V", sig := { parameters := [], returnType := none }, accessFlags := 1, code := none }
/-- java/lang/Object -/
def k0 : Class := { plain "java/lang/Object" none with
  accessFlags := 33
  interfaces := #[]
  cf := some (fileOf pool0 8 #[] #[{ accessFlags := 1, nameIndex := 5, descriptorIndex := 6, attributes := #[] }] 33 0 #[] #[])
  fields := #[]
  methods := #[k0m0]
  instanceTypes := #[]
  staticTypes := #[]
  resolved := Array.replicate 124 none
  statics := none }

def pool1 : Array CpInfo := pool [(2, .class_ 4), (1, u "java/lang/Object"), (0, u "<init>"), (0, u "()V"), (0, .class_ 8), (0, u "com/example/arcpose/arcpose/WheelWrapJumpPinLaw"), (0, .long 18446744065119617024), (1, .long 8589934588), (1, .double 4616189618054758400), (1, .methodref 7 16), (0, .nameAndType 17 18), (0, u "fits"), (0, u "(J)Z"), (0, .long 8589934592), (1, .double 4751297606875873280), (1, .double 13974669643730649088), (1, .methodref 26 27), (0, .class_ 28), (0, .nameAndType 29 30), (0, u "com/example/arcpose/arcpose/Wheel"), (0, u "wrapJump"), (0, u "(DD)D"), (0, u "LO"), (0, u "J"), (1, u "HI"), (3, u "law"), (0, u "(JJI)Z")] 2

def k1m0 : Method := { name := "<init>", desc := "()V", sig := { parameters := [], returnType := none }, accessFlags := 1, code := none }
def k1c1 : Code := { maxStack := 4, maxLocals := 2, code := method_2_code, exceptionTable := #[], attributes := #[] }
def k1m1 : Method := { name := "fits", desc := "(J)Z", sig := { parameters := [.long], returnType := some .boolean }, accessFlags := 10, code := some k1c1 }
def k1c2 : Code := { maxStack := 5, maxLocals := 19, code := code, exceptionTable := #[], attributes := #[] }
def k1m2 : Method := { name := "law", desc := "(JJI)Z", sig := { parameters := [.long, .long, .int], returnType := some .boolean }, accessFlags := 9, code := some k1c2 }
/-- com/example/arcpose/arcpose/WheelWrapJumpPinLaw -/
def k1 : Class := { plain "com/example/arcpose/arcpose/WheelWrapJumpPinLaw" (some 0) with
  accessFlags := 49
  interfaces := #[]
  cf := some (fileOf pool1 7 #[] #[{ accessFlags := 1, nameIndex := 5, descriptorIndex := 6, attributes := #[] }, { accessFlags := 10, nameIndex := 17, descriptorIndex := 18, attributes := #[] }, { accessFlags := 9, nameIndex := 38, descriptorIndex := 39, attributes := #[] }] 49 2 #[] #[{ accessFlags := 26, nameIndex := 31, descriptorIndex := 32, attributes := #[] }, { accessFlags := 26, nameIndex := 34, descriptorIndex := 32, attributes := #[] }])
  fields := #[{ name := "LO", type := .long, accessFlags := 26, slot := 0, constantValue := 0 }, { name := "HI", type := .long, accessFlags := 26, slot := 1, constantValue := 0 }]
  methods := #[k1m0, k1m1, k1m2]
  instanceTypes := #[]
  staticTypes := #[.long, .long]
  resolved := Array.replicate 42 none
  statics := none }

def pool2 : Array CpInfo := pool [(2, .class_ 4), (1, u "java/lang/Object"), (2, .class_ 8), (0, u "com/example/arcpose/arcpose/Wheel"), (1, u "offset"), (11, u "(D)Z"), (11, u "D"), (2, u "distancePerCount"), (8, u "decimalDistancePerCount"), (0, u "Ljava/math/BigDecimal;"), (32, .methodref 7 81), (0, .nameAndType 82 22), (0, u "fitsCounter"), (0, .double 4746794007248502784), (1, .double 4751297606875873280), (1, .double 13970166044103278592), (1, .double 13974669643730649088), (3, .double 4746794007244308480), (1, u "OFFSET"), (0, u "Ljava/lang/String;"), (1, u "DISTANCE_PER_COUNT"), (1, u "WHEEL_DIAMETER"), (0, u "COUNTS_PER_REVOLUTION"), (0, u "COUNTER_VALUES"), (0, u "COUNTER_HALF"), (11, u "wrapJump"), (0, u "(DD)D")] 17

def k2c0 : Code := { maxStack := 4, maxLocals := 6, code := prog_28_method_7_code, exceptionTable := #[], attributes := #[] }
def k2m0 : Method := { name := "wrapJump", desc := "(DD)D", sig := { parameters := [.double, .double], returnType := some .double }, accessFlags := 8, code := some k2c0 }
def k2c1 : Code := { maxStack := 4, maxLocals := 2, code := prog_28_method_8_code, exceptionTable := #[], attributes := #[] }
def k2m1 : Method := { name := "fitsCounter", desc := "(D)Z", sig := { parameters := [.double], returnType := some .boolean }, accessFlags := 10, code := some k2c1 }
/-- com/example/arcpose/arcpose/Wheel -/
def k2 : Class := { plain "com/example/arcpose/arcpose/Wheel" (some 0) with
  accessFlags := 49
  interfaces := #[]
  cf := some (fileOf pool2 7 #[] #[{ accessFlags := 8, nameIndex := 115, descriptorIndex := 116, attributes := #[] }, { accessFlags := 10, nameIndex := 82, descriptorIndex := 22, attributes := #[] }] 49 2 #[] #[{ accessFlags := 24, nameIndex := 95, descriptorIndex := 96, attributes := #[] }, { accessFlags := 24, nameIndex := 98, descriptorIndex := 96, attributes := #[] }, { accessFlags := 24, nameIndex := 100, descriptorIndex := 96, attributes := #[] }, { accessFlags := 24, nameIndex := 101, descriptorIndex := 96, attributes := #[] }, { accessFlags := 26, nameIndex := 102, descriptorIndex := 34, attributes := #[] }, { accessFlags := 26, nameIndex := 103, descriptorIndex := 34, attributes := #[] }, { accessFlags := 18, nameIndex := 10, descriptorIndex := 34, attributes := #[] }, { accessFlags := 18, nameIndex := 37, descriptorIndex := 34, attributes := #[] }, { accessFlags := 18, nameIndex := 46, descriptorIndex := 47, attributes := #[] }])
  fields := #[{ name := "OFFSET", type := (.object "java/lang/String"), accessFlags := 24, slot := 0, constantValue := 0 }, { name := "DISTANCE_PER_COUNT", type := (.object "java/lang/String"), accessFlags := 24, slot := 1, constantValue := 0 }, { name := "WHEEL_DIAMETER", type := (.object "java/lang/String"), accessFlags := 24, slot := 2, constantValue := 0 }, { name := "COUNTS_PER_REVOLUTION", type := (.object "java/lang/String"), accessFlags := 24, slot := 3, constantValue := 0 }, { name := "COUNTER_VALUES", type := .double, accessFlags := 26, slot := 4, constantValue := 0 }, { name := "COUNTER_HALF", type := .double, accessFlags := 26, slot := 5, constantValue := 0 }, { name := "offset", type := .double, accessFlags := 18, slot := 0, constantValue := 0 }, { name := "distancePerCount", type := .double, accessFlags := 18, slot := 1, constantValue := 0 }, { name := "decimalDistancePerCount", type := (.object "java/math/BigDecimal"), accessFlags := 18, slot := 2, constantValue := 0 }]
  methods := #[k2m0, k2m1]
  instanceTypes := #[.double, .double, (.object "java/math/BigDecimal")]
  staticTypes := #[(.object "java/lang/String"), (.object "java/lang/String"), (.object "java/lang/String"), (.object "java/lang/String"), .double, .double]
  resolved := Array.replicate 134 none
  statics := none }

def pool3 : Array CpInfo := pool [(1, u "java/lang/Cloneable"), (0, .class_ 1), (0, u "java/lang/Object"), (0, .class_ 3)] 3

/-- java/lang/Cloneable -/
def k3 : Class := { plain "java/lang/Cloneable" (some 0) with
  accessFlags := 1537
  interfaces := #[]
  cf := some (fileOf pool3 2 #[] #[] 1537 4 #[] #[])
  fields := #[]
  methods := #[]
  instanceTypes := #[]
  staticTypes := #[]
  resolved := Array.replicate 8 none
  statics := none }

def pool4 : Array CpInfo := pool [(1, u "java/io/Serializable"), (0, .class_ 1), (0, u "java/lang/Object"), (0, .class_ 3)] 3

/-- java/io/Serializable -/
def k4 : Class := { plain "java/io/Serializable" (some 0) with
  accessFlags := 1537
  interfaces := #[]
  cf := some (fileOf pool4 2 #[] #[] 1537 4 #[] #[])
  fields := #[]
  methods := #[]
  instanceTypes := #[]
  staticTypes := #[]
  resolved := Array.replicate 8 none
  statics := none }

/-- the primitive byte -/
def k5 : Class := { plain "byte" none with kind := .primitive 'B', accessFlags := 0x411 }
/-- [B -/
def k6 : Class := { plain "[B" (some 0) with kind := .array 5 .byte, interfaces := #[3, 4], accessFlags := 1041 }

/-- the primitive int -/
def k7 : Class := { plain "int" none with kind := .primitive 'I', accessFlags := 0x411 }
/-- [I -/
def k8 : Class := { plain "[I" (some 0) with kind := .array 7 .int, interfaces := #[3, 4], accessFlags := 1041 }

def heap : Heap := #[]
def classes : Array Class := #[k0, k1, k2, k3, k4, k5, k6, k7, k8]
def interned : List (Array UInt16 × Addr) := []
def slotsUsed : Nat := 0
def theMethod : MethodId := ⟨1, 2⟩
def args0 : Array Value := #[.long 5, .long 6, .int 7]
def aboutOver (below : List Frame) : State where
  vm := { classes := classes, interned := interned.toArray }
  heap := heap
  slotsUsed := slotsUsed
  threads := #[{ frames := .invoking theMethod args0 :: below }]
def below0 : List Frame := [.native { method := ⟨0, 0⟩, args := #[] }]
def about1 : State := aboutOver below0
def p0 : Program := .bare "" "" ""
def e0 : Env := launch0.env 0 0 0
theorem w_frames : about1.frames = Frame.invoking theMethod args0 :: below0 := rfl
set_option maxRecDepth 65536 in
theorem w_args : argsFit about1.vm theMethod args0 = true := by decide +kernel
set_option maxRecDepth 65536 in
theorem w_heap : heapFits about1 = true := by decide +kernel
set_option maxRecDepth 65536 in
theorem w_runnable : about1.curStatus? = some .runnable := by decide +kernel
set_option maxRecDepth 65536 in
theorem w_alone : about1.alone = true := by decide +kernel
set_option maxRecDepth 65536 in
theorem w_named : about1.methodNamed? x = some theMethod := by decide +kernel
set_option maxRecDepth 65536 in
theorem w_hears : about1.hears theMethod below0 = true := by decide +kernel
set_option maxRecDepth 65536 in
theorem w_ripe : about1.ripe theMethod args0 below0 = true := by decide +kernel
theorem w_running : about1.status = .running := rfl
set_option maxRecDepth 65536 in
theorem w_room : about1.hasRoom e0.platform room_1 = true :=
  launch0.hasRoom_least _ room_1 (by decide +kernel) (by decide +kernel) (by decide +kernel) (by decide +kernel) (by decide +kernel) (by decide +kernel)
theorem allAtoms_all (ts : List Jvm.Cond) (a : Array Jvm.Value) (st : Jvm.State) : (allAtoms ts).before a st = ts.all (fun c => c.before a st) := by
  induction ts with
  | nil => rfl
  | cons c t ih =>
    show (Jvm.Cond.and c (allAtoms t)).before a st = _
    rw [Jvm.Cond.before_and, ih, List.all_cons]
def words1 : List Jvm.Cond := Jvm.Cond.code x code maxLocals ret :: tables_1
/-- a 'code' word, met by the world's own term for the bytes: nothing is compared byte by byte -/
theorem code_word {y : MethodName} {bytes : ByteArray} {mx : Nat} {rt : Option FieldType} {a : Array Value} {s : State} {m : MethodId} {meth : Method} {c : Code} (h1 : s.methodNamed? y = some m) (h2 : s.vm.method? m = some meth) (h3 : meth.code = some c) (h4 : c.code = bytes)
    (h5 : (c.maxLocals == mx && c.exceptionTable.isEmpty && decide (c.maxStack ≤ mostOperands) && decide (meth.sig.returnType = rt) && !meth.locks && decide (parseMethodDescriptor y.desc = some meth.sig)) = true) : (Jvm.Cond.code y bytes mx rt).before a s = true := by
  simp only [Bool.and_eq_true, beq_iff_eq, Bool.not_eq_true', decide_eq_true_eq] at h5
  obtain ⟨⟨⟨⟨⟨g1, g2⟩, g3⟩, g4⟩, g5⟩, g6⟩ := h5
  simp [Cond.before, Cond.holds, Cond.value, h1, h2, h3, h4, g1, g2, g3, g4, g5, g6]
def isCode : Jvm.Cond → Bool
  | .code _ _ _ _ => true
  | _ => false
theorem all_split {L : List Jvm.Cond} {P : Jvm.Cond → Bool} (h1 : L.all (fun c => isCode c || P c) = true) (h2 : ∀ c ∈ L.filter isCode, P c = true) : L.all P = true := by
  refine List.all_eq_true.mpr fun c hc => ?_
  have h := List.all_eq_true.mp h1 c hc
  rcases Bool.eq_false_or_eq_true (isCode c) with hi | hi
  · exact h2 c (List.mem_filter.mpr ⟨hc, hi⟩)
  · simpa [hi] using h
set_option maxRecDepth 65536 in
theorem w_c0 : (Jvm.Cond.code x code maxLocals ret).before args0 about1 = true := code_word (m := ⟨1, 2⟩) (meth := k1m2) (c := k1c2) (by decide +kernel) rfl rfl rfl (by decide +kernel)
set_option maxRecDepth 65536 in
theorem w_c1 : (Jvm.Cond.code ({ cls := "com/example/arcpose/arcpose/WheelWrapJumpPinLaw", name := "fits", desc := "(J)Z" } : Jvm.MethodName) method_2_code (2 : Nat) (Option.some Jvm.ClassFile.FieldType.boolean)).before args0 about1 = true := code_word (m := ⟨1, 1⟩) (meth := k1m1) (c := k1c1) (by decide +kernel) rfl rfl rfl (by decide +kernel)
set_option maxRecDepth 65536 in
theorem w_c2 : (Jvm.Cond.code ({ cls := "com/example/arcpose/arcpose/Wheel", name := "wrapJump", desc := "(DD)D" } : Jvm.MethodName) prog_28_method_7_code (6 : Nat) (Option.some Jvm.ClassFile.FieldType.double)).before args0 about1 = true := code_word (m := ⟨2, 0⟩) (meth := k2m0) (c := k2c0) (by decide +kernel) rfl rfl rfl (by decide +kernel)
set_option maxRecDepth 65536 in
theorem w_c3 : (Jvm.Cond.code ({ cls := "com/example/arcpose/arcpose/Wheel", name := "fitsCounter", desc := "(D)Z" } : Jvm.MethodName) prog_28_method_8_code (2 : Nat) (Option.some Jvm.ClassFile.FieldType.boolean)).before args0 about1 = true := code_word (m := ⟨2, 1⟩) (meth := k2m1) (c := k2c1) (by decide +kernel) rfl rfl rfl (by decide +kernel)
def codes1 : List Jvm.Cond := [Jvm.Cond.code x code maxLocals ret, Jvm.Cond.code ({ cls := "com/example/arcpose/arcpose/WheelWrapJumpPinLaw", name := "fits", desc := "(J)Z" } : Jvm.MethodName) method_2_code (2 : Nat) (Option.some Jvm.ClassFile.FieldType.boolean), Jvm.Cond.code ({ cls := "com/example/arcpose/arcpose/Wheel", name := "wrapJump", desc := "(DD)D" } : Jvm.MethodName) prog_28_method_7_code (6 : Nat) (Option.some Jvm.ClassFile.FieldType.double), Jvm.Cond.code ({ cls := "com/example/arcpose/arcpose/Wheel", name := "fitsCounter", desc := "(D)Z" } : Jvm.MethodName) prog_28_method_8_code (2 : Nat) (Option.some Jvm.ClassFile.FieldType.boolean)]
set_option maxRecDepth 65536 in
theorem codes_eq : words1.filter isCode = codes1 := rfl
theorem w_codes : ∀ c ∈ words1.filter isCode, c.before args0 about1 = true := by
  rw [codes_eq]
  intro c hc
  simp only [codes1, List.mem_cons, List.not_mem_nil, or_false] at hc
  rcases hc with rfl | rfl | rfl | rfl
  · exact w_c0
  · exact w_c1
  · exact w_c2
  · exact w_c3
set_option maxRecDepth 65536 in
theorem w_t1 : words1.all (fun c => isCode c || c.before args0 about1) = true := by decide +kernel
theorem w_tables : (allAtoms (Jvm.Cond.code x code maxLocals ret :: tables_1)).before args0 about1 = true := by
  rw [allAtoms_all]
  show words1.all (fun c => c.before args0 about1) = true
  refine all_split ?_ w_codes
  rw [w_t1]
set_option maxRecDepth 65536 in
theorem w_case : (Jvm.Cond.and given_1 narrow_1).before args0 about1 = true := by decide +kernel
theorem w_applies : (headSpec (Jvm.Cond.code x code maxLocals ret :: tables_1) room_1).applies x e0.platform about1 = true :=
  (Spec.applies_iff w_frames).mpr ⟨w_running, w_runnable, w_alone, w_named, w_hears, w_ripe, w_room, w_tables⟩
theorem atStart : AtStart classFile x code maxLocals ret World_1 tables_1 room_1 Calls_1 rest_1 Pre_1 launch0 p0 e0 about1 theMethod args0 below0 :=
  ⟨lists_1, trivial, launch0.admits_env _ _ _, launch0.least_env, fairChoices_fair.cas, fairChoices_fair.clock, w_frames, w_args, w_heap, w_applies, trivial, trivial, w_case⟩
end start1
theorem witness_1 : WitnessClaimed_1 := ⟨start1.p0, start1.e0, start1.about1, start1.theMethod, start1.args0, start1.below0, start1.atStart⟩
end Jvm.Pilot.@@N@@
