import JvmDerived
import JvmDerived.Pilot.@@N@@Statement
import JvmDerived.Pilot.@@N@@Code
set_option linter.unusedVariables false
set_option linter.unusedSimpArgs false

namespace Jvm.OwnW
open Sem ClassFile Op Lib Jvm.Stand Jvm.Free Jvm.LawKit Jvm.RoadKit
/-- the instruction i stands at pc, n bytes long; the next one stands at nx -/
def Ins (code : ByteArray) (pc : Nat) (i : Instr) (n nx : Nat) : Prop := decode code pc = .ok (i, n) ∧ pc + n = nx
/-- a jump by o from pc leads to t -/
def Jmp (pc : Nat) (o : Int) (t : Nat) : Prop := 0 ≤ (pc : Int) + o ∧ ((pc : Int) + o).toNat = t
instance {pc : Nat} {o : Int} {t : Nat} : Decidable (Jmp pc o t) := inferInstanceAs (Decidable (_ ∧ _))
/-- what is fixed through a body's walk -/
def Ctx (p : Program) (s : State) (m : MethodId) (meth : Method) (c : Code) (Z : State) (own nm : String) (code : ByteArray) (ml : Nat) (ret : Option FieldType) : Prop :=
  p.tables.exec = Jvm.exec ∧ Z.Warmed39 s.vm ∧ c.code = code ∧ c.maxLocals = ml ∧ s.vm.findClass own = some m.cls ∧ meth.sig.returnType = ret ∧ meth.locks = false ∧ meth.name = nm
/-- what is carried unseen: the tables since the start; the constants that are held; D: arrays and Strings of our own, which no constant names -/
def Hid (w : Bool) (Z : State) (EL : List (String × Nat)) (D : List Addr) (s : State) (vm0 : Vm) (h : Heap) : Prop :=
  (if w = true then ∃ k0, s.Since vm0 k0 ∧ k0 ≤ h.size else vm0 = s.vm) ∧ (∃ a0, EW Z a0 EL) ∧ CHr Z EL s.vm s.heap vm0 h ∧ ∀ x ∈ D, x < h.size ∧ Safe Z EL vm0 h x
def En (w : Bool) (s : State) (o : Outcome) (t : State) (L : List Loc) (k n : Nat) : Prop := if w = true then ReturnedEndW s o t L k n else FrameEnd s o t L k n
/-- how a body ends -/
def Done (w : Bool) (Z : State) (EL : List (String × Nat)) (n0 : Nat) (R : Room) (Q : Option Value → Heap → List Addr → Prop) (s : State) (o : Outcome) (t : State) : Prop :=
  ∃ v L D', o = .returned v ∧ Q v t.heap D' ∧ Old Z n0 t.heap ∧ Fr n0 L ∧ (CHr Z EL s.vm s.heap t.vm t.heap ∧ ∀ x ∈ D', x < t.heap.size ∧ Safe Z EL t.vm t.heap x) ∧ En w s o t L R.cells R.slots
/-- from pc, with these locals, this stack and this heap, the body comes to an end that Q allows -/
def Runs (w : Bool) (l : Launch) (Z : State) (EL : List (String × Nat)) (n0 : Nat) (own nm : String) (code : ByteArray) (ml : Nat) (ret : Option FieldType) (R : Room) (Q : Option Value → Heap → List Addr → Prop) (D : List Addr) (h : Heap) (kc ks pc : Nat) (ls : Array Slot) (st : List Value) : Prop :=
  ∀ (p : Program) (e : Env) (s : State) (vm0 : Vm) (m : MethodId) (args : Array Value) (below : List Frame) (meth : Method) (c : Code) (T : State) (locs : List Loc),
    Ctx p (s.setVm vm0) m meth c Z own nm code ml ret → Stand p l e R (s.setVm vm0) m args below meth c T locs kc ks → T.heap = h → Fr n0 locs → Old Z n0 h → Hid w Z EL D s vm0 h →
    ∃ s₂ o, Steps p.tables e below (T.setTop (mkF m pc ls st)) s₂ ∧ s₂.status = .running ∧ Ended s₂ below o ∧ Done w Z EL n0 R Q s o s₂
/-- a method's contract -/
def Con (w : Bool) (l : Launch) (Z : State) (EL : List (String × Nat)) (n0 : Nat) (y : MethodName) (code : ByteArray) (ml : Nat) (ret : Option FieldType) (R : Room) (as' : Array Value) (D : List Addr) (h : Heap) (Q : Option Value → Heap → List Addr → Prop) : Prop :=
  ∀ ws : List Jvm.Cond, MetFree l y (head1 (Jvm.Cond.code y code ml ret :: ws) R) (fun a U => a = as' ∧ Z.Warmed39 U.vm ∧ U.heap = h ∧ Old Z n0 h ∧ (∃ a0, EW Z a0 EL) ∧ CHv Z EL U.vm h ∧ ∀ x ∈ D, x < h.size ∧ Safe Z EL U.vm h x) (fun _ _ _ _ _ => True) (fun _ U o U' => Done w Z EL n0 R Q U o U')
section W
variable {w : Bool} {l : Launch} {Z : State} {EL : List (String × Nat)} {n0 : Nat} {own nm : String} {code : ByteArray} {ml : Nat} {ret : Option FieldType} {R : Room} {Q : Option Value → Heap → List Addr → Prop} {D : List Addr} {h : Heap} {kc ks pc pc' : Nat} {ls ls' : Array Slot} {st st' rest : List Value} {a0 : Array Value}
theorem Con.of_runs {y : MethodName} {as' : Array Value} (hp : plainFor y = true) (he : ∀ m, entryFrame m as' ml = mkF m 0 ls []) (K : Runs w l Z EL n0 y.cls y.name code ml ret R Q D h 0 0 0 ls []) : Con w l Z EL n0 y code ml ret R as' D h Q := by
  intro ws
  refine MetFree.of_bodySF hp hisR ?_
  intro p e s m args below meth c s₁ Bd hml0 hP hK
  obtain ⟨rfl, hZ, hh, hO, hE, hC, hD⟩ := hP
  have hnm := (name_of_methodNamed Bd.named Bd.method).1
  have hown : s.vm.findClass y.cls = some m.cls := findClass_of_methodNamed Bd.named
  have X0 : Stand p l e R s m args below meth c s₁ [] 0 0 := Stand.of_body Bd
  have e0 : s₁.heap = h := by rw [← hh, Bd.state]; rfl
  obtain ⟨s₂, o, S, r1, r2, r3⟩ := K p e s s.vm m args below meth c s₁ [] ⟨Bd.exec, hZ, Bd.bytes, hml0, hown, Bd.returns, Bd.notSynchronized, hnm⟩ X0 e0 (Fr.nil n0) hO
    ⟨by split; exact ⟨0, (State.WarmedH.refl s).since 0, Nat.zero_le _⟩; rfl, hE, by rw [← hh] at hC ⊢; exact CHr.refl hC, hD⟩
  exact ⟨s₂, o, castTop (he m) S, r1, r2, r3⟩
theorem Runs.plain (K : Runs w l Z EL n0 own nm code ml ret R Q D h kc ks pc' ls' st')
    (f : ∀ (p : Program) (e : Env) (m : MethodId) (below : List Frame) (c : Code) (T target : State), p.tables.exec = Jvm.exec → c.code = code → At T m c below → Steps p.tables e below (T.setTop (mkF m pc' ls' st')) target → Steps p.tables e below (T.setTop (mkF m pc ls st)) target) : Runs w l Z EL n0 own nm code ml ret R Q D h kc ks pc ls st := by
  intro p e s vm0 m args below meth c T locs C X eT N O H
  obtain ⟨s₂, o, S, r⟩ := K p e s vm0 m args below meth c T locs C X eT N O H
  exact ⟨s₂, o, f p e m below c T s₂ C.1 C.2.2.1 X.here S, r⟩
/-- a step whose law moves the tables alone -/
theorem Runs.warm (K : Runs w l Z EL n0 own nm code ml ret R Q D h kc ks pc' ls' st')
    (f : ∀ (p : Program) (e : Env) (s : State) (m : MethodId) (args : Array Value) (below : List Frame) (meth : Method) (c : Code) (T : State) (locs : List Loc), Ctx p s m meth c Z own nm code ml ret → Stand p l e R s m args below meth c T locs kc ks → T.heap = h → Old Z n0 h →
      ∃ T', Stand p l e R s m args below meth c T' locs kc ks ∧ T'.heap = h ∧ ∀ target, Steps p.tables e below (T'.setTop (mkF m pc' ls' st')) target → Steps p.tables e below (T.setTop (mkF m pc ls st)) target) : Runs w l Z EL n0 own nm code ml ret R Q D h kc ks pc ls st := by
  intro p e s vm0 m args below meth c T locs C X eT N O H
  obtain ⟨T', X', e', S'⟩ := f p e _ m args below meth c T locs C X eT O
  obtain ⟨s₂, o, S, r⟩ := K p e s vm0 m args below meth c T' locs C X' e' N O H
  exact ⟨s₂, o, S' _ S, r⟩
theorem Runs.old (K : Old Z n0 h → Runs w l Z EL n0 own nm code ml ret R Q D h kc ks pc ls st) : Runs w l Z EL n0 own nm code ml ret R Q D h kc ks pc ls st :=
  fun p e s vm0 m args below meth c T locs C X eT N O H => K O p e s vm0 m args below meth c T locs C X eT N O H
theorem Runs.weak {D1 : List Addr} (hs : ∀ x ∈ D1, x ∈ D) (K : Runs w l Z EL n0 own nm code ml ret R Q D1 h kc ks pc ls st) : Runs w l Z EL n0 own nm code ml ret R Q D h kc ks pc ls st :=
  fun p e s vm0 m args below meth c T locs C X eT N O H => K p e s vm0 m args below meth c T locs C X eT N O ⟨H.1, H.2.1, H.2.2.1, fun x hx => H.2.2.2 x (hs x hx)⟩
/-- fewer cells, fewer slots made: at most more -/
theorem Runs.mono {kc' ks' : Nat} (h1 : kc ≤ kc') (h2 : ks ≤ ks') (K : Runs w l Z EL n0 own nm code ml ret R Q D h kc' ks' pc ls st) : Runs w l Z EL n0 own nm code ml ret R Q D h kc ks pc ls st :=
  fun p e s vm0 m args below meth c T locs C X eT N O H => K p e s vm0 m args below meth c T locs C (X.mono h1 h2) eT N O H

theorem Runs.iloadN {k : Fin 4} {v : Int32} (hd : Ins code pc (.iload_n k) 1 pc') (hl : ls[k.val]? = some (.val (.int v))) (K : Runs w l Z EL n0 own nm code ml ret R Q D h kc ks pc' ls (.int v :: st)) : Runs w l Z EL n0 own nm code ml ret R Q D h kc ks pc ls st := by
  obtain ⟨hd, rfl⟩ := hd
  exact K.plain fun p e m below c T t hx hb X S => XS.iloadN (g := mkF m pc ls st) X hx rfl (Jvm.hb hb hd) hl S
theorem Runs.iload {k : Nat} {v : Int32} (hd : Ins code pc (.iload k) 2 pc') (hl : ls[k]? = some (.val (.int v))) (K : Runs w l Z EL n0 own nm code ml ret R Q D h kc ks pc' ls (.int v :: st)) : Runs w l Z EL n0 own nm code ml ret R Q D h kc ks pc ls st := by
  obtain ⟨hd, rfl⟩ := hd
  exact K.plain fun p e m below c T t hx hb X S => XS.iload (g := mkF m pc ls st) X hx rfl (Jvm.hb hb hd) hl S
theorem Runs.istoreN {k : Fin 4} {x : Int32} (hd : Ins code pc (.istore_n k) 1 pc') (hl : storeLocals ls k.val (.int x) = some ls') (K : Runs w l Z EL n0 own nm code ml ret R Q D h kc ks pc' ls' rest) : Runs w l Z EL n0 own nm code ml ret R Q D h kc ks pc ls (.int x :: rest) := by
  obtain ⟨hd, rfl⟩ := hd
  exact K.plain fun p e m below c T t hx hb X S => XS.istoreN (g := mkF m pc ls (.int x :: rest)) X hx rfl (Jvm.hb hb hd) rfl hl S
theorem Runs.istore {k : Nat} {x : Int32} (hd : Ins code pc (.istore k) 2 pc') (hl : storeLocals ls k (.int x) = some ls') (K : Runs w l Z EL n0 own nm code ml ret R Q D h kc ks pc' ls' rest) : Runs w l Z EL n0 own nm code ml ret R Q D h kc ks pc ls (.int x :: rest) := by
  obtain ⟨hd, rfl⟩ := hd
  exact K.plain fun p e m below c T t hx hb X S => XS.istore (g := mkF m pc ls (.int x :: rest)) X hx rfl (Jvm.hb hb hd) rfl hl S
theorem Runs.lloadN {k : Fin 4} {v : Int64} (hd : Ins code pc (.lload_n k) 1 pc') (hl : ls[k.val]? = some (.val (.long v))) (K : Runs w l Z EL n0 own nm code ml ret R Q D h kc ks pc' ls (.long v :: st)) : Runs w l Z EL n0 own nm code ml ret R Q D h kc ks pc ls st := by
  obtain ⟨hd, rfl⟩ := hd
  exact K.plain fun p e m below c T t hx hb X S => XT.lloadN (g := mkF m pc ls st) X hx rfl (Jvm.hb hb hd) hl S
theorem Runs.lload {k : Nat} {v : Int64} (hd : Ins code pc (.lload k) 2 pc') (hl : ls[k]? = some (.val (.long v))) (K : Runs w l Z EL n0 own nm code ml ret R Q D h kc ks pc' ls (.long v :: st)) : Runs w l Z EL n0 own nm code ml ret R Q D h kc ks pc ls st := by
  obtain ⟨hd, rfl⟩ := hd
  exact K.plain fun p e m below c T t hx hb X S => XT.lload (g := mkF m pc ls st) X hx rfl (Jvm.hb hb hd) hl S
theorem Runs.lstoreN {k : Fin 4} {x : Int64} (hd : Ins code pc (.lstore_n k) 1 pc') (hl : storeLocals ls k.val (.long x) = some ls') (K : Runs w l Z EL n0 own nm code ml ret R Q D h kc ks pc' ls' rest) : Runs w l Z EL n0 own nm code ml ret R Q D h kc ks pc ls (.long x :: rest) := by
  obtain ⟨hd, rfl⟩ := hd
  exact K.plain fun p e m below c T t hx hb X S => XT.lstoreN (g := mkF m pc ls (.long x :: rest)) X hx rfl (Jvm.hb hb hd) rfl hl S
theorem Runs.lstore {k : Nat} {x : Int64} (hd : Ins code pc (.lstore k) 2 pc') (hl : storeLocals ls k (.long x) = some ls') (K : Runs w l Z EL n0 own nm code ml ret R Q D h kc ks pc' ls' rest) : Runs w l Z EL n0 own nm code ml ret R Q D h kc ks pc ls (.long x :: rest) := by
  obtain ⟨hd, rfl⟩ := hd
  exact K.plain fun p e m below c T t hx hb X S => XT.lstore (g := mkF m pc ls (.long x :: rest)) X hx rfl (Jvm.hb hb hd) rfl hl S
theorem Runs.aloadN {k : Fin 4} {v : Value} (hd : Ins code pc (.aload_n k) 1 pc') (hl : ls[k.val]? = some (.val v)) (hv : v.isRef = true) (K : Runs w l Z EL n0 own nm code ml ret R Q D h kc ks pc' ls (v :: st)) : Runs w l Z EL n0 own nm code ml ret R Q D h kc ks pc ls st := by
  obtain ⟨hd, rfl⟩ := hd
  exact K.plain fun p e m below c T t hx hb X S => XS.aloadN (g := mkF m pc ls st) X hx rfl (Jvm.hb hb hd) hl hv S
theorem Runs.aload {k : Nat} {v : Value} (hd : Ins code pc (.aload k) 2 pc') (hl : ls[k]? = some (.val v)) (hv : v.isRef = true) (K : Runs w l Z EL n0 own nm code ml ret R Q D h kc ks pc' ls (v :: st)) : Runs w l Z EL n0 own nm code ml ret R Q D h kc ks pc ls st := by
  obtain ⟨hd, rfl⟩ := hd
  exact K.plain fun p e m below c T t hx hb X S => XS.aload (g := mkF m pc ls st) X hx rfl (Jvm.hb hb hd) hl hv S
theorem Runs.astoreN {k : Fin 4} {x : Value} (hd : Ins code pc (.astore_n k) 1 pc') (hv : x.isRef = true) (hl : storeLocals ls k.val x = some ls') (K : Runs w l Z EL n0 own nm code ml ret R Q D h kc ks pc' ls' rest) : Runs w l Z EL n0 own nm code ml ret R Q D h kc ks pc ls (x :: rest) := by
  obtain ⟨hd, rfl⟩ := hd
  exact K.plain fun p e m below c T t hx hb X S => XS.astoreN (g := mkF m pc ls (x :: rest)) X hx rfl (Jvm.hb hb hd) rfl hv hl S
theorem Runs.astore {k : Nat} {x : Value} (hd : Ins code pc (.astore k) 2 pc') (hv : x.isRef = true) (hl : storeLocals ls k x = some ls') (K : Runs w l Z EL n0 own nm code ml ret R Q D h kc ks pc' ls' rest) : Runs w l Z EL n0 own nm code ml ret R Q D h kc ks pc ls (x :: rest) := by
  obtain ⟨hd, rfl⟩ := hd
  exact K.plain fun p e m below c T t hx hb X S => XS.astore (g := mkF m pc ls (x :: rest)) X hx rfl (Jvm.hb hb hd) rfl hv hl S
theorem Runs.iconst {i : Int} {v : Int32} (hd : Ins code pc (.iconst i) 1 pc') (hz : Int32.ofInt i = v) (K : Runs w l Z EL n0 own nm code ml ret R Q D h kc ks pc' ls (.int v :: st)) : Runs w l Z EL n0 own nm code ml ret R Q D h kc ks pc ls st := by
  obtain ⟨hd, rfl⟩ := hd
  subst hz
  exact K.plain fun p e m below c T t hx hb X S => XS.iconst (g := mkF m pc ls st) X hx rfl (Jvm.hb hb hd) S
theorem Runs.bipush {i : Int} {v : Int32} (hd : Ins code pc (.bipush i) 2 pc') (hz : (Int8.ofInt i).toInt32 = v) (K : Runs w l Z EL n0 own nm code ml ret R Q D h kc ks pc' ls (.int v :: st)) : Runs w l Z EL n0 own nm code ml ret R Q D h kc ks pc ls st := by
  obtain ⟨hd, rfl⟩ := hd
  subst hz
  exact K.plain fun p e m below c T t hx hb X S => XS.bipush (g := mkF m pc ls st) X hx rfl (Jvm.hb hb hd) S
theorem Runs.sipush {i : Int} {v : Int32} (hd : Ins code pc (.sipush i) 3 pc') (hz : (Int16.ofInt i).toInt32 = v) (K : Runs w l Z EL n0 own nm code ml ret R Q D h kc ks pc' ls (.int v :: st)) : Runs w l Z EL n0 own nm code ml ret R Q D h kc ks pc ls st := by
  obtain ⟨hd, rfl⟩ := hd
  subst hz
  exact K.plain fun p e m below c T t hx hb X S => XS.sipush (g := mkF m pc ls st) X hx rfl (Jvm.hb hb hd) S
theorem Runs.lconst {k : Fin 2} {v : Int64} (hd : Ins code pc (.lconst k) 1 pc') (hz : Int64.ofNat k = v) (K : Runs w l Z EL n0 own nm code ml ret R Q D h kc ks pc' ls (.long v :: st)) : Runs w l Z EL n0 own nm code ml ret R Q D h kc ks pc ls st := by
  obtain ⟨hd, rfl⟩ := hd
  subst hz
  exact K.plain fun p e m below c T t hx hb X S => XT.lconst (g := mkF m pc ls st) X hx rfl (Jvm.hb hb hd) S
theorem Runs.aconstNull  (hd : Ins code pc (.aconst_null) 1 pc')  (K : Runs w l Z EL n0 own nm code ml ret R Q D h kc ks pc' ls (.null :: st)) : Runs w l Z EL n0 own nm code ml ret R Q D h kc ks pc ls st := by
  obtain ⟨hd, rfl⟩ := hd
  exact K.plain fun p e m below c T t hx hb X S => XS.aconstNull (g := mkF m pc ls st) X hx rfl (Jvm.hb hb hd) S
theorem Runs.iadd {x y z : Int32} (hd : Ins code pc (.iadd) 1 pc') (hz : x + y = z) (K : Runs w l Z EL n0 own nm code ml ret R Q D h kc ks pc' ls (.int z :: rest)) : Runs w l Z EL n0 own nm code ml ret R Q D h kc ks pc ls (.int y :: .int x :: rest) := by
  obtain ⟨hd, rfl⟩ := hd
  subst hz
  exact K.plain fun p e m below c T t hx hb X S => XS.iadd (g := mkF m pc ls (.int y :: .int x :: rest)) X hx rfl (Jvm.hb hb hd) rfl S
theorem Runs.isub {x y z : Int32} (hd : Ins code pc (.isub) 1 pc') (hz : x - y = z) (K : Runs w l Z EL n0 own nm code ml ret R Q D h kc ks pc' ls (.int z :: rest)) : Runs w l Z EL n0 own nm code ml ret R Q D h kc ks pc ls (.int y :: .int x :: rest) := by
  obtain ⟨hd, rfl⟩ := hd
  subst hz
  exact K.plain fun p e m below c T t hx hb X S => XS.isub (g := mkF m pc ls (.int y :: .int x :: rest)) X hx rfl (Jvm.hb hb hd) rfl S
theorem Runs.imul {x y z : Int32} (hd : Ins code pc (.imul) 1 pc') (hz : x * y = z) (K : Runs w l Z EL n0 own nm code ml ret R Q D h kc ks pc' ls (.int z :: rest)) : Runs w l Z EL n0 own nm code ml ret R Q D h kc ks pc ls (.int y :: .int x :: rest) := by
  obtain ⟨hd, rfl⟩ := hd
  subst hz
  exact K.plain fun p e m below c T t hx hb X S => XS.imul (g := mkF m pc ls (.int y :: .int x :: rest)) X hx rfl (Jvm.hb hb hd) rfl S
theorem Runs.iand {x y z : Int32} (hd : Ins code pc (.iand) 1 pc') (hz : x &&& y = z) (K : Runs w l Z EL n0 own nm code ml ret R Q D h kc ks pc' ls (.int z :: rest)) : Runs w l Z EL n0 own nm code ml ret R Q D h kc ks pc ls (.int y :: .int x :: rest) := by
  obtain ⟨hd, rfl⟩ := hd
  subst hz
  exact K.plain fun p e m below c T t hx hb X S => XS.iand (g := mkF m pc ls (.int y :: .int x :: rest)) X hx rfl (Jvm.hb hb hd) rfl S
theorem Runs.ior {x y z : Int32} (hd : Ins code pc (.ior) 1 pc') (hz : x ||| y = z) (K : Runs w l Z EL n0 own nm code ml ret R Q D h kc ks pc' ls (.int z :: rest)) : Runs w l Z EL n0 own nm code ml ret R Q D h kc ks pc ls (.int y :: .int x :: rest) := by
  obtain ⟨hd, rfl⟩ := hd
  subst hz
  exact K.plain fun p e m below c T t hx hb X S => XT.ior (g := mkF m pc ls (.int y :: .int x :: rest)) X hx rfl (Jvm.hb hb hd) rfl S
theorem Runs.ixor {x y z : Int32} (hd : Ins code pc (.ixor) 1 pc') (hz : x ^^^ y = z) (K : Runs w l Z EL n0 own nm code ml ret R Q D h kc ks pc' ls (.int z :: rest)) : Runs w l Z EL n0 own nm code ml ret R Q D h kc ks pc ls (.int y :: .int x :: rest) := by
  obtain ⟨hd, rfl⟩ := hd
  subst hz
  exact K.plain fun p e m below c T t hx hb X S => XT.ixor (g := mkF m pc ls (.int y :: .int x :: rest)) X hx rfl (Jvm.hb hb hd) rfl S
theorem Runs.ishl {x y z : Int32} (hd : Ins code pc (.ishl) 1 pc') (hz : x <<< (y &&& 31) = z) (K : Runs w l Z EL n0 own nm code ml ret R Q D h kc ks pc' ls (.int z :: rest)) : Runs w l Z EL n0 own nm code ml ret R Q D h kc ks pc ls (.int y :: .int x :: rest) := by
  obtain ⟨hd, rfl⟩ := hd
  subst hz
  exact K.plain fun p e m below c T t hx hb X S => XT.ishl (g := mkF m pc ls (.int y :: .int x :: rest)) X hx rfl (Jvm.hb hb hd) rfl S
theorem Runs.ishr {x y z : Int32} (hd : Ins code pc (.ishr) 1 pc') (hz : x >>> (y &&& 31) = z) (K : Runs w l Z EL n0 own nm code ml ret R Q D h kc ks pc' ls (.int z :: rest)) : Runs w l Z EL n0 own nm code ml ret R Q D h kc ks pc ls (.int y :: .int x :: rest) := by
  obtain ⟨hd, rfl⟩ := hd
  subst hz
  exact K.plain fun p e m below c T t hx hb X S => XT.ishr (g := mkF m pc ls (.int y :: .int x :: rest)) X hx rfl (Jvm.hb hb hd) rfl S
theorem Runs.iushr {x y z : Int32} (hd : Ins code pc (.iushr) 1 pc') (hz : XT.ushr x y = z) (K : Runs w l Z EL n0 own nm code ml ret R Q D h kc ks pc' ls (.int z :: rest)) : Runs w l Z EL n0 own nm code ml ret R Q D h kc ks pc ls (.int y :: .int x :: rest) := by
  obtain ⟨hd, rfl⟩ := hd
  subst hz
  exact K.plain fun p e m below c T t hx hb X S => XT.iushr (g := mkF m pc ls (.int y :: .int x :: rest)) X hx rfl (Jvm.hb hb hd) rfl S
theorem Runs.ladd {x y z : Int64} (hd : Ins code pc (.ladd) 1 pc') (hz : x + y = z) (K : Runs w l Z EL n0 own nm code ml ret R Q D h kc ks pc' ls (.long z :: rest)) : Runs w l Z EL n0 own nm code ml ret R Q D h kc ks pc ls (.long y :: .long x :: rest) := by
  obtain ⟨hd, rfl⟩ := hd
  subst hz
  exact K.plain fun p e m below c T t hx hb X S => XT.ladd (g := mkF m pc ls (.long y :: .long x :: rest)) X hx rfl (Jvm.hb hb hd) rfl S
theorem Runs.lsub {x y z : Int64} (hd : Ins code pc (.lsub) 1 pc') (hz : x - y = z) (K : Runs w l Z EL n0 own nm code ml ret R Q D h kc ks pc' ls (.long z :: rest)) : Runs w l Z EL n0 own nm code ml ret R Q D h kc ks pc ls (.long y :: .long x :: rest) := by
  obtain ⟨hd, rfl⟩ := hd
  subst hz
  exact K.plain fun p e m below c T t hx hb X S => XT.lsub (g := mkF m pc ls (.long y :: .long x :: rest)) X hx rfl (Jvm.hb hb hd) rfl S
theorem Runs.lmul {x y z : Int64} (hd : Ins code pc (.lmul) 1 pc') (hz : x * y = z) (K : Runs w l Z EL n0 own nm code ml ret R Q D h kc ks pc' ls (.long z :: rest)) : Runs w l Z EL n0 own nm code ml ret R Q D h kc ks pc ls (.long y :: .long x :: rest) := by
  obtain ⟨hd, rfl⟩ := hd
  subst hz
  exact K.plain fun p e m below c T t hx hb X S => XT.lmul (g := mkF m pc ls (.long y :: .long x :: rest)) X hx rfl (Jvm.hb hb hd) rfl S
theorem Runs.land {x y z : Int64} (hd : Ins code pc (.land) 1 pc') (hz : x &&& y = z) (K : Runs w l Z EL n0 own nm code ml ret R Q D h kc ks pc' ls (.long z :: rest)) : Runs w l Z EL n0 own nm code ml ret R Q D h kc ks pc ls (.long y :: .long x :: rest) := by
  obtain ⟨hd, rfl⟩ := hd
  subst hz
  exact K.plain fun p e m below c T t hx hb X S => XT.land (g := mkF m pc ls (.long y :: .long x :: rest)) X hx rfl (Jvm.hb hb hd) rfl S
theorem Runs.lor {x y z : Int64} (hd : Ins code pc (.lor) 1 pc') (hz : x ||| y = z) (K : Runs w l Z EL n0 own nm code ml ret R Q D h kc ks pc' ls (.long z :: rest)) : Runs w l Z EL n0 own nm code ml ret R Q D h kc ks pc ls (.long y :: .long x :: rest) := by
  obtain ⟨hd, rfl⟩ := hd
  subst hz
  exact K.plain fun p e m below c T t hx hb X S => XT.lor (g := mkF m pc ls (.long y :: .long x :: rest)) X hx rfl (Jvm.hb hb hd) rfl S
theorem Runs.lxor {x y z : Int64} (hd : Ins code pc (.lxor) 1 pc') (hz : x ^^^ y = z) (K : Runs w l Z EL n0 own nm code ml ret R Q D h kc ks pc' ls (.long z :: rest)) : Runs w l Z EL n0 own nm code ml ret R Q D h kc ks pc ls (.long y :: .long x :: rest) := by
  obtain ⟨hd, rfl⟩ := hd
  subst hz
  exact K.plain fun p e m below c T t hx hb X S => XT.lxor (g := mkF m pc ls (.long y :: .long x :: rest)) X hx rfl (Jvm.hb hb hd) rfl S
theorem Runs.irem {x y z : Int32} (hd : Ins code pc (.irem) 1 pc') (hy : y ≠ 0) (hz : x % y = z) (K : Runs w l Z EL n0 own nm code ml ret R Q D h kc ks pc' ls (.int z :: rest)) : Runs w l Z EL n0 own nm code ml ret R Q D h kc ks pc ls (.int y :: .int x :: rest) := by
  obtain ⟨hd, rfl⟩ := hd
  subst hz
  exact K.plain fun p e m below c T t hx hb X S => XS.irem (g := mkF m pc ls (.int y :: .int x :: rest)) X hx rfl (Jvm.hb hb hd) rfl hy (by rw [show x - x / y * y = x % y from irem_eq_mod x y]; exact S)
theorem Runs.idiv {x y z : Int32} (hd : Ins code pc (.idiv) 1 pc') (hy : y ≠ 0) (hz : x / y = z) (K : Runs w l Z EL n0 own nm code ml ret R Q D h kc ks pc' ls (.int z :: rest)) : Runs w l Z EL n0 own nm code ml ret R Q D h kc ks pc ls (.int y :: .int x :: rest) := by
  obtain ⟨hd, rfl⟩ := hd
  subst hz
  exact K.plain fun p e m below c T t hx hb X S => XS.idiv (g := mkF m pc ls (.int y :: .int x :: rest)) X hx rfl (Jvm.hb hb hd) rfl hy S
theorem Runs.lcmp {x y : Int64} {z : Int32} (hd : Ins code pc (.lcmp) 1 pc') (hz : XT.cmpL x y = z) (K : Runs w l Z EL n0 own nm code ml ret R Q D h kc ks pc' ls (.int z :: rest)) : Runs w l Z EL n0 own nm code ml ret R Q D h kc ks pc ls (.long y :: .long x :: rest) := by
  obtain ⟨hd, rfl⟩ := hd
  subst hz
  exact K.plain fun p e m below c T t hx hb X S => XT.lcmp (g := mkF m pc ls (.long y :: .long x :: rest)) X hx rfl (Jvm.hb hb hd) rfl S
theorem Runs.ineg {x : Int32} {z : Int32} (hd : Ins code pc (.ineg) 1 pc') (hz : -x = z) (K : Runs w l Z EL n0 own nm code ml ret R Q D h kc ks pc' ls (.int z :: rest)) : Runs w l Z EL n0 own nm code ml ret R Q D h kc ks pc ls (.int x :: rest) := by
  obtain ⟨hd, rfl⟩ := hd
  subst hz
  exact K.plain fun p e m below c T t hx hb X S => XS.ineg (g := mkF m pc ls (.int x :: rest)) X hx rfl (Jvm.hb hb hd) rfl S
theorem Runs.i2l {x : Int32} {z : Int64} (hd : Ins code pc (.i2l) 1 pc') (hz : x.toInt64 = z) (K : Runs w l Z EL n0 own nm code ml ret R Q D h kc ks pc' ls (.long z :: rest)) : Runs w l Z EL n0 own nm code ml ret R Q D h kc ks pc ls (.int x :: rest) := by
  obtain ⟨hd, rfl⟩ := hd
  subst hz
  exact K.plain fun p e m below c T t hx hb X S => XT.i2l (g := mkF m pc ls (.int x :: rest)) X hx rfl (Jvm.hb hb hd) rfl S
theorem Runs.l2i {x : Int64} {z : Int32} (hd : Ins code pc (.l2i) 1 pc') (hz : x.toInt32 = z) (K : Runs w l Z EL n0 own nm code ml ret R Q D h kc ks pc' ls (.int z :: rest)) : Runs w l Z EL n0 own nm code ml ret R Q D h kc ks pc ls (.long x :: rest) := by
  obtain ⟨hd, rfl⟩ := hd
  subst hz
  exact K.plain fun p e m below c T t hx hb X S => XT.l2i (g := mkF m pc ls (.long x :: rest)) X hx rfl (Jvm.hb hb hd) rfl S
theorem Runs.i2b {x : Int32} {z : Int32} (hd : Ins code pc (.i2b) 1 pc') (hz : x.toInt8.toInt32 = z) (K : Runs w l Z EL n0 own nm code ml ret R Q D h kc ks pc' ls (.int z :: rest)) : Runs w l Z EL n0 own nm code ml ret R Q D h kc ks pc ls (.int x :: rest) := by
  obtain ⟨hd, rfl⟩ := hd
  subst hz
  exact K.plain fun p e m below c T t hx hb X S => XT.i2b (g := mkF m pc ls (.int x :: rest)) X hx rfl (Jvm.hb hb hd) rfl S
theorem Runs.i2c {x : Int32} {z : Int32} (hd : Ins code pc (.i2c) 1 pc') (hz : x.toUInt32.toUInt16.toUInt32.toInt32 = z) (K : Runs w l Z EL n0 own nm code ml ret R Q D h kc ks pc' ls (.int z :: rest)) : Runs w l Z EL n0 own nm code ml ret R Q D h kc ks pc ls (.int x :: rest) := by
  obtain ⟨hd, rfl⟩ := hd
  subst hz
  exact K.plain fun p e m below c T t hx hb X S => XT.i2c (g := mkF m pc ls (.int x :: rest)) X hx rfl (Jvm.hb hb hd) rfl S
theorem Runs.i2s {x : Int32} {z : Int32} (hd : Ins code pc (.i2s) 1 pc') (hz : x.toInt16.toInt32 = z) (K : Runs w l Z EL n0 own nm code ml ret R Q D h kc ks pc' ls (.int z :: rest)) : Runs w l Z EL n0 own nm code ml ret R Q D h kc ks pc ls (.int x :: rest) := by
  obtain ⟨hd, rfl⟩ := hd
  subst hz
  exact K.plain fun p e m below c T t hx hb X S => XT.i2s (g := mkF m pc ls (.int x :: rest)) X hx rfl (Jvm.hb hb hd) rfl S
theorem Runs.lneg {x : Int64} {z : Int64} (hd : Ins code pc (.lneg) 1 pc') (hz : -x = z) (K : Runs w l Z EL n0 own nm code ml ret R Q D h kc ks pc' ls (.long z :: rest)) : Runs w l Z EL n0 own nm code ml ret R Q D h kc ks pc ls (.long x :: rest) := by
  obtain ⟨hd, rfl⟩ := hd
  subst hz
  exact K.plain fun p e m below c T t hx hb X S => XT.lneg (g := mkF m pc ls (.long x :: rest)) X hx rfl (Jvm.hb hb hd) rfl S
theorem Runs.iinc {k : Nat} {cst : Int} {x z : Int32} (hd : Ins code pc (.iinc k cst) 3 pc') (hl : ls[k]? = some (.val (.int x))) (hz : x + Int32.ofInt cst = z) (hl' : storeLocals ls k (.int z) = some ls') (K : Runs w l Z EL n0 own nm code ml ret R Q D h kc ks pc' ls' st) : Runs w l Z EL n0 own nm code ml ret R Q D h kc ks pc ls st := by
  obtain ⟨hd, rfl⟩ := hd
  subst hz
  exact K.plain fun p e m below c T t hx hb X S => XS.iinc (g := mkF m pc ls st) X hx rfl (Jvm.hb hb hd) hl hl' S
theorem Runs.dup {x : Value} (hd : Ins code pc (.dup) 1 pc') (hc : x.category = 1) (K : Runs w l Z EL n0 own nm code ml ret R Q D h kc ks pc' ls (x :: x :: rest)) : Runs w l Z EL n0 own nm code ml ret R Q D h kc ks pc ls (x :: rest) := by
  obtain ⟨hd, rfl⟩ := hd
  exact K.plain fun p e m below c T t hx hb X S => XS.dup (g := mkF m pc ls (x :: rest)) X hx rfl (Jvm.hb hb hd) rfl hc S
theorem Runs.pop {x : Value} (hd : Ins code pc (.pop) 1 pc') (hc : x.category = 1) (K : Runs w l Z EL n0 own nm code ml ret R Q D h kc ks pc' ls rest) : Runs w l Z EL n0 own nm code ml ret R Q D h kc ks pc ls (x :: rest) := by
  obtain ⟨hd, rfl⟩ := hd
  exact K.plain fun p e m below c T t hx hb X S => XT.pop (g := mkF m pc ls (x :: rest)) X hx rfl (Jvm.hb hb hd) rfl hc S
theorem Runs.dupX1 {x y : Value} (hd : Ins code pc (.dup_x1) 1 pc') (hc : x.category = 1) (hc' : y.category = 1) (K : Runs w l Z EL n0 own nm code ml ret R Q D h kc ks pc' ls (x :: y :: x :: rest)) : Runs w l Z EL n0 own nm code ml ret R Q D h kc ks pc ls (x :: y :: rest) := by
  obtain ⟨hd, rfl⟩ := hd
  exact K.plain fun p e m below c T t hx hb X S => XT.dupX1 (g := mkF m pc ls (x :: y :: rest)) X hx rfl (Jvm.hb hb hd) rfl hc hc' S
theorem Runs.dup2 {x y : Value} (hd : Ins code pc (.dup2) 1 pc') (hc : x.category = 1) (hc' : y.category = 1) (K : Runs w l Z EL n0 own nm code ml ret R Q D h kc ks pc' ls (x :: y :: x :: y :: rest)) : Runs w l Z EL n0 own nm code ml ret R Q D h kc ks pc ls (x :: y :: rest) := by
  obtain ⟨hd, rfl⟩ := hd
  exact K.plain fun p e m below c T t hx hb X S => XT.dup2 (g := mkF m pc ls (x :: y :: rest)) X hx rfl (Jvm.hb hb hd) rfl hc hc' S
theorem Runs.goto  {o : Int} {t nx : Nat} (hd : Ins code pc (.goto o) 3 nx) (hj : Jmp pc o t)  (K : Runs w l Z EL n0 own nm code ml ret R Q D h kc ks t ls st) : Runs w l Z EL n0 own nm code ml ret R Q D h kc ks pc ls st :=
  K.plain fun p e m below c T tg hx hb X S => XS.goto (g := mkF m pc ls st) X hx rfl (pc0 := pc) rfl (Jvm.hb hb hd.1) hj.1 hj.2 S
theorem Runs.ifY {cd : ClassFile.Cond} {x : Int32} {o : Int} {t nx : Nat} (hd : Ins code pc (.ifCond cd o) 3 nx) (hj : Jmp pc o t) (hc : if_icmp.holds cd x 0 = true) (K : Runs w l Z EL n0 own nm code ml ret R Q D h kc ks t ls rest) : Runs w l Z EL n0 own nm code ml ret R Q D h kc ks pc ls (.int x :: rest) :=
  K.plain fun p e m below c T tg hx hb X S => XS.ifYes (g := mkF m pc ls (.int x :: rest)) X hx rfl (pc0 := pc) rfl (Jvm.hb hb hd.1) rfl ((if0 cd x).trans hc) hj.1 hj.2 S
theorem Runs.icY {cd : ClassFile.Cond} {x y : Int32} {o : Int} {t nx : Nat} (hd : Ins code pc (.if_icmp cd o) 3 nx) (hj : Jmp pc o t) (hc : if_icmp.holds cd x y = true) (K : Runs w l Z EL n0 own nm code ml ret R Q D h kc ks t ls rest) : Runs w l Z EL n0 own nm code ml ret R Q D h kc ks pc ls (.int y :: .int x :: rest) :=
  K.plain fun p e m below c T tg hx hb X S => XS.icmpYes (g := mkF m pc ls (.int y :: .int x :: rest)) X hx rfl (pc0 := pc) rfl (Jvm.hb hb hd.1) rfl hc hj.1 hj.2 S
theorem Runs.nullY  {o : Int} {t nx : Nat} (hd : Ins code pc (.ifnull o) 3 nx) (hj : Jmp pc o t)  (K : Runs w l Z EL n0 own nm code ml ret R Q D h kc ks t ls rest) : Runs w l Z EL n0 own nm code ml ret R Q D h kc ks pc ls (.null :: rest) :=
  K.plain fun p e m below c T tg hx hb X S => XS.ifnullYes (g := mkF m pc ls (.null :: rest)) X hx rfl (pc0 := pc) rfl (Jvm.hb hb hd.1) rfl hj.1 hj.2 S
theorem Runs.nnullY {b : Addr} {o : Int} {t nx : Nat} (hd : Ins code pc (.ifnonnull o) 3 nx) (hj : Jmp pc o t)  (K : Runs w l Z EL n0 own nm code ml ret R Q D h kc ks t ls rest) : Runs w l Z EL n0 own nm code ml ret R Q D h kc ks pc ls (.ref b :: rest) :=
  K.plain fun p e m below c T tg hx hb X S => XT.ifnonnullYes (g := mkF m pc ls (.ref b :: rest)) X hx rfl (pc0 := pc) rfl (Jvm.hb hb hd.1) rfl hj.1 hj.2 S
theorem Runs.acY {cd : ClassFile.ACond} {x y : Value} {o : Int} {t nx : Nat} (hd : Ins code pc (.if_acmp cd o) 3 nx) (hj : Jmp pc o t) (hx' : x.isRef = true) (hy' : y.isRef = true) (hc : XT.acmp cd x y = true) (K : Runs w l Z EL n0 own nm code ml ret R Q D h kc ks t ls rest) : Runs w l Z EL n0 own nm code ml ret R Q D h kc ks pc ls (y :: x :: rest) :=
  K.plain fun p e m below c T tg hx hb X S => XT.acmpYes (g := mkF m pc ls (y :: x :: rest)) X hx rfl (pc0 := pc) rfl (Jvm.hb hb hd.1) rfl hx' hy' hc hj.1 hj.2 S
theorem Runs.ifN {cd : ClassFile.Cond} {o : Int} {x : Int32} (hd : Ins code pc (.ifCond cd o) 3 pc') (hc : if_icmp.holds cd x 0 = false) (K : Runs w l Z EL n0 own nm code ml ret R Q D h kc ks pc' ls rest) : Runs w l Z EL n0 own nm code ml ret R Q D h kc ks pc ls (.int x :: rest) := by
  obtain ⟨hd, rfl⟩ := hd
  exact K.plain fun p e m below c T t hx hb X S => XS.ifNo (g := mkF m pc ls (.int x :: rest)) X hx rfl (Jvm.hb hb hd) rfl ((if0 cd x).trans hc) S
theorem Runs.icN {cd : ClassFile.Cond} {o : Int} {x y : Int32} (hd : Ins code pc (.if_icmp cd o) 3 pc') (hc : if_icmp.holds cd x y = false) (K : Runs w l Z EL n0 own nm code ml ret R Q D h kc ks pc' ls rest) : Runs w l Z EL n0 own nm code ml ret R Q D h kc ks pc ls (.int y :: .int x :: rest) := by
  obtain ⟨hd, rfl⟩ := hd
  exact K.plain fun p e m below c T t hx hb X S => XS.icmpNo (g := mkF m pc ls (.int y :: .int x :: rest)) X hx rfl (Jvm.hb hb hd) rfl hc S
theorem Runs.nullN {o : Int} {b : Addr} (hd : Ins code pc (.ifnull o) 3 pc')  (K : Runs w l Z EL n0 own nm code ml ret R Q D h kc ks pc' ls rest) : Runs w l Z EL n0 own nm code ml ret R Q D h kc ks pc ls (.ref b :: rest) := by
  obtain ⟨hd, rfl⟩ := hd
  exact K.plain fun p e m below c T t hx hb X S => XS.ifnullNo (g := mkF m pc ls (.ref b :: rest)) X hx rfl (Jvm.hb hb hd) rfl S
theorem Runs.nnullN {o : Int} (hd : Ins code pc (.ifnonnull o) 3 pc')  (K : Runs w l Z EL n0 own nm code ml ret R Q D h kc ks pc' ls rest) : Runs w l Z EL n0 own nm code ml ret R Q D h kc ks pc ls (.null :: rest) := by
  obtain ⟨hd, rfl⟩ := hd
  exact K.plain fun p e m below c T t hx hb X S => XT.ifnonnullNo (g := mkF m pc ls (.null :: rest)) X hx rfl (Jvm.hb hb hd) rfl S
theorem Runs.acN {cd : ClassFile.ACond} {o : Int} {x y : Value} (hd : Ins code pc (.if_acmp cd o) 3 pc') (hx' : x.isRef = true) (hy' : y.isRef = true) (hc : XT.acmp cd x y = false) (K : Runs w l Z EL n0 own nm code ml ret R Q D h kc ks pc' ls rest) : Runs w l Z EL n0 own nm code ml ret R Q D h kc ks pc ls (y :: x :: rest) := by
  obtain ⟨hd, rfl⟩ := hd
  exact K.plain fun p e m below c T t hx hb X S => XT.acmpNo (g := mkF m pc ls (y :: x :: rest)) X hx rfl (Jvm.hb hb hd) rfl hx' hy' hc S

/-! the returns -/
theorem Runs.leave {v : Option Value} (hv : ret = none → v = none)
    (f : ∀ (p : Program) (e : Env) (s : State) (m : MethodId) (args : Array Value) (below : List Frame) (meth : Method) (c : Code) (T : State) (locs : List Loc), Ctx p s m meth c Z own nm code ml ret → Stand p l e R s m args below meth c T locs kc ks → ∀ fs : List Frame,
      (∀ (f : JFrame) (acts : List Action), f.method = m → f.locked = none → f.entered = [] → (doReturn e (T.setTop f) acts v).1 = T.setFrames fs) → Steps p.tables e below (T.setTop (mkF m pc ls st)) (T.setFrames fs))
    (hc : kc ≤ R.cells) (hk : ks ≤ R.slots) (hQ : Q v h D) : Runs w l Z EL n0 own nm code ml ret R Q D h kc ks pc ls st := by
  intro p e s vm0 m args below meth c T locs C X eT N O H
  have hlk : meth.locks = false := C.2.2.2.2.2.2.1
  have hr : meth.sig.returnType = ret := C.2.2.2.2.2.1
  obtain ⟨H1, ⟨a0, H2⟩, H3, H4⟩ := H
  have A := CHv.at X C.2.1 H2 H3.1
  have hs : ∀ x ∈ D, x < h.size ∧ Safe Z EL T.vm h x := fun x hx => ⟨(H4 x hx).1, A.safe (H4 x hx).1 (H4 x hx).2⟩
  have A' := H3.trans A
  subst eT
  cases w
  · have e1 : vm0 = s.vm := H1
    subst e1
    obtain ⟨fs, h1, h2, h3, h4, h5⟩ := X.leave (v := v) (fun q => hv (hr ▸ q)) hlk
    exact ⟨_, _, f p e _ m args below meth c T locs C X fs h1, h2, h3, v, locs, D, rfl, hQ, O, N, ⟨A', hs⟩, ⟨v, rfl⟩, h4, h5.mono hc hk⟩
  · obtain ⟨k0, hS, hk0⟩ := H1
    obtain ⟨fs, h1, h2, h3, ⟨g1, g2, g3, g4⟩⟩ := X.leaveW hS hk0 (v := v) (fun q => hv (hr ▸ q)) hlk
    exact ⟨_, _, f p e _ m args below meth c T locs C X fs h1, h2, h3, v, locs, D, rfl, hQ, O, N, ⟨A', hs⟩, g1, g2, g3, g4.mono hc hk⟩
theorem Runs.retV {nx : Nat} (hd : Ins code pc .return_ 1 nx) (hr : ret = none) (hc : kc ≤ R.cells) (hk : ks ≤ R.slots) (hQ : Q none h D) : Runs w l Z EL n0 own nm code ml ret R Q D h kc ks pc ls [] :=
  Runs.leave (v := none) (fun _ => rfl) (fun p e s m args below meth c T locs C X fs hl => X.returnOut C.1 (C.2.2.2.2.2.1.trans hr) (Jvm.hb C.2.2.1 hd.1) hl) hc hk hQ
theorem Runs.retI {nx : Nat} {t : FieldType} {x z : Int32} (hd : Ins code pc .ireturn 1 nx) (hr : ret = some t) (ht : t = .int ∨ t = .boolean ∨ t = .byte ∨ t = .char ∨ t = .short) (hn : narrow t (.int x) = .int z) (hc : kc ≤ R.cells) (hk : ks ≤ R.slots) (hQ : Q (some (.int z)) h D) : Runs w l Z EL n0 own nm code ml ret R Q D h kc ks pc ls [.int x] :=
  Runs.leave (v := some (.int z)) (fun q => by rw [hr] at q; cases q) (fun p e s m args below meth c T locs C X fs hl => by
    have hm' : T.vm.method? m = some meth := X.method'
    have hx := C.1
    have hd' := Jvm.hb C.2.2.1 hd.1
    have hret : meth.sig.returnType = some t := C.2.2.2.2.2.1.trans hr
    show Steps p.tables e below (T.setTop { method := m, pc := pc, locals := ls, stack := [_], locked := none }) _
    rcases ht with rfl | rfl | rfl | rfl | rfl
    all_goals
      jvm_step X.here [X.here.top, hx, hd', hm', hret, hn]
      first | (intro acts; rw [hl _ acts rfl rfl rfl]) | rw [hl _ _ rfl rfl rfl]
      exact Steps.refl _) hc hk hQ
theorem Runs.retA {nx : Nat} {t : FieldType} {x : Value} (hd : Ins code pc .areturn 1 nx) (hr : ret = some t) (ht : t.isReference = true) (hx : x.isRef = true) (hc : kc ≤ R.cells) (hk : ks ≤ R.slots) (hQ : Q (some x) h D) : Runs w l Z EL n0 own nm code ml ret R Q D h kc ks pc ls [x] :=
  Runs.leave (v := some x) (fun q => by rw [hr] at q; cases q) (fun p e s m args below meth c T locs C X fs hl =>
    RoadKit.retOut X C.1 (C.2.2.2.2.2.1.trans hr) (by cases x <;> first | rfl | (simp [Value.isRef] at hx; done) | (cases t <;> first | rfl | (simp [FieldType.isReference] at ht; done))) (Or.inr (Or.inr (Or.inr (Or.inr ⟨rfl, ht, hx⟩)))) (Jvm.hb C.2.2.1 hd.1) hl) hc hk hQ
theorem Runs.retJ {nx : Nat} {x : Int64} (hd : Ins code pc .lreturn 1 nx) (hr : ret = some .long) (hc : kc ≤ R.cells) (hk : ks ≤ R.slots) (hQ : Q (some (.long x)) h D) : Runs w l Z EL n0 own nm code ml ret R Q D h kc ks pc ls [.long x] :=
  Runs.leave (v := some (.long x)) (fun q => by rw [hr] at q; cases q) (fun p e s m args below meth c T locs C X fs hl =>
    RoadKit.retOut X C.1 (C.2.2.2.2.2.1.trans hr) rfl (Or.inr (Or.inl ⟨rfl, rfl, x, rfl⟩)) (Jvm.hb C.2.2.1 hd.1) hl) hc hk hQ
/-! statics, fields, constants -/
theorem Runs.getS {R0 O n d : String} {index : Nat} {v : Value} (hd : Ins code pc (.getstatic index) 3 pc') (wl : (Cond.fieldLink own index R0 n d).before a0 Z = true) (via : Via Z R0 O n d) (F : Sta Z Z.heap O n d v) (K : Runs w l Z EL n0 own nm code ml ret R Q D h kc ks pc' ls (v :: st)) : Runs w l Z EL n0 own nm code ml ret R Q D h kc ks pc ls st := by
  obtain ⟨hd, rfl⟩ := hd
  exact K.warm fun p e s m args below meth c T locs C X eT O => RoadKit.getS (host := "") X C.1 C.2.1 C.2.2.2.2.1 wl via eT (F.ext O.2) (g := mkF m pc ls st) rfl (Jvm.hb C.2.2.1 hd)
theorem Runs.getSN {R0 O n d host : String} {index : Nat} {v : Value} (hd : Ins code pc (.getstatic index) 3 pc') (wl : (Cond.fieldLinkNest own index R0 n d host).before a0 Z = true) (via : Via Z R0 O n d) (F : Sta Z Z.heap O n d v) (K : Runs w l Z EL n0 own nm code ml ret R Q D h kc ks pc' ls (v :: st)) : Runs w l Z EL n0 own nm code ml ret R Q D h kc ks pc ls st := by
  obtain ⟨hd, rfl⟩ := hd
  exact K.warm fun p e s m args below meth c T locs C X eT O => RoadKit.getS2 (host := host) X C.1 C.2.1 C.2.2.2.2.1 (Or.inr wl) via eT (F.ext O.2) (g := mkF m pc ls st) rfl (Jvm.hb C.2.2.1 hd)
theorem Runs.getF {R0 O n d host : String} {index : Nat} {a : Addr} {v : Value} (hd : Ins code pc (.getfield index) 3 pc') (wl : (Cond.fieldLink own index R0 n d).before a0 Z = true ∨ (Cond.fieldLinkNest own index R0 n d host).before a0 Z = true) (via : Via Z R0 O n d) (F : Fld Z h a O n d v) (K : Runs w l Z EL n0 own nm code ml ret R Q D h kc ks pc' ls (v :: rest)) : Runs w l Z EL n0 own nm code ml ret R Q D h kc ks pc ls (.ref a :: rest) := by
  obtain ⟨hd, rfl⟩ := hd
  exact K.warm fun p e s m args below meth c T locs C X eT O => RoadKit.getF X C.1 C.2.1 C.2.2.2.2.1 wl via eT F (g := mkF m pc ls (.ref a :: rest)) rfl rfl (Jvm.hb C.2.2.1 hd)
theorem Runs.ldcI {index : Nat} {v : Int32} (hd : Ins code pc (.ldc index) 2 pc') (wl : (Cond.constant own index v).before a0 Z = true) (K : Runs w l Z EL n0 own nm code ml ret R Q D h kc ks pc' ls (.int v :: st)) : Runs w l Z EL n0 own nm code ml ret R Q D h kc ks pc ls st := by
  obtain ⟨hd, rfl⟩ := hd
  exact K.warm fun p e s m args below meth c T locs C X eT O => ⟨T, X, eT, fun t S => X.ldcI C.1 C.2.2.2.2.1 (mv C.2.1 wl) (g := mkF m pc ls st) rfl (Jvm.hb C.2.2.1 hd) S⟩
theorem Runs.ldcJ {index : Nat} {v : Int64} (hd : Ins code pc (.ldc2_w index) 3 pc') (wl : (Cond.constantLong own index v).before a0 Z = true) (K : Runs w l Z EL n0 own nm code ml ret R Q D h kc ks pc' ls (.long v :: st)) : Runs w l Z EL n0 own nm code ml ret R Q D h kc ks pc ls st := by
  obtain ⟨hd, rfl⟩ := hd
  exact K.warm fun p e s m args below meth c T locs C X eT O => ⟨T, X, eT, fun t S => X.ldc2J C.1 C.2.2.2.2.1 (mv C.2.1 wl) (g := mkF m pc ls st) rfl (Jvm.hb C.2.2.1 hd) S⟩
end W


/-! objects, arrays -/
abbrev FV := String × String × String × Value
def FV.key (f : FV) : String × String × String := (f.1, f.2.1, f.2.2.1)
/-- the object at a is exactly a C; its fields fs hold what they say -/
def Obj (Z : State) (h : Heap) (a : Addr) (C : String) (fs : List FV) : Prop := Exa Z h a C ∧ ∀ f ∈ fs, Fld Z h a f.1 f.2.1 f.2.2.1 f.2.2.2
/-- the fields of a C, at their first values -/
def LayD (Z : State) (a0 : Array Value) (C : String) (dl : List FV) : Prop := (∀ f ∈ dl, Laid Z a0 C f.1 f.2.1 f.2.2.1 ∧ ∃ t, parseFieldDescriptor f.2.2.1 = some t ∧ defaultValue t = f.2.2.2) ∧ (dl.map fun f => f.2.1).Nodup
section H
variable {Z : State} {h h' : Heap} {a b : Addr} {C : String} {fs dl : List FV} {ws : List Addr} {a0 : Array Value}
theorem Obj.fld {i : Nat} {o n d : String} {v : Value} (O : Obj Z h a C fs) (hi : fs[i]? = some (o, n, d, v)) : Fld Z h a o n d v := O.2 _ (List.mem_of_getElem? hi)
theorem Obj.keep (O : Obj Z h a C fs) (K : Keep h h' ws) (q : a ∉ ws) : Obj Z h' a C fs := ⟨O.1.keep K, fun f hf => (O.2 f hf).keep K q⟩
theorem Obj.ext (O : Obj Z h a C fs) (E : Ext h h') : Obj Z h' a C fs := ⟨O.1.ext E, fun f hf => (O.2 f hf).ext E⟩
theorem Obj.lt (O : Obj Z h a C fs) : a < h.size := O.1.lt
theorem Obj.sub {gs : List FV} (O : Obj Z h a C fs) (q : ∀ f ∈ gs, f ∈ fs) : Obj Z h a C gs := ⟨O.1, fun f hf => O.2 f (q f hf)⟩
theorem keepE (E : Ext h h') : Keep h h' ws := (Keep.refl h ws).ext E
theorem Keep.sub {ws' : List Addr} (K : Keep h h' ws) (q : ∀ x ∈ ws, x ∈ ws') : Keep h h' ws' := ⟨K.1, fun x c e r => K.2.1 x c e fun z => r (q x z), K.2.2⟩
theorem nodup_key : ∀ {dl : List FV} {i j : Nat} {f g : FV}, (dl.map fun f => f.2.1).Nodup → dl[i]? = some f → dl[j]? = some g → i ≠ j → f.2.1 ≠ g.2.1 := by
  intro dl i j f g hn hi hj hij he
  obtain ⟨h1, e1⟩ := List.getElem?_eq_some_iff.mp hi
  obtain ⟨h2, e2⟩ := List.getElem?_eq_some_iff.mp hj
  have hp := List.pairwise_iff_getElem.mp hn
  rcases Nat.lt_or_gt_of_ne hij with q | q
  · exact hp i j (by simpa using h1) (by simpa using h2) q (by simp only [List.getElem_map, e1, e2]; exact he)
  · exact hp j i (by simpa using h2) (by simpa using h1) q (by simp only [List.getElem_map, e1, e2]; exact he.symm)
theorem Obj.put {i : Nat} {o n d : String} {old v : Value} (O : Obj Z h a C fs) (hi : fs[i]? = some (o, n, d, old)) (L : LayD Z a0 C dl) (hk : fs.map FV.key = dl.map FV.key) (W : Wr h h' a (RoadKit.slotOf Z o n d) v) : Obj Z h' a C (fs.set i (o, n, d, v)) := by
  refine ⟨O.1.wr W, fun f hf => ?_⟩
  obtain ⟨j, hj⟩ := List.mem_iff_getElem?.mp hf
  by_cases e : i = j
  · subst e
    rw [List.getElem?_set_self (by exact (List.getElem?_eq_some_iff.mp hi).1)] at hj
    cases hj
    exact (O.fld hi).same W
  · rw [List.getElem?_set_ne e] at hj
    obtain ⟨o', n', d', v'⟩ := f
    have F := O.fld hj
    have key : ∀ {k : Nat} {g : FV}, fs[k]? = some g → ∃ g' : FV, dl[k]? = some g' ∧ g'.key = g.key := fun {k g} q => by
      have q' : (fs.map FV.key)[k]? = some g.key := by simp [q]
      rw [hk, List.getElem?_map] at q'
      cases hd : dl[k]? with
      | none => simp [hd] at q'
      | some g' => exact ⟨g', rfl, by simpa [hd] using q'⟩
    obtain ⟨f1, q1, k1⟩ := key hi
    obtain ⟨f2, q2, k2⟩ := key hj
    have hne := nodup_key L.2 q1 q2 e
    obtain ⟨L1, t1, p1, -⟩ := L.1 f1 (List.mem_of_getElem? q1)
    obtain ⟨L2, t2, p2, -⟩ := L.1 f2 (List.mem_of_getElem? q2)
    simp only [FV.key, Prod.mk.injEq] at k1 k2
    obtain ⟨a1, b1, c1⟩ := k1
    obtain ⟨a2, b2, c2⟩ := k2
    rw [a1, b1, c1] at L1; rw [a2, b2, c2] at L2; rw [c1] at p1; rw [c2] at p2
    exact F.other W (Or.inr (slot_ne L2 L1 (by rw [← b1, ← b2]; exact fun z => hne z.symm) p2 p1))
end H
section W2
variable {w : Bool} {l : Launch} {Z : State} {EL : List (String × Nat)} {n0 : Nat} {own nm : String} {code : ByteArray} {ml : Nat} {ret : Option FieldType} {R : Room} {Q : Option Value → Heap → List Addr → Prop} {D : List Addr} {h h' : Heap} {kc ks pc pc' : Nat} {ls ls' : Array Slot} {st st' rest : List Value} {a0 : Array Value} {s : State} {vm0 : Vm}
theorem Hid.keep {ws : List Addr} (H : Hid w Z EL D s vm0 h) (K : Keep h h' ws) (q : ∀ x ∈ ws, Safe Z EL vm0 h x) : Hid w Z EL D s vm0 h' := by
  obtain ⟨H1, H2, H3, H4⟩ := H
  refine ⟨?_, H2, H3.trans (CHr.keep K q H3.1), fun x hx => ⟨Nat.lt_of_lt_of_le (H4 x hx).1 K.1, (H4 x hx).2.keep K q H3.1⟩⟩
  split
  · rename_i e; rw [if_pos e] at H1; obtain ⟨k0, g1, g2⟩ := H1; exact ⟨k0, g1, Nat.le_trans g2 K.1⟩
  · rename_i e; rw [if_neg e] at H1; exact H1
theorem Hid.more {b : Addr} (H : Hid w Z EL D s vm0 h) (E : Ext h h') (hb : h.size ≤ b) (hb' : b < h'.size) : Hid w Z EL (b :: D) s vm0 h' := by
  have H' := H.keep (keepE (ws := []) E) (fun x q => nomatch q)
  refine ⟨H'.1, H'.2.1, H'.2.2.1, fun x hx => ?_⟩
  rcases List.mem_cons.mp hx with rfl | hx
  · exact ⟨hb', (Safe.new hb).ext E H.2.2.1.1⟩
  · exact H'.2.2.2 x hx
/-- a step that writes one old place, or none -/
theorem Runs.write {ws : List Addr} {P : Heap → Prop} (hg : ∀ x ∈ ws, n0 ≤ x) (hs : ∀ vm0 : Vm, Z.vm.Alike vm0 → (∀ x ∈ D, Safe Z EL vm0 h x) → ∀ x ∈ ws, Safe Z EL vm0 h x)
    (K : ∀ h', Keep h h' ws → P h' → Runs w l Z EL n0 own nm code ml ret R Q D h' kc ks pc' ls' st')
    (f : ∀ (p : Program) (e : Env) (s : State) (m : MethodId) (args : Array Value) (below : List Frame) (meth : Method) (c : Code) (T : State) (locs : List Loc), Ctx p s m meth c Z own nm code ml ret → Stand p l e R s m args below meth c T locs kc ks → T.heap = h → Old Z n0 h → Fr n0 locs →
      ∃ T' locs', Stand p l e R s m args below meth c T' locs' kc ks ∧ Fr n0 locs' ∧ Keep h T'.heap ws ∧ P T'.heap ∧ ∀ target, Steps p.tables e below (T'.setTop (mkF m pc' ls' st')) target → Steps p.tables e below (T.setTop (mkF m pc ls st)) target) : Runs w l Z EL n0 own nm code ml ret R Q D h kc ks pc ls st := by
  intro p e s vm0 m args below meth c T locs C X eT N O H
  obtain ⟨T', locs', X', N', K', P', S'⟩ := f p e _ m args below meth c T locs C X eT O N
  obtain ⟨s₂, o, S, r⟩ := K _ K' P' p e s vm0 m args below meth c T' locs' C X' rfl N' (O.keep K' hg) (H.keep K' (hs vm0 C.2.1.alike (fun x hx => (H.2.2.2 x hx).2)))
  exact ⟨s₂, o, S' _ S, r⟩
theorem safeC {a : Addr} {C : String} (E : Exa Z h a C) (hs : a ∈ D ∨ (C ≠ "java/lang/String" ∧ C ≠ "[B")) : ∀ vm0 : Vm, Z.vm.Alike vm0 → (∀ x ∈ D, Safe Z EL vm0 h x) → ∀ x ∈ [a], Safe Z EL vm0 h x := fun vm0 hal hD x hx => by
  cases List.mem_singleton.mp hx
  rcases hs with hs | hs
  · exact hD _ hs
  · exact Safe.exa hal E hs.1 hs.2
theorem safeA {a : Addr} {k : ClassId} {ty : FieldType} {z : Int32} {vs : List Value} {d : Value} (A : Arv Z h a k ty z vs d) (hs : a ∈ D ∨ ty ≠ .byte) : ∀ vm0 : Vm, Z.vm.Alike vm0 → (∀ x ∈ D, Safe Z EL vm0 h x) → ∀ x ∈ [a], Safe Z EL vm0 h x := fun vm0 hal hD x hx => by
  cases List.mem_singleton.mp hx
  rcases hs with hs | hs
  · exact hD _ hs
  · exact Safe.arv hal A hs
theorem one_ge {a : Addr} (hg : n0 ≤ a) : ∀ x ∈ [a], n0 ≤ x := fun x hx => by cases List.mem_singleton.mp hx; exact hg
theorem Runs.putF {R0 O n d host C : String} {index kk i : Nat} {ty : FieldType} {a : Addr} {v old : Value} {fs dl : List FV} (hd : Ins code pc (.putfield index) 3 pc') (wl : (Cond.fieldLink own index R0 n d).before a0 Z = true ∨ (Cond.fieldLinkNest own index R0 n d host).before a0 Z = true) (via : Via Z R0 O n d)
    (B : Obj Z h a C fs) (hi : fs[i]? = some (O, n, d, old)) (LD : LayD Z a0 C dl) (hk : fs.map FV.key = dl.map FV.key) (L : (Cond.lays C O n d).before a0 Z = true ∨ ((Cond.laysFinal C O n d).before a0 Z = true ∧ own = O ∧ nm = "<init>")) (wi : (Cond.instantiable C kk).before a0 Z = true)
    (hty : parseFieldDescriptor d = some ty) (hn : narrow ty v = v) (hf : fits ty v = true) (hg : n0 ≤ a) (hs : a ∈ D ∨ (C ≠ "java/lang/String" ∧ C ≠ "[B"))
    (K : ∀ h', Keep h h' [a] → Obj Z h' a C (fs.set i (O, n, d, v)) → Runs w l Z EL n0 own nm code ml ret R Q D h' kc ks pc' ls rest) : Runs w l Z EL n0 own nm code ml ret R Q D h kc ks pc ls (v :: .ref a :: rest) := by
  obtain ⟨hd, rfl⟩ := hd
  refine Runs.write (P := fun h' => Obj Z h' a C (fs.set i (O, n, d, v))) (one_ge hg) (safeC B.1 hs) K fun p e s m args below meth c T locs Cx X eT Ol N => ?_
  obtain ⟨T', h1, X', e1, W1, S1⟩ := RoadKit.putF X Cx.1 Cx.2.1 Cx.2.2.2.2.1 wl via eT (B.fld hi) B.1 (L.imp id fun q => ⟨q.1, q.2.1, Cx.2.2.2.2.2.2.2.trans q.2.2⟩) wi hty hn hf (g := mkF m pc ls (v :: .ref a :: rest)) rfl rfl (Jvm.hb Cx.2.2.1 hd)
  subst e1
  exact ⟨T', _, X', Fr.snoc X' N hg, Keep.of_wr W1, B.put hi LD hk W1, S1⟩
theorem Runs.newO {C : String} {index n : Nat} {dl : List FV} (hd : Ins code pc (.new index) 3 pc') (w1 : (Cond.classLink own index C).before a0 Z = true) (w2 : (Cond.instantiable C n).before a0 Z = true) (w3 : (Cond.initialized C).before a0 Z = true) (LD : LayD Z a0 C dl) (hc : kc + 1 ≤ R.cells) (hl : ks + n ≤ R.slots)
    (K : ∀ h' b, h.size ≤ b → n0 ≤ b → Keep h h' [] → Obj Z h' b C dl → Unt h' b → Runs w l Z EL n0 own nm code ml ret R Q (b :: D) h' (kc + 1) (ks + n) pc' ls (.ref b :: st)) : Runs w l Z EL n0 own nm code ml ret R Q D h kc ks pc ls st := by
  obtain ⟨hd, rfl⟩ := hd
  intro p e s vm0 m args below meth c T locs C' X eT N O H
  obtain ⟨T', h1, X', e1, E1, A1, D1, U1, S1⟩ := RoadKit.newO X C'.1 C'.2.1 C'.2.2.2.2.1 w1 w2 w3 eT (g := mkF m pc ls st) rfl (Jvm.hb C'.2.2.1 hd) hc hl
  subst e1
  have hO : n0 ≤ h.size := by rw [← O.1]; exact O.2.1
  obtain ⟨s₂, o, S, r⟩ := K _ h.size (Nat.le_refl _) hO (keepE E1) ⟨A1, fun f hf => by obtain ⟨L1, t, p1, d1⟩ := LD.1 f hf; rw [← d1]; exact D1 L1 p1⟩ U1 p e s vm0 m args below meth c T' locs C' X' rfl N (O.ext E1) (H.more E1 (Nat.le_refl _) A1.lt)
  exact ⟨s₂, o, S1 _ S, r⟩
theorem Runs.newP {aty : ArrayType} {n : Int32} {cap : Nat} {ad : String} (hd : Ins code pc (.newarray aty) 2 pc') (w1 : (Cond.arrayClass (newarray.typeOf aty)).before a0 Z = true) (hn : ¬ n < 0) (hcap : n.toNatClampNeg ≤ cap) (hb : cap * 8 ≤ 536870912) (hc : kc + 1 ≤ R.cells) (hl : ks + cap ≤ R.slots) (had : "[" ++ (newarray.typeOf aty).toString = ad)
    (K : ∀ h' b k, h.size ≤ b → n0 ≤ b → Keep h h' [] → Arv Z h' b k (newarray.typeOf aty) n [] (defaultValue (newarray.typeOf aty)) → Exa Z h' b ad → Runs w l Z EL n0 own nm code ml ret R Q (b :: D) h' (kc + 1) (ks + cap) pc' ls (.ref b :: rest)) : Runs w l Z EL n0 own nm code ml ret R Q D h kc ks pc ls (.int n :: rest) := by
  obtain ⟨hd, rfl⟩ := hd
  intro p e s vm0 m args below meth c T locs C' X eT N O H
  obtain ⟨T', h1, cA, X', e1, E1, A1, x1, S1⟩ := RoadKit.newPE X C'.1 C'.2.1 w1 eT (g := mkF m pc ls (.int n :: rest)) rfl (Jvm.hb C'.2.2.1 hd) rfl hn hcap hb hc hl had
  subst e1
  have hO : n0 ≤ h.size := by rw [← O.1]; exact O.2.1
  obtain ⟨s₂, o, S, r⟩ := K _ h.size cA (Nat.le_refl _) hO (keepE E1) (Arv.new A1 hn) x1 p e s vm0 m args below meth c T' locs C' X' rfl N (O.ext E1) (H.more E1 (Nat.le_refl _) x1.lt)
  exact ⟨s₂, o, S1 _ S, r⟩
theorem Runs.arrlen {a : Addr} {k : ClassId} {ty : FieldType} {z : Int32} {vs : List Value} {d : Value} (hd : Ins code pc .arraylength 1 pc') (A : Arv Z h a k ty z vs d) (K : Runs w l Z EL n0 own nm code ml ret R Q D h kc ks pc' ls (.int z :: rest)) : Runs w l Z EL n0 own nm code ml ret R Q D h kc ks pc ls (.ref a :: rest) := by
  obtain ⟨hd, rfl⟩ := hd
  obtain ⟨cl, A1, -, S1, q, -⟩ := A
  refine K.warm fun p e s m args below meth c T locs C X eT O => ⟨T, X, eT, fun t S => X.arraylength C.1 (by rw [eT]; exact A1.1) (State.isArrayOf_alike C.2.1.alike A1.2.1) (g := mkF m pc ls (.ref a :: rest)) rfl rfl (Jvm.hb C.2.2.1 hd) t ?_⟩
  rw [len_of S1 q]; exact S

theorem Runs.baload {a : Addr} {k : ClassId} {z j : Int32} {vs : List Value} {d v : Value} (hd : Ins code pc .baload 1 pc') (A : Arv Z h a k .byte z vs d) (hj : ¬ j < 0 ∧ j < z) (hv : vs.getD j.toNatClampNeg d = v) (K : Runs w l Z EL n0 own nm code ml ret R Q D h kc ks pc' ls (v :: rest)) : Runs w l Z EL n0 own nm code ml ret R Q D h kc ks pc ls (.int j :: .ref a :: rest) := by
  obtain ⟨hd, rfl⟩ := hd
  obtain ⟨cl, A1, -, S1, q, H1, -⟩ := A
  have hin := inb_of S1 hj
  exact K.warm fun p e s m args below meth c T locs C X eT O => ⟨T, X, eT, fun t S => X.baloadBytes C.1 (by rw [eT]; exact A1.1) (State.isArrayOf_alike C.2.1.alike A1.2.1) A1.2.2 hin (H1.at hin hv) (g := mkF m pc ls (.int j :: .ref a :: rest)) rfl rfl (Jvm.hb C.2.2.1 hd) t S⟩
theorem Runs.caload {a : Addr} {k : ClassId} {z j : Int32} {vs : List Value} {d v : Value} (hd : Ins code pc .caload 1 pc') (A : Arv Z h a k .char z vs d) (hj : ¬ j < 0 ∧ j < z) (hv : vs.getD j.toNatClampNeg d = v) (K : Runs w l Z EL n0 own nm code ml ret R Q D h kc ks pc' ls (v :: rest)) : Runs w l Z EL n0 own nm code ml ret R Q D h kc ks pc ls (.int j :: .ref a :: rest) := by
  obtain ⟨hd, rfl⟩ := hd
  obtain ⟨cl, A1, -, S1, q, H1, -⟩ := A
  have hin := inb_of S1 hj
  exact K.warm fun p e s m args below meth c T locs C X eT O => ⟨T, X, eT, fun t S => X.caload C.1 (by rw [eT]; exact A1.1) (State.isArrayOf_alike C.2.1.alike A1.2.1) A1.2.2 hin (H1.at hin hv) (g := mkF m pc ls (.int j :: .ref a :: rest)) rfl rfl (Jvm.hb C.2.2.1 hd) t S⟩
theorem Runs.iaload {a : Addr} {k : ClassId} {z j : Int32} {vs : List Value} {d v : Value} (hd : Ins code pc .iaload 1 pc') (A : Arv Z h a k .int z vs d) (hj : ¬ j < 0 ∧ j < z) (hv : vs.getD j.toNatClampNeg d = v) (K : Runs w l Z EL n0 own nm code ml ret R Q D h kc ks pc' ls (v :: rest)) : Runs w l Z EL n0 own nm code ml ret R Q D h kc ks pc ls (.int j :: .ref a :: rest) := by
  obtain ⟨hd, rfl⟩ := hd
  obtain ⟨cl, A1, -, S1, q, H1, -⟩ := A
  have hin := inb_of S1 hj
  exact K.warm fun p e s m args below meth c T locs C X eT O => ⟨T, X, eT, fun t S => X.iaload C.1 (by rw [eT]; exact A1.1) (State.isArrayOf_alike C.2.1.alike A1.2.1) A1.2.2 hin (H1.at hin hv) (g := mkF m pc ls (.int j :: .ref a :: rest)) rfl rfl (Jvm.hb C.2.2.1 hd) t S⟩
theorem Runs.aaload {a : Addr} {k : ClassId} {z j : Int32} {vs : List Value} {d v : Value} {ty : FieldType} (hd : Ins code pc .aaload 1 pc') (A : Arv Z h a k ty z vs d) (hty : ty.isReference = true) (hj : ¬ j < 0 ∧ j < z) (hv : vs.getD j.toNatClampNeg d = v) (K : Runs w l Z EL n0 own nm code ml ret R Q D h kc ks pc' ls (v :: rest)) : Runs w l Z EL n0 own nm code ml ret R Q D h kc ks pc ls (.int j :: .ref a :: rest) := by
  obtain ⟨hd, rfl⟩ := hd
  obtain ⟨cl, A1, -, S1, q, H1, -⟩ := A
  have hin := inb_of S1 hj
  exact K.warm fun p e s m args below meth c T locs C X eT O => ⟨T, X, eT, fun t S => X.aaload C.1 (by rw [eT]; exact A1.1) (State.isArrayOf_alike C.2.1.alike A1.2.1) hty A1.2.2 hin (H1.at hin hv) (g := mkF m pc ls (.int j :: .ref a :: rest)) rfl rfl (Jvm.hb C.2.2.1 hd) t S⟩
theorem Runs.bastore {a : Addr} {k : ClassId} {z j x y : Int32} {vs : List Value} {d : Value} {i : Nat} (hd : Ins code pc .bastore 1 pc') (A : Arv Z h a k .byte z vs d) (hj : ¬ j < 0 ∧ j < z) (hi : j.toNatClampNeg = i) (hil : i < vs.length) (hy : x.toInt8.toInt32 = y) (hg : n0 ≤ a) (hs : a ∈ D ∨ (.byte : FieldType) ≠ .byte) (K : ∀ h', Keep h h' [a] → Arv Z h' a k .byte z (vs.set i (.int y)) d → Runs w l Z EL n0 own nm code ml ret R Q D h' kc ks pc' ls rest) : Runs w l Z EL n0 own nm code ml ret R Q D h kc ks pc ls (.int x :: .int j :: .ref a :: rest) := by
  obtain ⟨hd, rfl⟩ := hd
  subst hy
  refine Runs.write (P := fun h' => Arv Z h' a k .byte z (vs.set i (.int (x.toInt8.toInt32))) d) (one_ge hg) (safeA A hs) K fun p e s m args below meth c T locs Cx X eT Ol N => ?_
  obtain ⟨cl, A1, q1, S1, q, H1, G1⟩ := A
  obtain ⟨T', h1, X', e1, W1, st1⟩ := RoadKit.stB X Cx.1 Cx.2.1 eT A1 (inb_of S1 hj) (g := mkF m pc ls (.int x :: .int j :: .ref a :: rest)) rfl rfl (Jvm.hb Cx.2.2.1 hd)
  subst e1
  exact ⟨T', _, X', Fr.snoc X' N hg, Keep.of_wr W1, Arv.set A1 q1 S1 q H1 G1 (fits_nar_byte x) W1 i hi hil, st1⟩
theorem Runs.castore {a : Addr} {k : ClassId} {z j x y : Int32} {vs : List Value} {d : Value} {i : Nat} (hd : Ins code pc .castore 1 pc') (A : Arv Z h a k .char z vs d) (hj : ¬ j < 0 ∧ j < z) (hi : j.toNatClampNeg = i) (hil : i < vs.length) (hy : nar .char x = y) (hg : n0 ≤ a) (hs : a ∈ D ∨ (.char : FieldType) ≠ .byte) (K : ∀ h', Keep h h' [a] → Arv Z h' a k .char z (vs.set i (.int y)) d → Runs w l Z EL n0 own nm code ml ret R Q D h' kc ks pc' ls rest) : Runs w l Z EL n0 own nm code ml ret R Q D h kc ks pc ls (.int x :: .int j :: .ref a :: rest) := by
  obtain ⟨hd, rfl⟩ := hd
  subst hy
  refine Runs.write (P := fun h' => Arv Z h' a k .char z (vs.set i (.int (nar .char x))) d) (one_ge hg) (safeA A hs) K fun p e s m args below meth c T locs Cx X eT Ol N => ?_
  obtain ⟨cl, A1, q1, S1, q, H1, G1⟩ := A
  obtain ⟨T', h1, X', e1, W1, st1⟩ := RoadKit.stC X Cx.1 Cx.2.1 eT A1 (inb_of S1 hj) (g := mkF m pc ls (.int x :: .int j :: .ref a :: rest)) rfl rfl (Jvm.hb Cx.2.2.1 hd)
  subst e1
  exact ⟨T', _, X', Fr.snoc X' N hg, Keep.of_wr W1, Arv.set A1 q1 S1 q H1 G1 (fits_nar_char x) W1 i hi hil, st1⟩
theorem Runs.iastore {a : Addr} {k : ClassId} {z j x y : Int32} {vs : List Value} {d : Value} {i : Nat} (hd : Ins code pc .iastore 1 pc') (A : Arv Z h a k .int z vs d) (hj : ¬ j < 0 ∧ j < z) (hi : j.toNatClampNeg = i) (hil : i < vs.length) (hy : x = y) (hg : n0 ≤ a) (hs : a ∈ D ∨ (.int : FieldType) ≠ .byte) (K : ∀ h', Keep h h' [a] → Arv Z h' a k .int z (vs.set i (.int y)) d → Runs w l Z EL n0 own nm code ml ret R Q D h' kc ks pc' ls rest) : Runs w l Z EL n0 own nm code ml ret R Q D h kc ks pc ls (.int x :: .int j :: .ref a :: rest) := by
  obtain ⟨hd, rfl⟩ := hd
  subst hy
  refine Runs.write (P := fun h' => Arv Z h' a k .int z (vs.set i (.int (x))) d) (one_ge hg) (safeA A hs) K fun p e s m args below meth c T locs Cx X eT Ol N => ?_
  obtain ⟨cl, A1, q1, S1, q, H1, G1⟩ := A
  obtain ⟨T', h1, X', e1, W1, st1⟩ := RoadKit.stI X Cx.1 Cx.2.1 eT A1 (inb_of S1 hj) (g := mkF m pc ls (.int x :: .int j :: .ref a :: rest)) rfl rfl (Jvm.hb Cx.2.2.1 hd)
  subst e1
  exact ⟨T', _, X', Fr.snoc X' N hg, Keep.of_wr W1, Arv.set A1 q1 S1 q H1 G1 (rfl) W1 i hi hil, st1⟩

theorem Runs.initO {idx W : Nat} {a : Addr} (hd : Ins code pc (.invokespecial idx) 3 pc') (w1 : (Cond.methodLink own idx Lib.objectInit).before a0 Z = true) (w2 : (Cond.instanceMethod Lib.objectInit).before a0 Z = true) (w3 : (Cond.code Lib.objectInit ⟨#[0xb1]⟩ 1 none).before a0 Z = true) (hls : ls.size = ml) (hf : 1 ≤ R.frames) (hW : (rest.map fun v => v.category).sum = W) (hl : W + 12 ≤ R.locals)
    (K : Runs w l Z EL n0 own nm code ml ret R Q D h kc ks pc' ls rest) : Runs w l Z EL n0 own nm code ml ret R Q D h kc ks pc ls (.ref a :: rest) := by
  obtain ⟨hd, rfl⟩ := hd
  exact K.warm fun p e s m args below meth c T locs C X eT O => RoadKit.initO X C.1 C.2.1 C.2.2.2.2.1 w1 w2 w3 eT (g := mkF m pc ls (.ref a :: rest)) rfl (by rw [C.2.2.2.1]; exact hls) rfl (Jvm.hb C.2.2.1 hd) hf (W := W) (by show 2 * 0 + _ ≤ _; omega) hl
end W2


/-! calls by a contract: no constant is interned (w = false) -/
section P
variable {l : Launch} {Z : State} {n0 : Nat} {own nm : String} {code : ByteArray} {ml : Nat} {ret : Option FieldType} {R : Room} {Q : Option Value → Heap → List Addr → Prop} {D : List Addr} {h : Heap} {kc ks pc pc' : Nat} {ls : Array Slot} {st rest : List Value} {a0 : Array Value}
theorem ch0 {vm : Vm} {h : Heap} : CHv Z [] vm h := fun p hp => by cases hp
theorem safe0 {vm : Vm} {h : Heap} {x : Addr} : Safe Z [] vm h x := fun ⟨p, hp, _⟩ => by cases hp
theorem chr0 {vm vm1 : Vm} {h h1 : Heap} (q : h.size ≤ h1.size) : CHr Z [] vm h vm1 h1 := ⟨ch0, q, fun _ ⟨p, hp, _⟩ => by cases hp⟩
theorem hid0 {s : State} {h : Heap} (q : s.heap.size ≤ h.size) (hD : ∀ x ∈ D, x < h.size) : Hid false Z [] D s s.vm h := ⟨rfl, ⟨#[], EW.nil⟩, chr0 q, fun x hx => ⟨hD x hx, safe0⟩⟩
/-- a callee's contract as what the call laws ask -/
theorem Con.back {p : Program} {e : Env} {s : State} {args : Array Value} {below : List Frame} {y : MethodName} {bytes : ByteArray} {maxL : Nat} {rt : Option FieldType} {rm : Room} {as' : Array Value} {Q' : Option Value → Heap → List Addr → Prop} {len W : Nat}
    (H : Con false l Z [] n0 y bytes maxL rt rm as' D h Q') (hO : Old Z n0 h) (hD : ∀ x ∈ D, x < h.size) (hZ : Z.Warmed39 s.vm) (wc : (Cond.code y bytes maxL rt).before a0 Z = true) (wz : (Cond.initialized y.cls).before a0 Z = true) (hf : rm.frames + 1 ≤ R.frames) (hl : W + (maxL + 11) + rm.locals ≤ R.locals) :
    Back l R p e below s args y len W (fun A a => a = as' ∧ A.U.heap = h ∧ A.cells + rm.cells ≤ R.cells ∧ A.slots + rm.slots ≤ R.slots)
      (fun A _ v B => ∃ L D', Q' v B.U.heap D' ∧ Old Z n0 B.U.heap ∧ Fr n0 L ∧ h.size ≤ B.U.heap.size ∧ (∀ x ∈ D', x < B.U.heap.size) ∧ B.locs = A.locs ++ L ∧ B.cells = A.cells + rm.cells ∧ B.slots = A.slots + rm.slots) :=
  Back.of_free (bytes := bytes) (maxL := maxL) (ret := rt) (E := fun _ first o t L k n => k = rm.cells ∧ n = rm.slots ∧ ∃ v D', o = .returned v ∧ Q' v t.heap D' ∧ Old Z n0 t.heap ∧ Fr n0 L ∧ first.heap.size ≤ t.heap.size ∧ ∀ x ∈ D', x < t.heap.size) (H []) hf hl
    (fun m meth c A a Y hp => have hU : Z.Warmed39 A.U.vm := wtrans hZ Y.warmed
      ⟨by show (Cond.and _ .tt).before a A.U = true; rw [Cond.before_and, mv hU wc]; rfl, mv hU wc, mv hU wz, hp.2.2.1, hp.2.2.2⟩)
    (fun m meth c A a g mk Y hp => ⟨hp.1, wtrans hZ Y.warmed, hp.2.1, hO, ⟨#[], EW.nil⟩, ch0, fun x hx => ⟨hD x hx, safe0⟩⟩) (fun _ _ _ _ _ _ _ _ _ => trivial)
    (fun _ _ _ _ ⟨v, L, D', h1, h2, h3, h4, h5, h6⟩ => ⟨L, _, _, h6, rfl, rfl, v, D', h1, h2, h3, h4, h5.1.2.1, fun x hx => (h5.2 x hx).1⟩)
    (fun m meth c A a g mk v t L k n Y hp _ _ ⟨e1, e2, v', D', e3, e4, e5, e6, e7, e8⟩ => by
      cases e3; subst e1 e2
      exact ⟨L, D', e4, e5, e6, by rw [← hp.2.1]; exact e7, e8, rfl, rfl, rfl⟩)
/-- the walk goes on behind a call -/
theorem goOn {p : Program} {e : Env} {s : State} {m : MethodId} {args : Array Value} {below : List Frame} {meth : Method} {c : Code} {T : State} {locs : List Loc} {Q' : Option Value → Heap → List Addr → Prop} {kc' ks' : Nat}
    (K : ∀ v h' D', Q' v h' D' → h.size ≤ h'.size → Runs false l Z [] n0 own nm code ml ret R Q (D' ++ D) h' kc' ks' pc' ls (v.toList ++ rest))
    (C : Ctx p s m meth c Z own nm code ml ret) (hs : s.heap.size ≤ h.size) (hD : ∀ x ∈ D, x < h.size) (N : Fr n0 locs) {v : Option Value} {B : Pt} (X : Stand p l e R s m args below meth c B.U B.locs B.cells B.slots)
    (P : ∃ L D', Q' v B.U.heap D' ∧ Old Z n0 B.U.heap ∧ Fr n0 L ∧ h.size ≤ B.U.heap.size ∧ (∀ x ∈ D', x < B.U.heap.size) ∧ B.locs = locs ++ L ∧ B.cells = kc' ∧ B.slots = ks')
    (S : ∀ target, Steps p.tables e below (B.U.setTop (mkF m pc' ls (v.toList ++ rest))) target → Steps p.tables e below (T.setTop (mkF m pc ls st)) target) :
    ∃ s₂ o, Steps p.tables e below (T.setTop (mkF m pc ls st)) s₂ ∧ s₂.status = .running ∧ Ended s₂ below o ∧ Done false Z [] n0 R Q s o s₂ := by
  obtain ⟨L, D', h1, h2, h3, h4, h5, h6, h7, h8⟩ := P
  obtain ⟨U, Ls, kk, nn⟩ := B
  dsimp only [Pt.U, Pt.locs, Pt.cells, Pt.slots] at *
  subst h6 h7 h8
  obtain ⟨s₂, o, S₂, r⟩ := K v U.heap D' h1 h4 p e s s.vm m args below meth c U _ C X rfl (N.app h3) h2 (hid0 (Nat.le_trans hs h4) (fun x hx => (List.mem_append.mp hx).elim (h5 x) (fun q => Nat.lt_of_lt_of_le (hD x q) h4)))
  exact ⟨s₂, o, S _ S₂, r⟩
theorem Runs.callS {y : MethodName} {index : Nat} {bytes : ByteArray} {maxL : Nat} {rt : Option FieldType} {rm : Room} {argsL : List Value} {Q' : Option Value → Heap → List Addr → Prop} {W : Nat} {ps : List FieldType} {rr : Option FieldType}
    (hd : Ins code pc (.invokestatic index) 3 pc') (w1 : (Cond.methodLink own index y).before a0 Z = true) (w2 : (Cond.static y).before a0 Z = true) (w3 : (Cond.initialized y.cls).before a0 Z = true) (w4 : (Cond.code y bytes maxL rt).before a0 Z = true) (hy : y.cls ≠ "java/lang/invoke/MethodHandle" ∧ y.cls ≠ "java/lang/invoke/VarHandle")
    (pd : parseMethodDescriptor y.desc = some ⟨ps, rr⟩) (hn : argsL.length = ps.length) (hls : ls.size = ml) (hst : st = argsL.reverse ++ rest) (hW : (rest.map fun v => v.category).sum = W) (hf : rm.frames + 1 ≤ R.frames) (hl : W + (maxL + 11) + rm.locals ≤ R.locals) (hc : kc + rm.cells ≤ R.cells) (hs : ks + rm.slots ≤ R.slots)
    {D0 : List Addr} (hD0 : ∀ x ∈ D0, x ∈ D) (H : Con false l Z [] n0 y bytes maxL rt rm argsL.toArray D0 h Q')
    (K : ∀ v h' D', Q' v h' D' → h.size ≤ h'.size → Runs false l Z [] n0 own nm code ml ret R Q (D' ++ D) h' (kc + rm.cells) (ks + rm.slots) pc' ls (v.toList ++ rest)) : Runs false l Z [] n0 own nm code ml ret R Q D h kc ks pc ls st := by
  obtain ⟨hd, rfl⟩ := hd
  intro p e s vm0 m args below meth c T locs C X eT N O Hd
  obtain ⟨e1, -, H3, H4⟩ := Hd
  have e1 : vm0 = s.vm := e1
  subst e1
  have hD : ∀ x ∈ D, x < h.size := fun x hx => (H4 x hx).1
  have C' : Ctx p s m meth c Z own nm code ml ret := C
  have X' : Stand p l e R s m args below meth c T locs kc ks := X
  obtain ⟨v, vm₁, B, -, XB, P, S⟩ := Jvm.LawKit.callS X' C'.1 (y := y) C'.2.2.2.2.1 (mvT C'.2.1 w1) (mvT C'.2.1 w2) (mvT C'.2.1 w3) (mvT C'.2.1 w4) hy (H.back (W := W) O (fun x hx => hD x (hD0 x hx)) C'.2.1 w4 w3 hf hl) (g := mkF m pc ls st) rfl (by rw [C'.2.2.2.1]; exact hls) (argsL := argsL) (rest := rest) (lenOf pd hn) hst (by show 2 * 0 + _ ≤ _; omega) (Jvm.hb C'.2.2.1 hd) (fun _ _ => ⟨rfl, eT, hc, hs⟩)
  exact goOn K C' H3.2.1 hD N XB P S
theorem Runs.callV {y z : MethodName} {index : Nat} {CC : String} {bytes : ByteArray} {maxL : Nat} {rt : Option FieldType} {rm : Room} {b : Addr} {argsL : List Value} {Q' : Option Value → Heap → List Addr → Prop} {W : Nat} {ps : List FieldType} {rr : Option FieldType}
    (hd : Ins code pc (.invokevirtual index) 3 pc') (w1 : (Cond.methodLink own index y).before a0 Z = true) (w2 : (Cond.declares y).before a0 Z = true) (nf : ∀ s : State, Z.Warmed39 s.vm → NotFace s y) (w3 : (Cond.selects CC y z).before a0 Z = true) (w4 : (Cond.instanceMethod z).before a0 Z = true) (w5 : (Cond.code z bytes maxL rt).before a0 Z = true) (w6 : (Cond.initialized z.cls).before a0 Z = true) (hy : y.cls ≠ "java/lang/invoke/MethodHandle" ∧ y.cls ≠ "java/lang/invoke/VarHandle")
    (E : Exa Z h b CC) (pd : parseMethodDescriptor y.desc = some ⟨ps, rr⟩) (hn : argsL.length = ps.length) (hls : ls.size = ml) (hst : st = argsL.reverse ++ .ref b :: rest) (hW : (rest.map fun v => v.category).sum = W) (hf : rm.frames + 1 ≤ R.frames) (hl : W + (maxL + 11) + rm.locals ≤ R.locals) (hc : kc + rm.cells ≤ R.cells) (hs : ks + rm.slots ≤ R.slots)
    {D0 : List Addr} (hD0 : ∀ x ∈ D0, x ∈ D) (H : Con false l Z [] n0 z bytes maxL rt rm (.ref b :: argsL).toArray D0 h Q')
    (K : ∀ v h' D', Q' v h' D' → h.size ≤ h'.size → Runs false l Z [] n0 own nm code ml ret R Q (D' ++ D) h' (kc + rm.cells) (ks + rm.slots) pc' ls (v.toList ++ rest)) : Runs false l Z [] n0 own nm code ml ret R Q D h kc ks pc ls st := by
  obtain ⟨hd, rfl⟩ := hd
  intro p e s vm0 m args below meth c T locs C X eT N O Hd
  obtain ⟨e1, -, H3, H4⟩ := Hd
  have e1 : vm0 = s.vm := e1
  subst e1
  have hD : ∀ x ∈ D, x < h.size := fun x hx => (H4 x hx).1
  have C' : Ctx p s m meth c Z own nm code ml ret := C
  have X' : Stand p l e R s m args below meth c T locs kc ks := X
  obtain ⟨cB, kB, q1, -, q3⟩ := isOf C'.2.1 eT E
  obtain ⟨v, vm₁, B, -, XB, P, S⟩ := X'.virtualBack C'.1 (y := y) (z := z) C'.2.2.2.2.1 (mvT C'.2.1 w1) (mvT C'.2.1 w2) (nf s C'.2.1) (mvT C'.2.1 w3) (mvT C'.2.1 w4) hy (H.back (W := W) O (fun x hx => hD x (hD0 x hx)) C'.2.1 w5 w6 hf hl) q1 q3 (g := mkF m pc ls st) rfl (by rw [C'.2.2.2.1]; exact hls) (Steps.refl _) (argsL := argsL) (rest := rest) (lenOf pd hn) hst (by show 2 * 0 + _ ≤ _; omega) (Jvm.hb C'.2.2.1 hd) (fun _ _ => ⟨rfl, eT, hc, hs⟩)
  exact goOn K C' H3.2.1 hD N XB P (fun t k => S.trans k)
theorem Runs.callC {y : MethodName} {index : Nat} {bytes : ByteArray} {maxL : Nat} {rm : Room} {b : Addr} {argsL : List Value} {Q' : Option Value → Heap → List Addr → Prop} {W : Nat} {ps : List FieldType} {rr : Option FieldType}
    (hd : Ins code pc (.invokespecial index) 3 pc') (hi : y.name = "<init>") (w1 : (Cond.methodLink own index y).before a0 Z = true) (w2 : (Cond.instanceMethod y).before a0 Z = true) (w3 : (Cond.code y bytes maxL none).before a0 Z = true) (w4 : (Cond.initialized y.cls).before a0 Z = true) (hy : y.cls ≠ "java/lang/invoke/MethodHandle" ∧ y.cls ≠ "java/lang/invoke/VarHandle")
    (pd : parseMethodDescriptor y.desc = some ⟨ps, rr⟩) (hn : argsL.length = ps.length) (hls : ls.size = ml) (hst : st = argsL.reverse ++ .ref b :: rest) (hW : (rest.map fun v => v.category).sum = W) (hf : rm.frames + 1 ≤ R.frames) (hl : W + (maxL + 11) + rm.locals ≤ R.locals) (hc : kc + rm.cells ≤ R.cells) (hs : ks + rm.slots ≤ R.slots)
    {D0 : List Addr} (hD0 : ∀ x ∈ D0, x ∈ D) (H : Con false l Z [] n0 y bytes maxL none rm (.ref b :: argsL).toArray D0 h Q')
    (K : ∀ v h' D', Q' v h' D' → h.size ≤ h'.size → Runs false l Z [] n0 own nm code ml ret R Q (D' ++ D) h' (kc + rm.cells) (ks + rm.slots) pc' ls (v.toList ++ rest)) : Runs false l Z [] n0 own nm code ml ret R Q D h kc ks pc ls st := by
  obtain ⟨hd, rfl⟩ := hd
  intro p e s vm0 m args below meth c T locs C X eT N O Hd
  obtain ⟨e1, -, H3, H4⟩ := Hd
  have e1 : vm0 = s.vm := e1
  subst e1
  have hD : ∀ x ∈ D, x < h.size := fun x hx => (H4 x hx).1
  have C' : Ctx p s m meth c Z own nm code ml ret := C
  have X' : Stand p l e R s m args below meth c T locs kc ks := X
  obtain ⟨v, vm₁, B, -, XB, P, S⟩ := X'.specialBack C'.1 (y := y) hi C'.2.2.2.2.1 (mvT C'.2.1 w1) (mvT C'.2.1 w2) (mvT C'.2.1 w3) hy (H.back (W := W) O (fun x hx => hD x (hD0 x hx)) C'.2.1 w3 w4 hf hl) (g := mkF m pc ls st) rfl (by rw [C'.2.2.2.1]; exact hls) (Steps.refl _) (a := b) (argsL := argsL) (rest := rest) (lenOf pd hn) hst (by show 2 * 0 + _ ≤ _; omega) (Jvm.hb C'.2.2.1 hd) (fun _ _ => ⟨rfl, eT, hc, hs⟩)
  exact goOn K C' H3.2.1 hD N XB P (fun t k => S.trans k)
end P


/-! the wide walk (w = true): constants of strings may come to be interned -/
section Wd
variable {l : Launch} {Z : State} {EL : List (String × Nat)} {n0 : Nat} {own nm : String} {code : ByteArray} {ml : Nat} {ret : Option FieldType} {R : Room} {Q : Option Value → Heap → List Addr → Prop} {D : List Addr} {h : Heap} {kc ks pc pc' : Nat} {ls : Array Slot} {st rest : List Value} {a0 : Array Value}
theorem Ctx.later {p : Program} {s : State} {vm0 vm1 : Vm} {n : Nat} {m : MethodId} {meth : Method} {c : Code} (C : Ctx p (s.setVm vm0) m meth c Z own nm code ml ret) (h1 : (s.setVm vm0).Since vm1 n) : Ctx p (s.setVm vm1) m meth c Z own nm code ml ret :=
  ⟨C.1, State.Warmed39.trans (t := s.setVm vm0) C.2.1 h1.1, C.2.2.1, C.2.2.2.1, by rw [show (s.setVm vm1).vm = vm1 from rfl, h1.1.alike.findClass]; exact C.2.2.2.2.1, C.2.2.2.2.2⟩
theorem Con.backW {p : Program} {e : Env} {s : State} {vm0 : Vm} {args : Array Value} {below : List Frame} {y : MethodName} {bytes : ByteArray} {maxL : Nat} {rt : Option FieldType} {rm : Room} {as' : Array Value} {D0 : List Addr} {Q' : Option Value → Heap → List Addr → Prop} {len W : Nat}
    (H : Con true l Z EL n0 y bytes maxL rt rm as' D0 h Q') (hO : Old Z n0 h) (hE : ∃ a0, EW Z a0 EL) (hC : CHv Z EL vm0 h) (hD : ∀ x ∈ D0, x < h.size ∧ Safe Z EL vm0 h x) (hZ : Z.Warmed39 vm0) (wc : (Cond.code y bytes maxL rt).before a0 Z = true) (wz : (Cond.initialized y.cls).before a0 Z = true) (hf : rm.frames + 1 ≤ R.frames) (hl : W + (maxL + 11) + rm.locals ≤ R.locals) :
    BackS l R p e below (s.setVm vm0) args y len W (fun A a => a = as' ∧ A.U.heap = h ∧ A.cells + rm.cells ≤ R.cells ∧ A.slots + rm.slots ≤ R.slots)
      (fun A _ v B => ∃ L D', Q' v B.U.heap D' ∧ Old Z n0 B.U.heap ∧ Fr n0 L ∧ CHr Z EL vm0 h B.U.vm B.U.heap ∧ (∀ x ∈ D', x < B.U.heap.size ∧ Safe Z EL B.U.vm B.U.heap x) ∧ B.locs = A.locs ++ L ∧ B.cells = A.cells + rm.cells ∧ B.slots = A.slots + rm.slots) := by
  obtain ⟨a1, hE1⟩ := id hE
  exact BackS.of_freeW (bytes := bytes) (maxL := maxL) (ret := rt) (E := fun _ first o t L k n => k = rm.cells ∧ n = rm.slots ∧ ∃ v D', o = .returned v ∧ Q' v t.heap D' ∧ Old Z n0 t.heap ∧ Fr n0 L ∧ CHr Z EL first.vm first.heap t.vm t.heap ∧ ∀ x ∈ D', x < t.heap.size ∧ Safe Z EL t.vm t.heap x) (H []) hf hl
    (fun m meth c A a Y hp => have hU : Z.Warmed39 A.U.vm := wtrans (s := s.setVm vm0) hZ Y.warmed
      ⟨by show (Cond.and _ .tt).before a A.U = true; rw [Cond.before_and, mv hU wc]; rfl, mv hU wc, mv hU wz, hp.2.2.1, hp.2.2.2⟩)
    (fun m meth c A a g mk Y hp => ⟨hp.1, wtrans (s := s.setVm vm0) hZ Y.warmed, hp.2.1, hO, hE, (CHv.at Y hZ hE1 hC).1, fun x hx => ⟨(hD x hx).1, (CHv.at Y hZ hE1 hC).safe (hD x hx).1 (hD x hx).2⟩⟩) (fun _ _ _ _ _ _ _ _ _ => trivial)
    (fun _ _ _ _ ⟨v, L, D', h1, h2, h3, h4, h5, h6⟩ => ⟨L, _, _, h6, rfl, rfl, v, D', h1, h2, h3, h4, h5.1, h5.2⟩)
    (fun m meth c A a g mk v t L k n Y hp _ _ ⟨e1, e2, v', D', e3, e4, e5, e6, e7, e8⟩ => by
      cases e3; subst e1 e2
      refine ⟨L, D', e4, e5, e6, (CHv.at Y hZ hE1 hC).trans ?_, e8, rfl, rfl, rfl⟩
      rw [← hp.2.1]; exact e7)
theorem goOnW {p : Program} {e : Env} {s : State} {vm0 : Vm} {m : MethodId} {args : Array Value} {below : List Frame} {meth : Method} {c : Code} {T : State} {locs : List Loc} {Q' : Option Value → Heap → List Addr → Prop} {kc' ks' : Nat}
    (K : ∀ v h' D', Q' v h' D' → h.size ≤ h'.size → Runs true l Z EL n0 own nm code ml ret R Q (D' ++ D) h' kc' ks' pc' ls (v.toList ++ rest))
    (C : Ctx p (s.setVm vm0) m meth c Z own nm code ml ret) (H : Hid true Z EL D s vm0 h) (N : Fr n0 locs) {v : Option Value} {B : Pt} (X : Stand p l e R ((s.setVm vm0).setVm B.U.vm) m args below meth c B.U B.locs B.cells B.slots)
    (hS : (s.setVm vm0).Since B.U.vm B.U.heap.size)
    (P : ∃ L D', Q' v B.U.heap D' ∧ Old Z n0 B.U.heap ∧ Fr n0 L ∧ CHr Z EL vm0 h B.U.vm B.U.heap ∧ (∀ x ∈ D', x < B.U.heap.size ∧ Safe Z EL B.U.vm B.U.heap x) ∧ B.locs = locs ++ L ∧ B.cells = kc' ∧ B.slots = ks')
    (S : Steps p.tables e below (T.setTop (mkF m pc ls st)) (B.U.setTop (mkF m pc' ls (v.toList ++ rest)))) :
    ∃ s₂ o, Steps p.tables e below (T.setTop (mkF m pc ls st)) s₂ ∧ s₂.status = .running ∧ Ended s₂ below o ∧ Done true Z EL n0 R Q s o s₂ := by
  obtain ⟨L, D', h1, h2, h3, h4, h5, h6, h7, h8⟩ := P
  obtain ⟨U, Ls, kk, nn⟩ := B
  dsimp only [Pt.U, Pt.locs, Pt.cells, Pt.slots] at *
  subst h6 h7 h8
  obtain ⟨H1, H2, H3, H4⟩ := H
  obtain ⟨k0, g1, g2⟩ : ∃ k0, s.Since vm0 k0 ∧ k0 ≤ h.size := H1
  have hsz : h.size ≤ U.heap.size := h4.2.1
  have C1 : Ctx p (s.setVm U.vm) m meth c Z own nm code ml ret := C.later hS
  have X1 : Stand p l e R (s.setVm U.vm) m args below meth c U (locs ++ L) kk nn := X
  have HN : Hid true Z EL (D' ++ D) s U.vm U.heap := ⟨⟨U.heap.size, g1.trans hS (Nat.le_trans g2 hsz), Nat.le_refl _⟩, H2, H3.trans h4, fun x hx => by
    rcases List.mem_append.mp hx with q | q
    · exact h5 x q
    · exact ⟨Nat.lt_of_lt_of_le (H4 x q).1 hsz, h4.safe (H4 x q).1 (H4 x q).2⟩⟩
  obtain ⟨s₂, o, S₂, r⟩ := K v U.heap D' h1 hsz p e s U.vm m args below meth c U _ C1 X1 rfl (N.app h3) h2 HN
  exact ⟨s₂, o, S.trans S₂, r⟩
theorem Runs.callSW {y : MethodName} {index : Nat} {bytes : ByteArray} {maxL : Nat} {rt : Option FieldType} {rm : Room} {argsL : List Value} {Q' : Option Value → Heap → List Addr → Prop} {W : Nat} {ps : List FieldType} {rr : Option FieldType}
    (hd : Ins code pc (.invokestatic index) 3 pc') (w1 : (Cond.methodLink own index y).before a0 Z = true) (w2 : (Cond.static y).before a0 Z = true) (w3 : (Cond.initialized y.cls).before a0 Z = true) (w4 : (Cond.code y bytes maxL rt).before a0 Z = true) (hy : y.cls ≠ "java/lang/invoke/MethodHandle" ∧ y.cls ≠ "java/lang/invoke/VarHandle")
    (pd : parseMethodDescriptor y.desc = some ⟨ps, rr⟩) (hn : argsL.length = ps.length) (hls : ls.size = ml) (hst : st = argsL.reverse ++ rest) (hW : (rest.map fun v => v.category).sum = W) (hf : rm.frames + 1 ≤ R.frames) (hl : W + (maxL + 11) + rm.locals ≤ R.locals) (hc : kc + rm.cells ≤ R.cells) (hs : ks + rm.slots ≤ R.slots)
    {D0 : List Addr} (hD0 : ∀ x ∈ D0, x ∈ D) (H : Con true l Z EL n0 y bytes maxL rt rm argsL.toArray D0 h Q')
    (K : ∀ v h' D', Q' v h' D' → h.size ≤ h'.size → Runs true l Z EL n0 own nm code ml ret R Q (D' ++ D) h' (kc + rm.cells) (ks + rm.slots) pc' ls (v.toList ++ rest)) : Runs true l Z EL n0 own nm code ml ret R Q D h kc ks pc ls st := by
  obtain ⟨hd, rfl⟩ := hd
  intro p e s vm0 m args below meth c T locs C X eT N O Hd
  obtain ⟨v, vm₁, B, -, XB, hS, -, P, S⟩ := callSS X C.1 (y := y) C.2.2.2.2.1 (mvT C.2.1 w1) (mvT C.2.1 w2) (mvT C.2.1 w3) (mvT C.2.1 w4) hy (H.backW (W := W) O Hd.2.1 Hd.2.2.1.1 (fun x hx => Hd.2.2.2 x (hD0 x hx)) C.2.1 w4 w3 hf hl) (g := mkF m pc ls st) rfl (by rw [C.2.2.2.1]; exact hls) (argsL := argsL) (rest := rest) (lenOf pd hn) hst (by show 2 * 0 + _ ≤ _; omega) (Jvm.hb C.2.2.1 hd) (fun _ _ => ⟨rfl, eT, hc, hs⟩)
  exact goOnW K C Hd N XB hS P S
theorem Runs.callVW {y z : MethodName} {index : Nat} {CC : String} {bytes : ByteArray} {maxL : Nat} {rt : Option FieldType} {rm : Room} {b : Addr} {argsL : List Value} {Q' : Option Value → Heap → List Addr → Prop} {W : Nat} {ps : List FieldType} {rr : Option FieldType}
    (hd : Ins code pc (.invokevirtual index) 3 pc') (w1 : (Cond.methodLink own index y).before a0 Z = true) (w2 : (Cond.declares y).before a0 Z = true) (nf : ∀ s : State, Z.Warmed39 s.vm → NotFace s y) (w3 : (Cond.selects CC y z).before a0 Z = true) (w4 : (Cond.instanceMethod z).before a0 Z = true) (w5 : (Cond.code z bytes maxL rt).before a0 Z = true) (w6 : (Cond.initialized z.cls).before a0 Z = true) (hy : y.cls ≠ "java/lang/invoke/MethodHandle" ∧ y.cls ≠ "java/lang/invoke/VarHandle")
    (E : Exa Z h b CC) (pd : parseMethodDescriptor y.desc = some ⟨ps, rr⟩) (hn : argsL.length = ps.length) (hls : ls.size = ml) (hst : st = argsL.reverse ++ .ref b :: rest) (hW : (rest.map fun v => v.category).sum = W) (hf : rm.frames + 1 ≤ R.frames) (hl : W + (maxL + 11) + rm.locals ≤ R.locals) (hc : kc + rm.cells ≤ R.cells) (hs : ks + rm.slots ≤ R.slots)
    {D0 : List Addr} (hD0 : ∀ x ∈ D0, x ∈ D) (H : Con true l Z EL n0 z bytes maxL rt rm (.ref b :: argsL).toArray D0 h Q')
    (K : ∀ v h' D', Q' v h' D' → h.size ≤ h'.size → Runs true l Z EL n0 own nm code ml ret R Q (D' ++ D) h' (kc + rm.cells) (ks + rm.slots) pc' ls (v.toList ++ rest)) : Runs true l Z EL n0 own nm code ml ret R Q D h kc ks pc ls st := by
  obtain ⟨hd, rfl⟩ := hd
  intro p e s vm0 m args below meth c T locs C X eT N O Hd
  obtain ⟨cB, kB, q1, -, q3⟩ := isOf C.2.1 eT E
  obtain ⟨v, vm₁, B, -, XB, hS, -, P, S⟩ := X.virtualBackS C.1 (y := y) (z := z) C.2.2.2.2.1 (mvT C.2.1 w1) (mvT C.2.1 w2) (nf _ C.2.1) (mvT C.2.1 w3) (mvT C.2.1 w4) hy (H.backW (W := W) O Hd.2.1 Hd.2.2.1.1 (fun x hx => Hd.2.2.2 x (hD0 x hx)) C.2.1 w5 w6 hf hl) q1 q3 (g := mkF m pc ls st) rfl (by rw [C.2.2.2.1]; exact hls) (Steps.refl _) (argsL := argsL) (rest := rest) (lenOf pd hn) hst (by show 2 * 0 + _ ≤ _; omega) (Jvm.hb C.2.2.1 hd) (fun _ _ => ⟨rfl, eT, hc, hs⟩)
  exact goOnW K C Hd N XB hS P S
theorem Runs.callCW {y : MethodName} {index : Nat} {bytes : ByteArray} {maxL : Nat} {rm : Room} {b : Addr} {argsL : List Value} {Q' : Option Value → Heap → List Addr → Prop} {W : Nat} {ps : List FieldType} {rr : Option FieldType}
    (hd : Ins code pc (.invokespecial index) 3 pc') (hi : y.name = "<init>") (w1 : (Cond.methodLink own index y).before a0 Z = true) (w2 : (Cond.instanceMethod y).before a0 Z = true) (w3 : (Cond.code y bytes maxL none).before a0 Z = true) (w4 : (Cond.initialized y.cls).before a0 Z = true) (hy : y.cls ≠ "java/lang/invoke/MethodHandle" ∧ y.cls ≠ "java/lang/invoke/VarHandle")
    (pd : parseMethodDescriptor y.desc = some ⟨ps, rr⟩) (hn : argsL.length = ps.length) (hls : ls.size = ml) (hst : st = argsL.reverse ++ .ref b :: rest) (hW : (rest.map fun v => v.category).sum = W) (hf : rm.frames + 1 ≤ R.frames) (hl : W + (maxL + 11) + rm.locals ≤ R.locals) (hc : kc + rm.cells ≤ R.cells) (hs : ks + rm.slots ≤ R.slots)
    {D0 : List Addr} (hD0 : ∀ x ∈ D0, x ∈ D) (H : Con true l Z EL n0 y bytes maxL none rm (.ref b :: argsL).toArray D0 h Q')
    (K : ∀ v h' D', Q' v h' D' → h.size ≤ h'.size → Runs true l Z EL n0 own nm code ml ret R Q (D' ++ D) h' (kc + rm.cells) (ks + rm.slots) pc' ls (v.toList ++ rest)) : Runs true l Z EL n0 own nm code ml ret R Q D h kc ks pc ls st := by
  obtain ⟨hd, rfl⟩ := hd
  intro p e s vm0 m args below meth c T locs C X eT N O Hd
  obtain ⟨v, vm₁, B, -, XB, hS, -, P, S⟩ := X.specialBackS C.1 (y := y) hi C.2.2.2.2.1 (mvT C.2.1 w1) (mvT C.2.1 w2) (mvT C.2.1 w3) hy (H.backW (W := W) O Hd.2.1 Hd.2.2.1.1 (fun x hx => Hd.2.2.2 x (hD0 x hx)) C.2.1 w3 w4 hf hl) (g := mkF m pc ls st) rfl (by rw [C.2.2.2.1]; exact hls) (Steps.refl _) (a := b) (argsL := argsL) (rest := rest) (lenOf pd hn) hst (by show 2 * 0 + _ ≤ _; omega) (Jvm.hb C.2.2.1 hd) (fun _ _ => ⟨rfl, eT, hc, hs⟩)
  exact goOnW K C Hd N XB hS P S
/-- ldc of a String constant: a String, no more is said -/
theorem Runs.ldcS {text : String} {index n : Nat} (hd : Ins code pc (.ldc index) 2 pc') (wl : (Cond.stringLink own index text).before a0 Z = true) (wS : ∀ a ∈ Bundle.stringAtoms, a.before a0 Z = true) (hEL : EW Z a0 EL) (hn : 4 * text.toList.length ≤ n) (hbig : n ≤ 536870912) (hc : kc + 2 ≤ R.cells) (hl : ks + (n + 4) ≤ R.slots)
    (K : ∀ h' a, Keep h h' [] → Runs true l Z EL n0 own nm code ml ret R Q D h' (kc + 2) (ks + (n + 4)) pc' ls (.ref a :: st)) : Runs true l Z EL n0 own nm code ml ret R Q D h kc ks pc ls st := by
  obtain ⟨hd, rfl⟩ := hd
  intro p e s vm0 m args below meth c T locs C X eT N O Hd
  obtain ⟨H1, H2, H3, H4⟩ := Hd
  obtain ⟨k0, g1, g2⟩ : ∃ k0, s.Since vm0 k0 ∧ k0 ≤ h.size := H1
  obtain ⟨a, T', h', k1, X', e', E', S1, hk1, W1, F1, C1, -, st1⟩ := ldcOH X C.1 C.2.1 C.2.2.2.2.1 wl wS eT g1 g2 hEL H3.1 (g := mkF m pc ls st) rfl (Jvm.hb C.2.2.1 hd) hn hbig hc hl
  subst e'
  obtain ⟨s₂, o, S, r⟩ := K _ a (keepE E') p e s T'.vm m args below meth c T' locs ⟨C.1, W1, C.2.2.1, C.2.2.2.1, F1, C.2.2.2.2.2⟩ X' rfl N (O.ext E') ⟨⟨k1, S1, hk1⟩, H2, H3.trans C1, fun x hx => ⟨Nat.lt_of_lt_of_le (H4 x hx).1 E'.1, C1.safe (H4 x hx).1 (H4 x hx).2⟩⟩
  exact ⟨s₂, o, st1 _ S, r⟩
/-- ldc of a String constant that is held: its text -/
theorem Runs.ldcT {text : String} {index n : Nat} {vs : List Value} {z : Int32} (hd : Ins code pc (.ldc index) 2 pc') (wl : (Cond.stringLink own index text).before a0 Z = true) (wS : ∀ a ∈ Bundle.stringAtoms, a.before a0 Z = true) (hEL : EW Z a0 EL) (hmem : (own, index) ∈ EL)
    (ht : (∀ c ∈ text.toList, c.toNat < 256) ∧ text.toList.map (fun c => Value.int (Jvm.Lit.byteI c.toNat.toUInt16)) = vs) (hz : ¬ z < 0) (hzl : z.toNatClampNeg = vs.length) (hn : 4 * text.toList.length ≤ n) (hbig : n ≤ 536870912) (hc : kc + 2 ≤ R.cells) (hl : ks + (n + 4) ≤ R.slots)
    (K : ∀ h' a b k, Keep h h' [] → Obj Z h' a "java/lang/String" [("java/lang/String", "value", "[B", .ref b), ("java/lang/String", "coder", "B", .int 0)] → Arv Z h' b k .byte z vs (.int 0) → (∀ x ∈ D, x ≠ a ∧ x ≠ b) → Runs true l Z EL n0 own nm code ml ret R Q D h' (kc + 2) (ks + (n + 4)) pc' ls (.ref a :: st)) : Runs true l Z EL n0 own nm code ml ret R Q D h kc ks pc ls st := by
  obtain ⟨hd, rfl⟩ := hd
  intro p e s vm0 m args below meth c T locs C X eT N O Hd
  obtain ⟨H1, H2, H3, H4⟩ := Hd
  obtain ⟨k0, g1, g2⟩ : ∃ k0, s.Since vm0 k0 ∧ k0 ≤ h.size := H1
  obtain ⟨a, T', h', k1, b, k, X', e', E', S1, hk1, W1, F1, x1, x2, x3, x4, -, -, C1, -, D1, st1⟩ := ldcCH X C.1 C.2.1 C.2.2.2.2.1 wl wS eT g1 g2 hEL hmem H3.1 ht hz hzl (g := mkF m pc ls st) rfl (Jvm.hb C.2.2.1 hd) hn hbig hc hl
  subst e'
  have hD : ∀ x ∈ D, x < T'.heap.size ∧ Safe Z EL T'.vm T'.heap x := fun x hx => ⟨Nat.lt_of_lt_of_le (H4 x hx).1 E'.1, C1.safe (H4 x hx).1 (H4 x hx).2⟩
  obtain ⟨s₂, o, S, r⟩ := K _ a b k (keepE E') ⟨x1, fun f hf => by simp only [List.mem_cons, List.not_mem_nil, or_false] at hf; rcases hf with rfl | rfl; exact x3; exact x2⟩ x4 (fun x hx => D1 x (hD x hx).2) p e s T'.vm m args below meth c T' locs ⟨C.1, W1, C.2.2.1, C.2.2.2.1, F1, C.2.2.2.2.2⟩ X' rfl N (O.ext E') ⟨⟨k1, S1, hk1⟩, H2, H3.trans C1, hD⟩
  exact ⟨s₂, o, st1 _ S, r⟩
end Wd

end Jvm.OwnW
namespace Jvm.Pilot.@@N@@
open Jvm Jvm.ClassFile Sem Op Lib Jvm.Free Jvm.Stand Jvm.LawKit Jvm.RoadKit Bundle Jvm.OwnW Jvm.Pilot.@@N@@.Jvm.D
abbrev Wds (Z : State) (a0 : Array Value) : Prop := ∀ d ∈ tables_1, d.before a0 Z = true
theorem w0 {Z : State} {a0 : Array Value} (hw : Wds Z a0) : (Jvm.Cond.fieldLink "com/example/arcpose/arcpose/ReadingIsWheelPinLaw" (7 : Nat) "com/example/arcpose/arcpose/Reading" "LEFT" "Lcom/example/arcpose/arcpose/Reading;").before a0 Z = true := hw _ (List.mem_of_getElem? (i := 0) rfl)
theorem w1 {Z : State} {a0 : Array Value} (hw : Wds Z a0) : (Jvm.Cond.initialized "com/example/arcpose/arcpose/Reading").before a0 Z = true := hw _ (List.mem_of_getElem? (i := 1) rfl)
theorem w2 {Z : State} {a0 : Array Value} (hw : Wds Z a0) : (Jvm.Cond.laysStatic "com/example/arcpose/arcpose/Reading" "LEFT" "Lcom/example/arcpose/arcpose/Reading;").before a0 Z = true := hw _ (List.mem_of_getElem? (i := 2) rfl)
theorem w3 {Z : State} {a0 : Array Value} (hw : Wds Z a0) : (Jvm.Cond.methodLink "com/example/arcpose/arcpose/ReadingIsWheelPinLaw" (22 : Nat) ({ cls := "com/example/arcpose/arcpose/Reading", name := "isWheel", desc := "()Z" } : Jvm.MethodName)).before a0 Z = true := hw _ (List.mem_of_getElem? (i := 3) rfl)
theorem w4 {Z : State} {a0 : Array Value} (hw : Wds Z a0) : (Jvm.Cond.declares ({ cls := "com/example/arcpose/arcpose/Reading", name := "isWheel", desc := "()Z" } : Jvm.MethodName)).before a0 Z = true := hw _ (List.mem_of_getElem? (i := 4) rfl)
theorem w5 {Z : State} {a0 : Array Value} (hw : Wds Z a0) : (Jvm.Cond.instanceMethod ({ cls := "com/example/arcpose/arcpose/Reading", name := "isWheel", desc := "()Z" } : Jvm.MethodName)).before a0 Z = true := hw _ (List.mem_of_getElem? (i := 5) rfl)
theorem w6 {Z : State} {a0 : Array Value} (hw : Wds Z a0) : (Jvm.Cond.selects "com/example/arcpose/arcpose/Reading" ({ cls := "com/example/arcpose/arcpose/Reading", name := "isWheel", desc := "()Z" } : Jvm.MethodName) ({ cls := "com/example/arcpose/arcpose/Reading", name := "isWheel", desc := "()Z" } : Jvm.MethodName)).before a0 Z = true := hw _ (List.mem_of_getElem? (i := 6) rfl)
theorem w7 {Z : State} {a0 : Array Value} (hw : Wds Z a0) : (Jvm.Cond.code ({ cls := "com/example/arcpose/arcpose/Reading", name := "isWheel", desc := "()Z" } : Jvm.MethodName) prog_19_method_8_code (1 : Nat) (Option.some Jvm.ClassFile.FieldType.boolean)).before a0 Z = true := hw _ (List.mem_of_getElem? (i := 7) rfl)
theorem w8 {Z : State} {a0 : Array Value} (hw : Wds Z a0) : (Jvm.Cond.fieldLink "com/example/arcpose/arcpose/Reading" (42 : Nat) "com/example/arcpose/arcpose/Reading" "measures" "Lcom/example/arcpose/arcpose/Reading$Motion;").before a0 Z = true := hw _ (List.mem_of_getElem? (i := 8) rfl)
theorem w10 {Z : State} {a0 : Array Value} (hw : Wds Z a0) : (Jvm.Cond.initialized "com/example/arcpose/arcpose/Reading$Motion").before a0 Z = true := hw _ (List.mem_of_getElem? (i := 10) rfl)
theorem w11 {Z : State} {a0 : Array Value} (hw : Wds Z a0) : (Jvm.Cond.laysStatic "com/example/arcpose/arcpose/Reading$Motion" "FORWARD" "Lcom/example/arcpose/arcpose/Reading$Motion;").before a0 Z = true := hw _ (List.mem_of_getElem? (i := 11) rfl)
theorem w12 {Z : State} {a0 : Array Value} (hw : Wds Z a0) : (Jvm.Cond.fieldLink "com/example/arcpose/arcpose/Reading" (50 : Nat) "com/example/arcpose/arcpose/Reading$Motion" "TURN" "Lcom/example/arcpose/arcpose/Reading$Motion;").before a0 Z = true := hw _ (List.mem_of_getElem? (i := 12) rfl)
theorem w13 {Z : State} {a0 : Array Value} (hw : Wds Z a0) : (Jvm.Cond.laysStatic "com/example/arcpose/arcpose/Reading$Motion" "TURN" "Lcom/example/arcpose/arcpose/Reading$Motion;").before a0 Z = true := hw _ (List.mem_of_getElem? (i := 13) rfl)
theorem w14 {Z : State} {a0 : Array Value} (hw : Wds Z a0) : (Jvm.Cond.methodLink "com/example/arcpose/arcpose/ReadingIsWheelPinLaw" (26 : Nat) ({ cls := "com/example/arcpose/arcpose/Reading", name := "turnSign", desc := "()I" } : Jvm.MethodName)).before a0 Z = true := hw _ (List.mem_of_getElem? (i := 14) rfl)
theorem w15 {Z : State} {a0 : Array Value} (hw : Wds Z a0) : (Jvm.Cond.declares ({ cls := "com/example/arcpose/arcpose/Reading", name := "turnSign", desc := "()I" } : Jvm.MethodName)).before a0 Z = true := hw _ (List.mem_of_getElem? (i := 15) rfl)
theorem w16 {Z : State} {a0 : Array Value} (hw : Wds Z a0) : (Jvm.Cond.instanceMethod ({ cls := "com/example/arcpose/arcpose/Reading", name := "turnSign", desc := "()I" } : Jvm.MethodName)).before a0 Z = true := hw _ (List.mem_of_getElem? (i := 16) rfl)
theorem w17 {Z : State} {a0 : Array Value} (hw : Wds Z a0) : (Jvm.Cond.selects "com/example/arcpose/arcpose/Reading" ({ cls := "com/example/arcpose/arcpose/Reading", name := "turnSign", desc := "()I" } : Jvm.MethodName) ({ cls := "com/example/arcpose/arcpose/Reading", name := "turnSign", desc := "()I" } : Jvm.MethodName)).before a0 Z = true := hw _ (List.mem_of_getElem? (i := 17) rfl)
theorem w18 {Z : State} {a0 : Array Value} (hw : Wds Z a0) : (Jvm.Cond.code ({ cls := "com/example/arcpose/arcpose/Reading", name := "turnSign", desc := "()I" } : Jvm.MethodName) prog_19_method_7_code (1 : Nat) (Option.some Jvm.ClassFile.FieldType.int)).before a0 Z = true := hw _ (List.mem_of_getElem? (i := 18) rfl)
theorem w19 {Z : State} {a0 : Array Value} (hw : Wds Z a0) : (Jvm.Cond.fieldLink "com/example/arcpose/arcpose/Reading" (46 : Nat) "com/example/arcpose/arcpose/Reading" "turnSign" "I").before a0 Z = true := hw _ (List.mem_of_getElem? (i := 19) rfl)
theorem w21 {Z : State} {a0 : Array Value} (hw : Wds Z a0) : (Jvm.Cond.fieldLink "com/example/arcpose/arcpose/ReadingIsWheelPinLaw" (19 : Nat) "com/example/arcpose/arcpose/Reading" "GYRO" "Lcom/example/arcpose/arcpose/Reading;").before a0 Z = true := hw _ (List.mem_of_getElem? (i := 21) rfl)
theorem w22 {Z : State} {a0 : Array Value} (hw : Wds Z a0) : (Jvm.Cond.laysStatic "com/example/arcpose/arcpose/Reading" "GYRO" "Lcom/example/arcpose/arcpose/Reading;").before a0 Z = true := hw _ (List.mem_of_getElem? (i := 22) rfl)
theorem w23 {Z : State} {a0 : Array Value} (hw : Wds Z a0) : (Jvm.Cond.selects "com/example/arcpose/arcpose/Reading$1" ({ cls := "com/example/arcpose/arcpose/Reading", name := "isWheel", desc := "()Z" } : Jvm.MethodName) ({ cls := "com/example/arcpose/arcpose/Reading", name := "isWheel", desc := "()Z" } : Jvm.MethodName)).before a0 Z = true := hw _ (List.mem_of_getElem? (i := 23) rfl)
theorem w25 {Z : State} {a0 : Array Value} (hw : Wds Z a0) : (Jvm.Cond.selects "com/example/arcpose/arcpose/Reading$1" ({ cls := "com/example/arcpose/arcpose/Reading", name := "turnSign", desc := "()I" } : Jvm.MethodName) ({ cls := "com/example/arcpose/arcpose/Reading", name := "turnSign", desc := "()I" } : Jvm.MethodName)).before a0 Z = true := hw _ (List.mem_of_getElem? (i := 25) rfl)
theorem w27 {Z : State} {a0 : Array Value} (hw : Wds Z a0) : (Jvm.Cond.fieldLink "com/example/arcpose/arcpose/ReadingIsWheelPinLaw" (16 : Nat) "com/example/arcpose/arcpose/Reading" "SIDEWAYS" "Lcom/example/arcpose/arcpose/Reading;").before a0 Z = true := hw _ (List.mem_of_getElem? (i := 27) rfl)
theorem w28 {Z : State} {a0 : Array Value} (hw : Wds Z a0) : (Jvm.Cond.laysStatic "com/example/arcpose/arcpose/Reading" "SIDEWAYS" "Lcom/example/arcpose/arcpose/Reading;").before a0 Z = true := hw _ (List.mem_of_getElem? (i := 28) rfl)
theorem w29 {Z : State} {a0 : Array Value} (hw : Wds Z a0) : (Jvm.Cond.laysStatic "com/example/arcpose/arcpose/Reading$Motion" "LEFTWARD" "Lcom/example/arcpose/arcpose/Reading$Motion;").before a0 Z = true := hw _ (List.mem_of_getElem? (i := 29) rfl)
theorem w30 {Z : State} {a0 : Array Value} (hw : Wds Z a0) : (Jvm.Cond.fieldLink "com/example/arcpose/arcpose/ReadingIsWheelPinLaw" (13 : Nat) "com/example/arcpose/arcpose/Reading" "RIGHT" "Lcom/example/arcpose/arcpose/Reading;").before a0 Z = true := hw _ (List.mem_of_getElem? (i := 30) rfl)
theorem w31 {Z : State} {a0 : Array Value} (hw : Wds Z a0) : (Jvm.Cond.laysStatic "com/example/arcpose/arcpose/Reading" "RIGHT" "Lcom/example/arcpose/arcpose/Reading;").before a0 Z = true := hw _ (List.mem_of_getElem? (i := 31) rfl)
theorem i0_0 : Ins code 0 (.iload_n 0) 1 1 := ⟨at_0, rfl⟩
theorem i0_1 : Ins code 1 (.iconst 3) 1 2 := ⟨at_1, rfl⟩
theorem i0_2 : Ins code 2 (.iand) 1 3 := ⟨at_2, rfl⟩
theorem i0_3 : Ins code 3 (.istore_n 1) 1 4 := ⟨at_3, rfl⟩
theorem i0_4 : Ins code 4 (.iload_n 1) 1 5 := ⟨at_4, rfl⟩
theorem i0_5 : Ins code 5 (.ifCond .ne 12) 3 8 := ⟨at_5, rfl⟩
theorem i0_8 : Ins code 8 (.getstatic 7) 3 11 := ⟨at_8, rfl⟩
theorem i0_11 : Ins code 11 (.astore_n 2) 1 12 := ⟨at_11, rfl⟩
theorem i0_12 : Ins code 12 (.iconst 1) 1 13 := ⟨at_12, rfl⟩
theorem i0_13 : Ins code 13 (.istore_n 3) 1 14 := ⟨at_13, rfl⟩
theorem i0_14 : Ins code 14 (.goto 37) 3 17 := ⟨at_14, rfl⟩
theorem i0_17 : Ins code 17 (.iload_n 1) 1 18 := ⟨at_17, rfl⟩
theorem i0_18 : Ins code 18 (.iconst 1) 1 19 := ⟨at_18, rfl⟩
theorem i0_19 : Ins code 19 (.if_icmp .ne 12) 3 22 := ⟨at_19, rfl⟩
theorem i0_22 : Ins code 22 (.getstatic 13) 3 25 := ⟨at_22, rfl⟩
theorem i0_25 : Ins code 25 (.astore_n 2) 1 26 := ⟨at_25, rfl⟩
theorem i0_26 : Ins code 26 (.iconst 1) 1 27 := ⟨at_26, rfl⟩
theorem i0_27 : Ins code 27 (.istore_n 3) 1 28 := ⟨at_27, rfl⟩
theorem i0_28 : Ins code 28 (.goto 23) 3 31 := ⟨at_28, rfl⟩
theorem i0_31 : Ins code 31 (.iload_n 1) 1 32 := ⟨at_31, rfl⟩
theorem i0_32 : Ins code 32 (.iconst 2) 1 33 := ⟨at_32, rfl⟩
theorem i0_33 : Ins code 33 (.if_icmp .ne 12) 3 36 := ⟨at_33, rfl⟩
theorem i0_36 : Ins code 36 (.getstatic 16) 3 39 := ⟨at_36, rfl⟩
theorem i0_39 : Ins code 39 (.astore_n 2) 1 40 := ⟨at_39, rfl⟩
theorem i0_40 : Ins code 40 (.iconst 1) 1 41 := ⟨at_40, rfl⟩
theorem i0_41 : Ins code 41 (.istore_n 3) 1 42 := ⟨at_41, rfl⟩
theorem i0_42 : Ins code 42 (.goto 9) 3 45 := ⟨at_42, rfl⟩
theorem i0_45 : Ins code 45 (.getstatic 19) 3 48 := ⟨at_45, rfl⟩
theorem i0_48 : Ins code 48 (.astore_n 2) 1 49 := ⟨at_48, rfl⟩
theorem i0_49 : Ins code 49 (.iconst 0) 1 50 := ⟨at_49, rfl⟩
theorem i0_50 : Ins code 50 (.istore_n 3) 1 51 := ⟨at_50, rfl⟩
theorem i0_51 : Ins code 51 (.aload_n 2) 1 52 := ⟨at_51, rfl⟩
theorem i0_52 : Ins code 52 (.invokevirtual 22) 3 55 := ⟨at_52, rfl⟩
theorem i0_55 : Ins code 55 (.istore 4) 2 57 := ⟨at_55, rfl⟩
theorem i0_57 : Ins code 57 (.iload 4) 2 59 := ⟨at_57, rfl⟩
theorem i0_59 : Ins code 59 (.iload_n 3) 1 60 := ⟨at_59, rfl⟩
theorem i0_60 : Ins code 60 (.if_icmp .ne 24) 3 63 := ⟨at_60, rfl⟩
theorem i0_63 : Ins code 63 (.iload 4) 2 65 := ⟨at_63, rfl⟩
theorem i0_65 : Ins code 65 (.aload_n 2) 1 66 := ⟨at_65, rfl⟩
theorem i0_66 : Ins code 66 (.invokevirtual 26) 3 69 := ⟨at_66, rfl⟩
theorem i0_69 : Ins code 69 (.ifCond .eq 7) 3 72 := ⟨at_69, rfl⟩
theorem i0_72 : Ins code 72 (.iconst 1) 1 73 := ⟨at_72, rfl⟩
theorem i0_73 : Ins code 73 (.goto 4) 3 76 := ⟨at_73, rfl⟩
theorem i0_76 : Ins code 76 (.iconst 0) 1 77 := ⟨at_76, rfl⟩
theorem i0_77 : Ins code 77 (.if_icmp .ne 7) 3 80 := ⟨at_77, rfl⟩
theorem i0_80 : Ins code 80 (.iconst 1) 1 81 := ⟨at_80, rfl⟩
theorem i0_81 : Ins code 81 (.goto 4) 3 84 := ⟨at_81, rfl⟩
theorem i0_85 : Ins code 85 (.ireturn) 1 86 := ⟨at_85, rfl⟩
theorem i1_0 : Ins prog_19_method_8_code 0 (.aload_n 0) 1 1 := ⟨by decide +kernel, rfl⟩
theorem i1_1 : Ins prog_19_method_8_code 1 (.getfield 42) 3 4 := ⟨by decide +kernel, rfl⟩
theorem i1_4 : Ins prog_19_method_8_code 4 (.getstatic 50) 3 7 := ⟨by decide +kernel, rfl⟩
theorem i1_7 : Ins prog_19_method_8_code 7 (.if_acmp .eq 7) 3 10 := ⟨by decide +kernel, rfl⟩
theorem i1_10 : Ins prog_19_method_8_code 10 (.iconst 1) 1 11 := ⟨by decide +kernel, rfl⟩
theorem i1_11 : Ins prog_19_method_8_code 11 (.goto 4) 3 14 := ⟨by decide +kernel, rfl⟩
theorem i1_14 : Ins prog_19_method_8_code 14 (.iconst 0) 1 15 := ⟨by decide +kernel, rfl⟩
theorem i1_15 : Ins prog_19_method_8_code 15 (.ireturn) 1 16 := ⟨by decide +kernel, rfl⟩
theorem i2_0 : Ins prog_19_method_7_code 0 (.aload_n 0) 1 1 := ⟨by decide +kernel, rfl⟩
theorem i2_1 : Ins prog_19_method_7_code 1 (.getfield 46) 3 4 := ⟨by decide +kernel, rfl⟩
theorem i2_4 : Ins prog_19_method_7_code 4 (.ireturn) 1 5 := ⟨by decide +kernel, rfl⟩
theorem pd_0 : parseMethodDescriptor "()Z" = some ⟨[], some .boolean⟩ := by decide +kernel
theorem pd_1 : parseMethodDescriptor "()I" = some ⟨[], some .int⟩ := by decide +kernel
def own_wh (me tu : Addr) : Int32 := if me = tu then 0 else 1
set_option maxRecDepth 65536 in
set_option maxHeartbeats 4000000 in
theorem own_cw (l : Launch) (Z : State) (a0 : Array Value) (hw : Wds Z a0) (n0 : Nat) (a me tu : Addr) (h0 : Heap) (S_TURN : Sta Z Z.heap "com/example/arcpose/arcpose/Reading$Motion" "TURN" "Lcom/example/arcpose/arcpose/Reading$Motion;" (.ref tu)) (F : Fld Z h0 a "com/example/arcpose/arcpose/Reading" "measures" "Lcom/example/arcpose/arcpose/Reading$Motion;" (.ref me)) : Con false l Z [] n0 (⟨"com/example/arcpose/arcpose/Reading", "isWheel", "()Z"⟩ : MethodName) prog_19_method_8_code 1 (some .boolean) ({ frames := 0, cells := 0, slots := 0, locals := 0 } : Room) #[(.ref a)] [] h0 (fun v h D' => v = some (.int (own_wh me tu)) ∧ h0 = h ∧ D' = []) := by
  refine Con.of_runs (ls := #[.val (.ref a)]) (by decide +kernel) (fun m => rfl) ?_
  refine Runs.aloadN i1_0 rfl rfl ?_
  refine Runs.getF (host := "") i1_1 (Or.inl (w8 hw)) Via.refl F ?_
  refine Runs.getS i1_4 (w12 hw) Via.refl S_TURN ?_
  by_cases ha7 : me = tu
  · refine Runs.acY (t := 14) i1_7 (by decide) rfl rfl (Jvm.Free.XT.aa_eq_t (congrArg Value.ref ha7)) ?_
    refine Runs.iconst (v := (0 : Int32)) i1_14 (by decide) ?_
    exact Runs.retI (z := (0 : Int32)) i1_15 rfl (Or.inr (Or.inl rfl)) (by decide) (by decide) (by decide) ⟨by simp [own_wh, ha7], rfl, rfl⟩
  · refine Runs.acN i1_7 rfl rfl (Jvm.Free.XT.aa_eq_f (fun q => ha7 (Value.ref.inj q))) ?_
    refine Runs.iconst (v := (1 : Int32)) i1_10 (by decide) ?_
    refine Runs.goto (t := 15) i1_11 (by decide) ?_
    exact Runs.retI (z := (1 : Int32)) i1_15 rfl (Or.inr (Or.inl rfl)) (by decide) (by decide) (by decide) ⟨by simp [own_wh, ha7], rfl, rfl⟩
set_option maxRecDepth 65536 in
set_option maxHeartbeats 4000000 in
theorem own_ct (l : Launch) (Z : State) (a0 : Array Value) (hw : Wds Z a0) (n0 : Nat) (a : Addr) (ts : Int32) (h0 : Heap) (F : Fld Z h0 a "com/example/arcpose/arcpose/Reading" "turnSign" "I" (.int ts)) : Con false l Z [] n0 (⟨"com/example/arcpose/arcpose/Reading", "turnSign", "()I"⟩ : MethodName) prog_19_method_7_code 1 (some .int) ({ frames := 0, cells := 0, slots := 0, locals := 0 } : Room) #[(.ref a)] [] h0 (fun v h D' => v = some (.int ts) ∧ h0 = h ∧ D' = []) := by
  refine Con.of_runs (ls := #[.val (.ref a)]) (by decide +kernel) (fun m => rfl) ?_
  refine Runs.aloadN i2_0 rfl rfl ?_
  refine Runs.getF (host := "") i2_1 (Or.inl (w19 hw)) Via.refl F ?_
  exact Runs.retI (z := ts) i2_4 rfl (Or.inl rfl) rfl (by decide) (by decide) ⟨rfl, rfl, rfl⟩
set_option maxRecDepth 65536 in
set_option maxHeartbeats 4000000 in
theorem own_law (l : Launch) (Z : State) (a0 : Array Value) (hw : Wds Z a0) (n0 : Nat) (p1 : Int32) (le ri sw gy tu fw lw : Addr) (S_LEFT : Sta Z Z.heap "com/example/arcpose/arcpose/Reading" "LEFT" "Lcom/example/arcpose/arcpose/Reading;" (.ref le)) (S_RIGHT : Sta Z Z.heap "com/example/arcpose/arcpose/Reading" "RIGHT" "Lcom/example/arcpose/arcpose/Reading;" (.ref ri)) (S_SIDEWAYS : Sta Z Z.heap "com/example/arcpose/arcpose/Reading" "SIDEWAYS" "Lcom/example/arcpose/arcpose/Reading;" (.ref sw)) (S_GYRO : Sta Z Z.heap "com/example/arcpose/arcpose/Reading" "GYRO" "Lcom/example/arcpose/arcpose/Reading;" (.ref gy)) (S_TURN : Sta Z Z.heap "com/example/arcpose/arcpose/Reading$Motion" "TURN" "Lcom/example/arcpose/arcpose/Reading$Motion;" (.ref tu)) (E_LEFT : Exa Z Z.heap le "com/example/arcpose/arcpose/Reading") (E_RIGHT : Exa Z Z.heap ri "com/example/arcpose/arcpose/Reading") (E_SIDEWAYS : Exa Z Z.heap sw "com/example/arcpose/arcpose/Reading") (E_GYRO : Exa Z Z.heap gy "com/example/arcpose/arcpose/Reading$1")(M_LEFT : Fld Z Z.heap le "com/example/arcpose/arcpose/Reading" "measures" "Lcom/example/arcpose/arcpose/Reading$Motion;" (.ref fw)) (M_RIGHT : Fld Z Z.heap ri "com/example/arcpose/arcpose/Reading" "measures" "Lcom/example/arcpose/arcpose/Reading$Motion;" (.ref fw)) (M_SIDEWAYS : Fld Z Z.heap sw "com/example/arcpose/arcpose/Reading" "measures" "Lcom/example/arcpose/arcpose/Reading$Motion;" (.ref lw)) (M_GYRO : Fld Z Z.heap gy "com/example/arcpose/arcpose/Reading" "measures" "Lcom/example/arcpose/arcpose/Reading$Motion;" (.ref tu))(T_LEFT : Fld Z Z.heap le "com/example/arcpose/arcpose/Reading" "turnSign" "I" (.int (-1 : Int32))) (T_RIGHT : Fld Z Z.heap ri "com/example/arcpose/arcpose/Reading" "turnSign" "I" (.int (1 : Int32))) (T_SIDEWAYS : Fld Z Z.heap sw "com/example/arcpose/arcpose/Reading" "turnSign" "I" (.int (1 : Int32))) (T_GYRO : Fld Z Z.heap gy "com/example/arcpose/arcpose/Reading" "turnSign" "I" (.int (0 : Int32))) (n1 : ¬ fw = tu) (n2 : ¬ lw = tu) : Con false l Z [] n0 x code maxLocals ret room_1 #[(.int p1)] [] Z.heap (fun v h D' => v = some (.int 1)) := by
  refine Con.of_runs (ls := #[.val (.int p1), .unset, .unset, .unset, .unset]) (by decide +kernel) (fun m => rfl) ?_
  refine Runs.iloadN i0_0 rfl ?_
  refine Runs.iconst (v := (3 : Int32)) i0_1 (by decide) ?_
  obtain ⟨x1, hx1⟩ : ∃ z : Int32, p1 &&& (3 : Int32) = z := ⟨_, rfl⟩
  refine Runs.iand i0_2 hx1 ?_
  refine Runs.istoreN (ls' := #[.val (.int p1), .val (.int x1), .unset, .unset, .unset]) i0_3 rfl ?_
  refine Runs.iloadN i0_4 rfl ?_
  by_cases hc5 : x1 = (0 : Int32)
  · refine Runs.ifN i0_5 (teq hc5).2 ?_
    refine Runs.getS i0_8 (w0 hw) Via.refl S_LEFT ?_
    refine Runs.astoreN (ls' := #[.val (.int p1), .val (.int x1), .val (.ref le), .unset, .unset]) i0_11 rfl rfl ?_
    refine Runs.iconst (v := (1 : Int32)) i0_12 (by decide) ?_
    refine Runs.istoreN (ls' := #[.val (.int p1), .val (.int x1), .val (.ref le), .val (.int (1 : Int32)), .unset]) i0_13 rfl ?_
    refine Runs.goto (t := 51) i0_14 (by decide) ?_
    refine Runs.aloadN i0_51 rfl rfl ?_
    refine Runs.callV (argsL := []) (rest := []) (W := 0) i0_52 (w3 hw) (w4 hw) (fun s hZ => notFace_of_selects (args := #[]) (mvT hZ (w6 hw))) (w6 hw) (w5 hw) (w7 hw) (w1 hw) (by decide) E_LEFT pd_0 rfl rfl rfl rfl (by decide) (by decide) (by decide) (by decide) all0 (own_cw l Z a0 hw n0 le fw tu _ S_TURN M_LEFT) ?_
    rw [show own_wh fw tu = 1 by simp [own_wh, n1, n2]]
    intro v h1 D1 q hsz
    obtain ⟨rfl, rfl, rfl⟩ := q
    show Runs false l Z [] n0 _ _ _ _ _ _ _ [] Z.heap 0 0 55 #[.val (.int p1), .val (.int x1), .val (.ref le), .val (.int (1 : Int32)), .unset] [(.int (1 : Int32))]
    refine Runs.istore (ls' := #[.val (.int p1), .val (.int x1), .val (.ref le), .val (.int (1 : Int32)), .val (.int (1 : Int32))]) i0_55 rfl ?_
    refine Runs.iload i0_57 rfl ?_
    refine Runs.iloadN i0_59 rfl ?_
    refine Runs.icN i0_60 (teq (by decide : (1 : Int32) = (1 : Int32))).2 ?_
    refine Runs.iload i0_63 rfl ?_
    refine Runs.aloadN i0_65 rfl rfl ?_
    refine Runs.callV (argsL := []) (rest := [(.int (1 : Int32))]) (W := 1) i0_66 (w14 hw) (w15 hw) (fun s hZ => notFace_of_selects (args := #[]) (mvT hZ (w17 hw))) (w17 hw) (w16 hw) (w18 hw) (w1 hw) (by decide) E_LEFT pd_1 rfl rfl rfl rfl (by decide) (by decide) (by decide) (by decide) all0 (own_ct l Z a0 hw n0 le (-1 : Int32) _ T_LEFT) ?_
    intro v h1 D1 q hsz
    obtain ⟨rfl, rfl, rfl⟩ := q
    show Runs false l Z [] n0 _ _ _ _ _ _ _ [] Z.heap 0 0 69 #[.val (.int p1), .val (.int x1), .val (.ref le), .val (.int (1 : Int32)), .val (.int (1 : Int32))] [(.int (-1 : Int32)), (.int (1 : Int32))]
    refine Runs.ifN i0_69 (feq (by decide : ¬ ((-1 : Int32) = (0 : Int32)))).1 ?_
    refine Runs.iconst (v := (1 : Int32)) i0_72 (by decide) ?_
    refine Runs.goto (t := 77) i0_73 (by decide) ?_
    refine Runs.icN i0_77 (teq (by decide : (1 : Int32) = (1 : Int32))).2 ?_
    refine Runs.iconst (v := (1 : Int32)) i0_80 (by decide) ?_
    refine Runs.goto (t := 85) i0_81 (by decide) ?_
    exact Runs.retI (z := (1 : Int32)) i0_85 rfl (Or.inr (Or.inl rfl)) (by decide) (by decide) (by decide) rfl
  · refine Runs.ifY (t := 17) i0_5 (by decide) (feq hc5).2 ?_
    refine Runs.iloadN i0_17 rfl ?_
    refine Runs.iconst (v := (1 : Int32)) i0_18 (by decide) ?_
    by_cases hc19 : x1 = (1 : Int32)
    · refine Runs.icN i0_19 (teq hc19).2 ?_
      refine Runs.getS i0_22 (w30 hw) Via.refl S_RIGHT ?_
      refine Runs.astoreN (ls' := #[.val (.int p1), .val (.int x1), .val (.ref ri), .unset, .unset]) i0_25 rfl rfl ?_
      refine Runs.iconst (v := (1 : Int32)) i0_26 (by decide) ?_
      refine Runs.istoreN (ls' := #[.val (.int p1), .val (.int x1), .val (.ref ri), .val (.int (1 : Int32)), .unset]) i0_27 rfl ?_
      refine Runs.goto (t := 51) i0_28 (by decide) ?_
      refine Runs.aloadN i0_51 rfl rfl ?_
      refine Runs.callV (argsL := []) (rest := []) (W := 0) i0_52 (w3 hw) (w4 hw) (fun s hZ => notFace_of_selects (args := #[]) (mvT hZ (w6 hw))) (w6 hw) (w5 hw) (w7 hw) (w1 hw) (by decide) E_RIGHT pd_0 rfl rfl rfl rfl (by decide) (by decide) (by decide) (by decide) all0 (own_cw l Z a0 hw n0 ri fw tu _ S_TURN M_RIGHT) ?_
      rw [show own_wh fw tu = 1 by simp [own_wh, n1, n2]]
      intro v h1 D1 q hsz
      obtain ⟨rfl, rfl, rfl⟩ := q
      show Runs false l Z [] n0 _ _ _ _ _ _ _ [] Z.heap 0 0 55 #[.val (.int p1), .val (.int x1), .val (.ref ri), .val (.int (1 : Int32)), .unset] [(.int (1 : Int32))]
      refine Runs.istore (ls' := #[.val (.int p1), .val (.int x1), .val (.ref ri), .val (.int (1 : Int32)), .val (.int (1 : Int32))]) i0_55 rfl ?_
      refine Runs.iload i0_57 rfl ?_
      refine Runs.iloadN i0_59 rfl ?_
      refine Runs.icN i0_60 (teq (by decide : (1 : Int32) = (1 : Int32))).2 ?_
      refine Runs.iload i0_63 rfl ?_
      refine Runs.aloadN i0_65 rfl rfl ?_
      refine Runs.callV (argsL := []) (rest := [(.int (1 : Int32))]) (W := 1) i0_66 (w14 hw) (w15 hw) (fun s hZ => notFace_of_selects (args := #[]) (mvT hZ (w17 hw))) (w17 hw) (w16 hw) (w18 hw) (w1 hw) (by decide) E_RIGHT pd_1 rfl rfl rfl rfl (by decide) (by decide) (by decide) (by decide) all0 (own_ct l Z a0 hw n0 ri (1 : Int32) _ T_RIGHT) ?_
      intro v h1 D1 q hsz
      obtain ⟨rfl, rfl, rfl⟩ := q
      show Runs false l Z [] n0 _ _ _ _ _ _ _ [] Z.heap 0 0 69 #[.val (.int p1), .val (.int x1), .val (.ref ri), .val (.int (1 : Int32)), .val (.int (1 : Int32))] [(.int (1 : Int32)), (.int (1 : Int32))]
      refine Runs.ifN i0_69 (feq (by decide : ¬ ((1 : Int32) = (0 : Int32)))).1 ?_
      refine Runs.iconst (v := (1 : Int32)) i0_72 (by decide) ?_
      refine Runs.goto (t := 77) i0_73 (by decide) ?_
      refine Runs.icN i0_77 (teq (by decide : (1 : Int32) = (1 : Int32))).2 ?_
      refine Runs.iconst (v := (1 : Int32)) i0_80 (by decide) ?_
      refine Runs.goto (t := 85) i0_81 (by decide) ?_
      exact Runs.retI (z := (1 : Int32)) i0_85 rfl (Or.inr (Or.inl rfl)) (by decide) (by decide) (by decide) rfl
    · refine Runs.icY (t := 31) i0_19 (by decide) (feq hc19).2 ?_
      refine Runs.iloadN i0_31 rfl ?_
      refine Runs.iconst (v := (2 : Int32)) i0_32 (by decide) ?_
      by_cases hc33 : x1 = (2 : Int32)
      · refine Runs.icN i0_33 (teq hc33).2 ?_
        refine Runs.getS i0_36 (w27 hw) Via.refl S_SIDEWAYS ?_
        refine Runs.astoreN (ls' := #[.val (.int p1), .val (.int x1), .val (.ref sw), .unset, .unset]) i0_39 rfl rfl ?_
        refine Runs.iconst (v := (1 : Int32)) i0_40 (by decide) ?_
        refine Runs.istoreN (ls' := #[.val (.int p1), .val (.int x1), .val (.ref sw), .val (.int (1 : Int32)), .unset]) i0_41 rfl ?_
        refine Runs.goto (t := 51) i0_42 (by decide) ?_
        refine Runs.aloadN i0_51 rfl rfl ?_
        refine Runs.callV (argsL := []) (rest := []) (W := 0) i0_52 (w3 hw) (w4 hw) (fun s hZ => notFace_of_selects (args := #[]) (mvT hZ (w6 hw))) (w6 hw) (w5 hw) (w7 hw) (w1 hw) (by decide) E_SIDEWAYS pd_0 rfl rfl rfl rfl (by decide) (by decide) (by decide) (by decide) all0 (own_cw l Z a0 hw n0 sw lw tu _ S_TURN M_SIDEWAYS) ?_
        rw [show own_wh lw tu = 1 by simp [own_wh, n1, n2]]
        intro v h1 D1 q hsz
        obtain ⟨rfl, rfl, rfl⟩ := q
        show Runs false l Z [] n0 _ _ _ _ _ _ _ [] Z.heap 0 0 55 #[.val (.int p1), .val (.int x1), .val (.ref sw), .val (.int (1 : Int32)), .unset] [(.int (1 : Int32))]
        refine Runs.istore (ls' := #[.val (.int p1), .val (.int x1), .val (.ref sw), .val (.int (1 : Int32)), .val (.int (1 : Int32))]) i0_55 rfl ?_
        refine Runs.iload i0_57 rfl ?_
        refine Runs.iloadN i0_59 rfl ?_
        refine Runs.icN i0_60 (teq (by decide : (1 : Int32) = (1 : Int32))).2 ?_
        refine Runs.iload i0_63 rfl ?_
        refine Runs.aloadN i0_65 rfl rfl ?_
        refine Runs.callV (argsL := []) (rest := [(.int (1 : Int32))]) (W := 1) i0_66 (w14 hw) (w15 hw) (fun s hZ => notFace_of_selects (args := #[]) (mvT hZ (w17 hw))) (w17 hw) (w16 hw) (w18 hw) (w1 hw) (by decide) E_SIDEWAYS pd_1 rfl rfl rfl rfl (by decide) (by decide) (by decide) (by decide) all0 (own_ct l Z a0 hw n0 sw (1 : Int32) _ T_SIDEWAYS) ?_
        intro v h1 D1 q hsz
        obtain ⟨rfl, rfl, rfl⟩ := q
        show Runs false l Z [] n0 _ _ _ _ _ _ _ [] Z.heap 0 0 69 #[.val (.int p1), .val (.int x1), .val (.ref sw), .val (.int (1 : Int32)), .val (.int (1 : Int32))] [(.int (1 : Int32)), (.int (1 : Int32))]
        refine Runs.ifN i0_69 (feq (by decide : ¬ ((1 : Int32) = (0 : Int32)))).1 ?_
        refine Runs.iconst (v := (1 : Int32)) i0_72 (by decide) ?_
        refine Runs.goto (t := 77) i0_73 (by decide) ?_
        refine Runs.icN i0_77 (teq (by decide : (1 : Int32) = (1 : Int32))).2 ?_
        refine Runs.iconst (v := (1 : Int32)) i0_80 (by decide) ?_
        refine Runs.goto (t := 85) i0_81 (by decide) ?_
        exact Runs.retI (z := (1 : Int32)) i0_85 rfl (Or.inr (Or.inl rfl)) (by decide) (by decide) (by decide) rfl
      · refine Runs.icY (t := 45) i0_33 (by decide) (feq hc33).2 ?_
        refine Runs.getS i0_45 (w21 hw) Via.refl S_GYRO ?_
        refine Runs.astoreN (ls' := #[.val (.int p1), .val (.int x1), .val (.ref gy), .unset, .unset]) i0_48 rfl rfl ?_
        refine Runs.iconst (v := (0 : Int32)) i0_49 (by decide) ?_
        refine Runs.istoreN (ls' := #[.val (.int p1), .val (.int x1), .val (.ref gy), .val (.int (0 : Int32)), .unset]) i0_50 rfl ?_
        refine Runs.aloadN i0_51 rfl rfl ?_
        refine Runs.callV (argsL := []) (rest := []) (W := 0) i0_52 (w3 hw) (w4 hw) (fun s hZ => notFace_of_selects (args := #[]) (mvT hZ (w23 hw))) (w23 hw) (w5 hw) (w7 hw) (w1 hw) (by decide) E_GYRO pd_0 rfl rfl rfl rfl (by decide) (by decide) (by decide) (by decide) all0 (own_cw l Z a0 hw n0 gy tu tu _ S_TURN M_GYRO) ?_
        rw [show own_wh tu tu = 0 by simp [own_wh, n1, n2]]
        intro v h1 D1 q hsz
        obtain ⟨rfl, rfl, rfl⟩ := q
        show Runs false l Z [] n0 _ _ _ _ _ _ _ [] Z.heap 0 0 55 #[.val (.int p1), .val (.int x1), .val (.ref gy), .val (.int (0 : Int32)), .unset] [(.int (0 : Int32))]
        refine Runs.istore (ls' := #[.val (.int p1), .val (.int x1), .val (.ref gy), .val (.int (0 : Int32)), .val (.int (0 : Int32))]) i0_55 rfl ?_
        refine Runs.iload i0_57 rfl ?_
        refine Runs.iloadN i0_59 rfl ?_
        refine Runs.icN i0_60 (teq (by decide : (0 : Int32) = (0 : Int32))).2 ?_
        refine Runs.iload i0_63 rfl ?_
        refine Runs.aloadN i0_65 rfl rfl ?_
        refine Runs.callV (argsL := []) (rest := [(.int (0 : Int32))]) (W := 1) i0_66 (w14 hw) (w15 hw) (fun s hZ => notFace_of_selects (args := #[]) (mvT hZ (w25 hw))) (w25 hw) (w16 hw) (w18 hw) (w1 hw) (by decide) E_GYRO pd_1 rfl rfl rfl rfl (by decide) (by decide) (by decide) (by decide) all0 (own_ct l Z a0 hw n0 gy (0 : Int32) _ T_GYRO) ?_
        intro v h1 D1 q hsz
        obtain ⟨rfl, rfl, rfl⟩ := q
        show Runs false l Z [] n0 _ _ _ _ _ _ _ [] Z.heap 0 0 69 #[.val (.int p1), .val (.int x1), .val (.ref gy), .val (.int (0 : Int32)), .val (.int (0 : Int32))] [(.int (0 : Int32)), (.int (0 : Int32))]
        refine Runs.ifY (t := 76) i0_69 (by decide) (teq (by decide : (0 : Int32) = (0 : Int32))).1 ?_
        refine Runs.iconst (v := (0 : Int32)) i0_76 (by decide) ?_
        refine Runs.icN i0_77 (teq (by decide : (0 : Int32) = (0 : Int32))).2 ?_
        refine Runs.iconst (v := (1 : Int32)) i0_80 (by decide) ?_
        refine Runs.goto (t := 85) i0_81 (by decide) ?_
        exact Runs.retI (z := (1 : Int32)) i0_85 rfl (Or.inr (Or.inl rfl)) (by decide) (by decide) (by decide) rfl
theorem own_eqR {args : Array Value} {s : State} {t u : Term} {a : Addr} (h : (Jvm.Cond.eq t u).value args s none s [] = some true) (hu : u.eval args s none [] s = some (.ref a)) : t.eval args s none [] s = some (.ref a) := by
  obtain ⟨x, y, e1, e2, k1, k2⟩ := cmp_v (Or.inl h)
  cases e2.symm.trans hu
  have hx : x.isRef = true := by cases x <;> simp_all [Kin, Value.isRef]
  rw [e1, gotT (eq_R e1 e2 hx rfl) h]

set_option maxRecDepth 65536 in
set_option maxHeartbeats 40000000 in
theorem comes_1 {Post : Tables → Env → Array Value → State → Outcome → State → Prop} (hpost : ∀ tb e args s v u, (limb_1_1.after args s (.returned v) u = true ∧ limb_1_2.after args s (.returned v) u = true ∧ True) → FrameEnd s (.returned v) u (Jvm.fieldLocs frame_1_writes args s ++ Jvm.arrayLocs frame_1_arrays args s ++ Jvm.staticLocs frame_1_statics s) 0 0 → Post tb e args s (.returned v) u) :
    ArmFor flags0 classFile x code maxLocals ret World_1 tables_1 room_1 Calls_1 rest_1 Pre_1 Post := by
  intro l hfl _ _ p e ha hc hk s m args below hf hA hF happ hP
  obtain ⟨hcalls, hrest, hpre⟩ := hP
  obtain ⟨-, -, -, hnamed, -, -, -, hat⟩ := (Spec.applies_iff hf).mp happ
  obtain ⟨hg, hn⟩ := and_e (Cond.before_iff.mp (show (Jvm.Cond.and given_1 narrow_1).before args s = true from hpre))
  obtain ⟨g1, g2⟩ := and_e hg
  obtain ⟨g3, g4⟩ := and_e hn
  obtain ⟨g5, g6⟩ := and_e g4
  obtain ⟨g7, g8⟩ := and_e g6
  obtain ⟨g9, g10⟩ := and_e g8
  obtain ⟨g11, g12⟩ := and_e g10
  obtain ⟨g13, g14⟩ := and_e g12
  obtain ⟨g15, g16⟩ := and_e g14
  obtain ⟨g17, g18⟩ := and_e g16
  obtain ⟨g19, g20⟩ := and_e g18
  obtain ⟨g21, g22⟩ := and_e g20
  obtain ⟨g23, g24⟩ := and_e g22
  obtain ⟨g25, g26⟩ := and_e g24
  obtain ⟨g27, g28⟩ := and_e g26
  obtain ⟨g29, g30⟩ := and_e g28
  obtain ⟨g31, g32⟩ := and_e g30
  obtain ⟨g33, g34⟩ := and_e g32
  obtain ⟨g35, g36⟩ := and_e g34
  obtain ⟨w0, rfl⟩ : ∃ w0 : Value, args = #[w0] := by
    have hs : args.size = 1 := by simpa [Cond.value, given_1] using g1
    obtain ⟨L⟩ := args
    match L, hs with
    | [w0], _ => exact ⟨w0, rfl⟩
  have hw : Wds s _ := fun d (hd : d ∈ tables_1) => atoms_spec (ws := Jvm.Cond.code x code maxLocals ret :: tables_1) hat d (List.mem_cons_of_mem _ hd)
  obtain ⟨i0, ei0⟩ := is_v g2
  obtain rfl : w0 = (.int i0) := Option.some.inj ei0
  obtain ⟨sLEFT, ev_LEFT⟩ := exa_v g3
  have E_LEFT := Exa.start ev_LEFT g3
  have S_LEFT : Sta s s.heap "com/example/arcpose/arcpose/Reading" "LEFT" "Lcom/example/arcpose/arcpose/Reading;" (.ref sLEFT) := Sta.start ev_LEFT (Or.inr ⟨(w1 hw), (w2 hw)⟩)
  obtain ⟨sFORWARD, ev_FORWARD⟩ := exa_v g5
  have E_FORWARD := Exa.start ev_FORWARD g5
  have S_FORWARD : Sta s s.heap "com/example/arcpose/arcpose/Reading$Motion" "FORWARD" "Lcom/example/arcpose/arcpose/Reading$Motion;" (.ref sFORWARD) := Sta.start ev_FORWARD (Or.inr ⟨(w10 hw), (w11 hw)⟩)
  obtain ⟨sTURN, ev_TURN⟩ := exa_v g9
  have E_TURN := Exa.start ev_TURN g9
  have S_TURN : Sta s s.heap "com/example/arcpose/arcpose/Reading$Motion" "TURN" "Lcom/example/arcpose/arcpose/Reading$Motion;" (.ref sTURN) := Sta.start ev_TURN (Or.inr ⟨(w10 hw), (w13 hw)⟩)
  obtain ⟨sGYRO, ev_GYRO⟩ := exa_v g17
  have E_GYRO := Exa.start ev_GYRO g17
  have S_GYRO : Sta s s.heap "com/example/arcpose/arcpose/Reading" "GYRO" "Lcom/example/arcpose/arcpose/Reading;" (.ref sGYRO) := Sta.start ev_GYRO (Or.inr ⟨(w1 hw), (w22 hw)⟩)
  obtain ⟨sSIDEWAYS, ev_SIDEWAYS⟩ := exa_v g23
  have E_SIDEWAYS := Exa.start ev_SIDEWAYS g23
  have S_SIDEWAYS : Sta s s.heap "com/example/arcpose/arcpose/Reading" "SIDEWAYS" "Lcom/example/arcpose/arcpose/Reading;" (.ref sSIDEWAYS) := Sta.start ev_SIDEWAYS (Or.inr ⟨(w1 hw), (w28 hw)⟩)
  obtain ⟨sLEFTWARD, ev_LEFTWARD⟩ := exa_v g25
  have E_LEFTWARD := Exa.start ev_LEFTWARD g25
  have S_LEFTWARD : Sta s s.heap "com/example/arcpose/arcpose/Reading$Motion" "LEFTWARD" "Lcom/example/arcpose/arcpose/Reading$Motion;" (.ref sLEFTWARD) := Sta.start ev_LEFTWARD (Or.inr ⟨(w10 hw), (w29 hw)⟩)
  obtain ⟨sRIGHT, ev_RIGHT⟩ := exa_v g33
  have E_RIGHT := Exa.start ev_RIGHT g33
  have S_RIGHT : Sta s s.heap "com/example/arcpose/arcpose/Reading" "RIGHT" "Lcom/example/arcpose/arcpose/Reading;" (.ref sRIGHT) := Sta.start ev_RIGHT (Or.inr ⟨(w1 hw), (w31 hw)⟩)
  have F_LEFT_measures : s.fieldOf? sLEFT "com/example/arcpose/arcpose/Reading" "measures" "Lcom/example/arcpose/arcpose/Reading$Motion;" = some (.ref sFORWARD) := (fld_at ev_LEFT).symm.trans (own_eqR g7 ev_FORWARD)
  have F_FORWARD_ordinal : s.fieldOf? sFORWARD "java/lang/Enum" "ordinal" "I" = some (.int (0 : Int32)) := (fld_at ev_FORWARD).symm.trans (Cond.eq_int (Cond.before_iff.mpr g11) rfl)
  have F_TURN_ordinal : s.fieldOf? sTURN "java/lang/Enum" "ordinal" "I" = some (.int (2 : Int32)) := (fld_at ev_TURN).symm.trans (Cond.eq_int (Cond.before_iff.mpr g13) rfl)
  have F_LEFT_turnSign : s.fieldOf? sLEFT "com/example/arcpose/arcpose/Reading" "turnSign" "I" = some (.int (-1 : Int32)) := (fld_at ev_LEFT).symm.trans (Cond.eq_int (Cond.before_iff.mpr g15) rfl)
  have F_GYRO_measures : s.fieldOf? sGYRO "com/example/arcpose/arcpose/Reading" "measures" "Lcom/example/arcpose/arcpose/Reading$Motion;" = some (.ref sTURN) := (fld_at ev_GYRO).symm.trans (own_eqR g19 ev_TURN)
  have F_GYRO_turnSign : s.fieldOf? sGYRO "com/example/arcpose/arcpose/Reading" "turnSign" "I" = some (.int (0 : Int32)) := (fld_at ev_GYRO).symm.trans (Cond.eq_int (Cond.before_iff.mpr g21) rfl)
  have F_SIDEWAYS_measures : s.fieldOf? sSIDEWAYS "com/example/arcpose/arcpose/Reading" "measures" "Lcom/example/arcpose/arcpose/Reading$Motion;" = some (.ref sLEFTWARD) := (fld_at ev_SIDEWAYS).symm.trans (own_eqR g27 ev_LEFTWARD)
  have F_LEFTWARD_ordinal : s.fieldOf? sLEFTWARD "java/lang/Enum" "ordinal" "I" = some (.int (1 : Int32)) := (fld_at ev_LEFTWARD).symm.trans (Cond.eq_int (Cond.before_iff.mpr g29) rfl)
  have F_SIDEWAYS_turnSign : s.fieldOf? sSIDEWAYS "com/example/arcpose/arcpose/Reading" "turnSign" "I" = some (.int (1 : Int32)) := (fld_at ev_SIDEWAYS).symm.trans (Cond.eq_int (Cond.before_iff.mpr g31) rfl)
  have F_RIGHT_measures : s.fieldOf? sRIGHT "com/example/arcpose/arcpose/Reading" "measures" "Lcom/example/arcpose/arcpose/Reading$Motion;" = some (.ref sFORWARD) := (fld_at ev_RIGHT).symm.trans (own_eqR g35 ev_FORWARD)
  have F_RIGHT_turnSign : s.fieldOf? sRIGHT "com/example/arcpose/arcpose/Reading" "turnSign" "I" = some (.int (1 : Int32)) := (fld_at ev_RIGHT).symm.trans (Cond.eq_int (Cond.before_iff.mpr g36) rfl)
  have n1 : ¬ sFORWARD = sTURN := fun q => by
    have h1 := F_FORWARD_ordinal
    rw [q, F_TURN_ordinal] at h1
    simp at h1
  have n2 : ¬ sLEFTWARD = sTURN := fun q => by
    have h1 := F_LEFTWARD_ordinal
    rw [q, F_TURN_ordinal] at h1
    simp at h1
  obtain ⟨n, o, h1, h2, h3, v, L, D', rfl, rfl, -, N, -, hq⟩ := own_law l s _ hw s.heap.size i0 sLEFT sRIGHT sSIDEWAYS sGYRO sTURN sFORWARD sLEFTWARD S_LEFT S_RIGHT S_SIDEWAYS S_GYRO S_TURN E_LEFT E_RIGHT E_SIDEWAYS E_GYRO (Fld.start F_LEFT_measures) (Fld.start F_RIGHT_measures) (Fld.start F_SIDEWAYS_measures) (Fld.start F_GYRO_measures) (Fld.start F_LEFT_turnSign) (Fld.start F_RIGHT_turnSign) (Fld.start F_SIDEWAYS_turnSign) (Fld.start F_GYRO_turnSign) n1 n2 tables_1 p e ha hc hk s m _ below hf ((Spec.applies_iff_loose hf).mp happ).1 ⟨rfl, State.Warmed39.refl s, rfl, Old.start s, ⟨#[], EW.nil⟩, ch0, fun _ q => nomatch q⟩ trivial
  have hq : FrameEnd s _ _ L _ _ := hq
  refine ⟨n, _, h1, h2, h3, hpost _ _ _ _ _ _ ⟨Cond.after_iff.mpr rfl, Cond.after_iff.mpr (eq_i res_at (Term.int_eval (1)) rfl), trivial⟩ ⟨hq.1, hq.2.1, (hq.2.2.sift fun y hy => Or.inr (N y hy)).mono (by decide) (by decide)⟩⟩
theorem main_1_1 : Claimed_1_1 := comes_1 fun _ _ _ _ _ _ h hF => ⟨h.1, hF⟩
theorem main_1_2 : Claimed_1_2 := comes_1 fun _ _ _ _ _ _ h hF => ⟨h.2.1, hF⟩
end Jvm.Pilot.@@N@@
namespace Jvm.Pilot.@@N@@
open Jvm Jvm.ClassFile Sem Op Lib Jvm.Free Jvm.Stand Jvm.Pilot.@@N@@.Jvm.D
/-! MADE BY PROGRAM (witnessworld.py) out of the Statement's table words and the real class files: 14 classes; the members and pool entries that the words name. The judged class is class 1, her method 1. -/
namespace start1
open Jvm.ClassFile
def u (s : String) : CpInfo := .utf8 (stringToUtf16 s)
/-- a pool by its gaps: so many unusable entries, then the entry; so many at the end -/
def gap : Nat → List CpInfo → List CpInfo
  | 0, r => r
  | n + 1, r => .unusable :: gap n r
def poolList (es : List (Nat × CpInfo)) (last : Nat) : List CpInfo := es.foldr (fun e r => gap e.1 (e.2 :: r)) (gap last [])
def pool (es : List (Nat × CpInfo)) (last : Nat) : Array CpInfo := ⟨poolList es last⟩
def fileOf (pool : Array CpInfo) (this : Nat) (attrs : Array Attribute := #[]) (ms : Array MethodInfo := #[]) (fl : Nat := 33) (sup : Nat := 0) (ifs : Array Nat := #[]) (fds : Array FieldInfo := #[]) : ClassFile where
  minorVersion := 0
  majorVersion := 65
  constantPool := pool
  accessFlags := fl
  thisClass := this
  superClass := sup
  interfaces := ifs
  fields := fds
  methods := ms
  attributes := attrs
def plain (name : String) (sup : Option ClassId) : Class where
  name := name
  kind := .ordinary
  loader := none
  accessFlags := 33
  super := sup
  interfaces := #[]
  cf := none
  fields := #[]
  methods := #[]
  instanceTypes := #[]
  staticTypes := #[]
  resolved := #[]
  callSites := []
  init := .initialized
  statics := none
  mirror := none

def pool0 : Array CpInfo := pool [(5, u "<init>"), (0, u "()V"), (1, .class_ 10), (1, u "java/lang/Object")] 113

def k0m0 : Method := { name := "<init>", desc := "()V", sig := { parameters := [], returnType := none }, accessFlags := 1, code := none }
/-- java/lang/Object -/
def k0 : Class := { plain "java/lang/Object" none with
  accessFlags := 33
  interfaces := #[]
  cf := some (fileOf pool0 8 #[] #[{ accessFlags := 1, nameIndex := 5, descriptorIndex := 6, attributes := #[] }] 33 0 #[] #[])
  fields := #[]
  methods := #[k0m0]
  instanceTypes := #[]
  staticTypes := #[]
  resolved := Array.replicate 124 none
  statics := none }

def pool1 : Array CpInfo := pool [(2, .class_ 4), (1, u "java/lang/Object"), (0, u "<init>"), (0, u "()V"), (0, .fieldref 8 9), (0, .class_ 10), (0, .nameAndType 11 12), (0, u "com/example/arcpose/arcpose/Reading"), (0, u "LEFT"), (0, u "Lcom/example/arcpose/arcpose/Reading;"), (0, .fieldref 8 14), (0, .nameAndType 15 12), (0, u "RIGHT"), (0, .fieldref 8 17), (0, .nameAndType 18 12), (0, u "SIDEWAYS"), (0, .fieldref 8 20), (0, .nameAndType 21 12), (0, u "GYRO"), (0, .methodref 8 23), (0, .nameAndType 24 25), (0, u "isWheel"), (0, u "()Z"), (0, .methodref 8 27), (0, .nameAndType 28 29), (0, u "turnSign"), (0, u "()I"), (0, .class_ 31), (0, u "com/example/arcpose/arcpose/ReadingIsWheelPinLaw"), (2, u "law"), (0, u "(I)Z")] 3

def k1m0 : Method := { name := "<init>", desc := "()V", sig := { parameters := [], returnType := none }, accessFlags := 1, code := none }
def k1c1 : Code := { maxStack := 2, maxLocals := 5, code := code, exceptionTable := #[], attributes := #[] }
def k1m1 : Method := { name := "law", desc := "(I)Z", sig := { parameters := [.int], returnType := some .boolean }, accessFlags := 9, code := some k1c1 }
/-- com/example/arcpose/arcpose/ReadingIsWheelPinLaw -/
def k1 : Class := { plain "com/example/arcpose/arcpose/ReadingIsWheelPinLaw" (some 0) with
  accessFlags := 49
  interfaces := #[]
  cf := some (fileOf pool1 30 #[] #[{ accessFlags := 1, nameIndex := 5, descriptorIndex := 6, attributes := #[] }, { accessFlags := 9, nameIndex := 34, descriptorIndex := 35, attributes := #[] }] 49 2 #[] #[])
  fields := #[]
  methods := #[k1m0, k1m1]
  instanceTypes := #[]
  staticTypes := #[]
  resolved := Array.replicate 39 none
  statics := none }

def pool2 : Array CpInfo := pool [(1, .class_ 2), (0, u "java/lang/constant/Constable"), (0, .class_ 4), (0, u "java/lang/Object")] 6

/-- java/lang/constant/Constable -/
def k2 : Class := { plain "java/lang/constant/Constable" (some 0) with
  accessFlags := 1537
  interfaces := #[]
  cf := some (fileOf pool2 1 #[] #[] 1537 3 #[] #[])
  fields := #[]
  methods := #[]
  instanceTypes := #[]
  staticTypes := #[]
  resolved := Array.replicate 11 none
  statics := none }

def pool3 : Array CpInfo := pool [(1, .class_ 2), (0, u "java/lang/Comparable"), (0, .class_ 4), (0, u "java/lang/Object")] 7

/-- java/lang/Comparable -/
def k3 : Class := { plain "java/lang/Comparable" (some 0) with
  accessFlags := 1537
  interfaces := #[]
  cf := some (fileOf pool3 1 #[] #[] 1537 3 #[] #[])
  fields := #[]
  methods := #[]
  instanceTypes := #[]
  staticTypes := #[]
  resolved := Array.replicate 12 none
  statics := none }

def pool4 : Array CpInfo := pool [(1, .class_ 2), (0, u "java/io/Serializable"), (0, .class_ 4), (0, u "java/lang/Object")] 2

/-- java/io/Serializable -/
def k4 : Class := { plain "java/io/Serializable" (some 0) with
  accessFlags := 1537
  interfaces := #[]
  cf := some (fileOf pool4 1 #[] #[] 1537 3 #[] #[])
  fields := #[]
  methods := #[]
  instanceTypes := #[]
  staticTypes := #[]
  resolved := Array.replicate 7 none
  statics := none }

def pool5 : Array CpInfo := pool [(2, .class_ 4), (1, u "java/lang/Enum"), (0, u "name"), (0, u "Ljava/lang/String;"), (2, u "ordinal"), (0, u "I"), (1, .class_ 14), (1, u "java/lang/Object"), (4, u "hash"), (86, .class_ 108), (1, u "java/lang/Enum$EnumDesc"), (2, .class_ 112), (0, u "java/lang/constant/Constable"), (0, .class_ 114), (0, u "java/lang/Comparable"), (0, .class_ 116), (0, u "java/io/Serializable")] 87

/-- java/lang/Enum -/
def k5 : Class := { plain "java/lang/Enum" (some 0) with
  accessFlags := 1057
  interfaces := #[2, 3, 4]
  cf := some (fileOf pool5 2 #[.nestMembers #[106]] #[] 1057 12 #[111, 113, 115] #[{ accessFlags := 18, nameIndex := 5, descriptorIndex := 6, attributes := #[] }, { accessFlags := 18, nameIndex := 9, descriptorIndex := 10, attributes := #[] }, { accessFlags := 2, nameIndex := 19, descriptorIndex := 10, attributes := #[] }])
  fields := #[{ name := "name", type := (.object "java/lang/String"), accessFlags := 18, slot := 0, constantValue := 0 }, { name := "ordinal", type := .int, accessFlags := 18, slot := 1, constantValue := 0 }, { name := "hash", type := .int, accessFlags := 2, slot := 2, constantValue := 0 }]
  methods := #[]
  instanceTypes := #[(.object "java/lang/String"), .int, .int]
  staticTypes := #[]
  resolved := Array.replicate 204 none
  statics := none }

def pool6 : Array CpInfo := pool [(1, .class_ 2), (0, u "com/example/arcpose/arcpose/Reading"), (2, u "LEFT"), (0, u "Lcom/example/arcpose/arcpose/Reading;"), (2, u "RIGHT"), (2, u "SIDEWAYS"), (2, u "GYRO"), (2, u "$VALUES"), (0, u "[Lcom/example/arcpose/arcpose/Reading;"), (6, .class_ 28), (1, u "java/lang/Enum"), (8, u "label"), (0, u "Ljava/lang/String;"), (2, u "parameter"), (0, .fieldref 1 43), (0, .nameAndType 44 45), (0, u "measures"), (0, u "Lcom/example/arcpose/arcpose/Reading$Motion;"), (0, .fieldref 1 47), (0, .nameAndType 48 49), (0, u "turnSign"), (0, u "I"), (0, .fieldref 51 52), (0, .class_ 53), (0, .nameAndType 54 45), (0, u "com/example/arcpose/arcpose/Reading$Motion"), (0, u "TURN"), (30, .class_ 86), (0, u "com/example/arcpose/arcpose/Reading$1"), (15, u "COUNT"), (0, u "FULL_TURN_DEGREES"), (0, u "D"), (3, u "HALF_TURN_DEGREES"), (10, u "()I"), (0, u "isWheel"), (0, u "()Z")] 10

def k6c0 : Code := { maxStack := 1, maxLocals := 1, code := prog_19_method_7_code, exceptionTable := #[], attributes := #[] }
def k6m0 : Method := { name := "turnSign", desc := "()I", sig := { parameters := [], returnType := some .int }, accessFlags := 0, code := some k6c0 }
def k6c1 : Code := { maxStack := 2, maxLocals := 1, code := prog_19_method_8_code, exceptionTable := #[], attributes := #[] }
def k6m1 : Method := { name := "isWheel", desc := "()Z", sig := { parameters := [], returnType := some .boolean }, accessFlags := 0, code := some k6c1 }
/-- com/example/arcpose/arcpose/Reading -/
def k6 : Class := { plain "com/example/arcpose/arcpose/Reading" (some 5) with
  accessFlags := 16416
  interfaces := #[]
  cf := some (fileOf pool6 1 #[.nestMembers #[51, 85]] #[{ accessFlags := 0, nameIndex := 48, descriptorIndex := 119, attributes := #[] }, { accessFlags := 0, nameIndex := 120, descriptorIndex := 121, attributes := #[] }] 16416 26 #[] #[{ accessFlags := 16409, nameIndex := 5, descriptorIndex := 6, attributes := #[] }, { accessFlags := 16409, nameIndex := 9, descriptorIndex := 6, attributes := #[] }, { accessFlags := 16409, nameIndex := 12, descriptorIndex := 6, attributes := #[] }, { accessFlags := 16409, nameIndex := 15, descriptorIndex := 6, attributes := #[] }, { accessFlags := 24, nameIndex := 102, descriptorIndex := 49, attributes := #[] }, { accessFlags := 26, nameIndex := 103, descriptorIndex := 104, attributes := #[] }, { accessFlags := 26, nameIndex := 108, descriptorIndex := 104, attributes := #[] }, { accessFlags := 18, nameIndex := 37, descriptorIndex := 38, attributes := #[] }, { accessFlags := 18, nameIndex := 41, descriptorIndex := 38, attributes := #[] }, { accessFlags := 18, nameIndex := 44, descriptorIndex := 45, attributes := #[] }, { accessFlags := 18, nameIndex := 48, descriptorIndex := 49, attributes := #[] }, { accessFlags := 4122, nameIndex := 18, descriptorIndex := 19, attributes := #[] }])
  fields := #[{ name := "LEFT", type := (.object "com/example/arcpose/arcpose/Reading"), accessFlags := 16409, slot := 0, constantValue := 0 }, { name := "RIGHT", type := (.object "com/example/arcpose/arcpose/Reading"), accessFlags := 16409, slot := 1, constantValue := 0 }, { name := "SIDEWAYS", type := (.object "com/example/arcpose/arcpose/Reading"), accessFlags := 16409, slot := 2, constantValue := 0 }, { name := "GYRO", type := (.object "com/example/arcpose/arcpose/Reading"), accessFlags := 16409, slot := 3, constantValue := 0 }, { name := "COUNT", type := .int, accessFlags := 24, slot := 4, constantValue := 0 }, { name := "FULL_TURN_DEGREES", type := .double, accessFlags := 26, slot := 5, constantValue := 0 }, { name := "HALF_TURN_DEGREES", type := .double, accessFlags := 26, slot := 6, constantValue := 0 }, { name := "label", type := (.object "java/lang/String"), accessFlags := 18, slot := 3, constantValue := 0 }, { name := "parameter", type := (.object "java/lang/String"), accessFlags := 18, slot := 4, constantValue := 0 }, { name := "measures", type := (.object "com/example/arcpose/arcpose/Reading$Motion"), accessFlags := 18, slot := 5, constantValue := 0 }, { name := "turnSign", type := .int, accessFlags := 18, slot := 6, constantValue := 0 }, { name := "$VALUES", type := (.array (.object "com/example/arcpose/arcpose/Reading")), accessFlags := 4122, slot := 7, constantValue := 0 }]
  methods := #[k6m0, k6m1]
  instanceTypes := #[(.object "java/lang/String"), .int, .int, (.object "java/lang/String"), (.object "java/lang/String"), (.object "com/example/arcpose/arcpose/Reading$Motion"), .int]
  staticTypes := #[(.object "com/example/arcpose/arcpose/Reading"), (.object "com/example/arcpose/arcpose/Reading"), (.object "com/example/arcpose/arcpose/Reading"), (.object "com/example/arcpose/arcpose/Reading"), .int, .double, .double, (.array (.object "com/example/arcpose/arcpose/Reading"))]
  resolved := Array.replicate 132 none
  statics := some 0 }

def pool7 : Array CpInfo := pool [(1, .class_ 2), (0, u "com/example/arcpose/arcpose/Reading$Motion"), (2, u "FORWARD"), (0, u "Lcom/example/arcpose/arcpose/Reading$Motion;"), (2, u "LEFTWARD"), (2, u "TURN"), (2, u "$VALUES"), (0, u "[Lcom/example/arcpose/arcpose/Reading$Motion;"), (6, .class_ 25), (1, u "java/lang/Enum"), (26, .class_ 53), (0, u "com/example/arcpose/arcpose/Reading")] 2

/-- com/example/arcpose/arcpose/Reading$Motion -/
def k7 : Class := { plain "com/example/arcpose/arcpose/Reading$Motion" (some 5) with
  accessFlags := 16432
  interfaces := #[]
  cf := some (fileOf pool7 1 #[.nestHost 52] #[] 16432 23 #[] #[{ accessFlags := 16409, nameIndex := 5, descriptorIndex := 6, attributes := #[] }, { accessFlags := 16409, nameIndex := 9, descriptorIndex := 6, attributes := #[] }, { accessFlags := 16409, nameIndex := 12, descriptorIndex := 6, attributes := #[] }, { accessFlags := 4122, nameIndex := 15, descriptorIndex := 16, attributes := #[] }])
  fields := #[{ name := "FORWARD", type := (.object "com/example/arcpose/arcpose/Reading$Motion"), accessFlags := 16409, slot := 0, constantValue := 0 }, { name := "LEFTWARD", type := (.object "com/example/arcpose/arcpose/Reading$Motion"), accessFlags := 16409, slot := 1, constantValue := 0 }, { name := "TURN", type := (.object "com/example/arcpose/arcpose/Reading$Motion"), accessFlags := 16409, slot := 2, constantValue := 0 }, { name := "$VALUES", type := (.array (.object "com/example/arcpose/arcpose/Reading$Motion")), accessFlags := 4122, slot := 3, constantValue := 0 }]
  methods := #[]
  instanceTypes := #[(.object "java/lang/String"), .int, .int]
  staticTypes := #[(.object "com/example/arcpose/arcpose/Reading$Motion"), (.object "com/example/arcpose/arcpose/Reading$Motion"), (.object "com/example/arcpose/arcpose/Reading$Motion"), (.array (.object "com/example/arcpose/arcpose/Reading$Motion"))]
  resolved := Array.replicate 56 none
  statics := some 1 }

def pool8 : Array CpInfo := pool [(1, .class_ 2), (0, u "com/example/arcpose/arcpose/Reading"), (14, .class_ 18), (0, u "com/example/arcpose/arcpose/Reading$1")] 13

/-- com/example/arcpose/arcpose/Reading$1 -/
def k8 : Class := { plain "com/example/arcpose/arcpose/Reading$1" (some 6) with
  accessFlags := 16432
  interfaces := #[]
  cf := some (fileOf pool8 17 #[.nestHost 1] #[] 16432 1 #[] #[])
  fields := #[]
  methods := #[]
  instanceTypes := #[(.object "java/lang/String"), .int, .int, (.object "java/lang/String"), (.object "java/lang/String"), (.object "com/example/arcpose/arcpose/Reading$Motion"), .int]
  staticTypes := #[]
  resolved := Array.replicate 32 none
  statics := none }

def pool9 : Array CpInfo := pool [(1, u "java/lang/Cloneable"), (0, .class_ 1), (0, u "java/lang/Object"), (0, .class_ 3)] 3

/-- java/lang/Cloneable -/
def k9 : Class := { plain "java/lang/Cloneable" (some 0) with
  accessFlags := 1537
  interfaces := #[]
  cf := some (fileOf pool9 2 #[] #[] 1537 4 #[] #[])
  fields := #[]
  methods := #[]
  instanceTypes := #[]
  staticTypes := #[]
  resolved := Array.replicate 8 none
  statics := none }

/-- the primitive byte -/
def k10 : Class := { plain "byte" none with kind := .primitive 'B', accessFlags := 0x411 }
/-- [B -/
def k11 : Class := { plain "[B" (some 0) with kind := .array 10 .byte, interfaces := #[9, 4], accessFlags := 1041 }

/-- the primitive int -/
def k12 : Class := { plain "int" none with kind := .primitive 'I', accessFlags := 0x411 }
/-- [I -/
def k13 : Class := { plain "[I" (some 0) with kind := .array 12 .int, interfaces := #[9, 4], accessFlags := 1041 }

def heap : Heap := #[{ cls := 6, slots := #[.ref 5, .ref 6, .ref 7, .ref 8, .int 0, .double 0, .double 0, .null], vm := .statics 6 },
  { cls := 7, slots := #[.ref 2, .ref 3, .ref 4, .null], vm := .statics 7 },
  { cls := 7, slots := #[.null, .int 0, .int 0], vm := .none },
  { cls := 7, slots := #[.null, .int 1, .int 0], vm := .none },
  { cls := 7, slots := #[.null, .int 2, .int 0], vm := .none },
  { cls := 6, slots := #[.null, .int 0, .int 0, .null, .null, .ref 2, .int (-1)], vm := .none },
  { cls := 6, slots := #[.null, .int 1, .int 0, .null, .null, .ref 2, .int 1], vm := .none },
  { cls := 6, slots := #[.null, .int 2, .int 0, .null, .null, .ref 3, .int 1], vm := .none },
  { cls := 8, slots := #[.null, .int 3, .int 0, .null, .null, .ref 4, .int 0], vm := .none }]
def classes : Array Class := #[k0, k1, k2, k3, k4, k5, k6, k7, k8, k9, k10, k11, k12, k13]
def interned : List (Array UInt16 × Addr) := []
def slotsUsed : Nat := 49
def theMethod : MethodId := ⟨1, 1⟩
def args0 : Array Value := #[.int 5]
def aboutOver (below : List Frame) : State where
  vm := { classes := classes, interned := interned.toArray }
  heap := heap
  slotsUsed := slotsUsed
  threads := #[{ frames := .invoking theMethod args0 :: below }]
def below0 : List Frame := [.native { method := ⟨0, 0⟩, args := #[] }]
def about1 : State := aboutOver below0
def p0 : Program := .bare "" "" ""
def e0 : Env := launch0.env 0 0 0
theorem w_frames : about1.frames = Frame.invoking theMethod args0 :: below0 := rfl
set_option maxRecDepth 65536 in
theorem w_args : argsFit about1.vm theMethod args0 = true := by decide +kernel
set_option maxRecDepth 65536 in
theorem w_heap : heapFits about1 = true := by decide +kernel
set_option maxRecDepth 65536 in
theorem w_runnable : about1.curStatus? = some .runnable := by decide +kernel
set_option maxRecDepth 65536 in
theorem w_alone : about1.alone = true := by decide +kernel
set_option maxRecDepth 65536 in
theorem w_named : about1.methodNamed? x = some theMethod := by decide +kernel
set_option maxRecDepth 65536 in
theorem w_hears : about1.hears theMethod below0 = true := by decide +kernel
set_option maxRecDepth 65536 in
theorem w_ripe : about1.ripe theMethod args0 below0 = true := by decide +kernel
theorem w_running : about1.status = .running := rfl
set_option maxRecDepth 65536 in
theorem w_room : about1.hasRoom e0.platform room_1 = true :=
  launch0.hasRoom_least _ room_1 (by decide +kernel) (by decide +kernel) (by decide +kernel) (by decide +kernel) (by decide +kernel) (by decide +kernel)
theorem allAtoms_all (ts : List Jvm.Cond) (a : Array Jvm.Value) (st : Jvm.State) : (allAtoms ts).before a st = ts.all (fun c => c.before a st) := by
  induction ts with
  | nil => rfl
  | cons c t ih =>
    show (Jvm.Cond.and c (allAtoms t)).before a st = _
    rw [Jvm.Cond.before_and, ih, List.all_cons]
def words1 : List Jvm.Cond := Jvm.Cond.code x code maxLocals ret :: tables_1
/-- a 'code' word, met by the world's own term for the bytes: nothing is compared byte by byte -/
theorem code_word {y : MethodName} {bytes : ByteArray} {mx : Nat} {rt : Option FieldType} {a : Array Value} {s : State} {m : MethodId} {meth : Method} {c : Code} (h1 : s.methodNamed? y = some m) (h2 : s.vm.method? m = some meth) (h3 : meth.code = some c) (h4 : c.code = bytes)
    (h5 : (c.maxLocals == mx && c.exceptionTable.isEmpty && decide (c.maxStack ≤ mostOperands) && decide (meth.sig.returnType = rt) && !meth.locks && decide (parseMethodDescriptor y.desc = some meth.sig)) = true) : (Jvm.Cond.code y bytes mx rt).before a s = true := by
  simp only [Bool.and_eq_true, beq_iff_eq, Bool.not_eq_true', decide_eq_true_eq] at h5
  obtain ⟨⟨⟨⟨⟨g1, g2⟩, g3⟩, g4⟩, g5⟩, g6⟩ := h5
  simp [Cond.before, Cond.holds, Cond.value, h1, h2, h3, h4, g1, g2, g3, g4, g5, g6]
def isCode : Jvm.Cond → Bool
  | .code _ _ _ _ => true
  | _ => false
theorem all_split {L : List Jvm.Cond} {P : Jvm.Cond → Bool} (h1 : L.all (fun c => isCode c || P c) = true) (h2 : ∀ c ∈ L.filter isCode, P c = true) : L.all P = true := by
  refine List.all_eq_true.mpr fun c hc => ?_
  have h := List.all_eq_true.mp h1 c hc
  rcases Bool.eq_false_or_eq_true (isCode c) with hi | hi
  · exact h2 c (List.mem_filter.mpr ⟨hc, hi⟩)
  · simpa [hi] using h
set_option maxRecDepth 65536 in
theorem w_c0 : (Jvm.Cond.code x code maxLocals ret).before args0 about1 = true := code_word (m := ⟨1, 1⟩) (meth := k1m1) (c := k1c1) (by decide +kernel) rfl rfl rfl (by decide +kernel)
set_option maxRecDepth 65536 in
theorem w_c1 : (Jvm.Cond.code ({ cls := "com/example/arcpose/arcpose/Reading", name := "isWheel", desc := "()Z" } : Jvm.MethodName) prog_19_method_8_code (1 : Nat) (Option.some Jvm.ClassFile.FieldType.boolean)).before args0 about1 = true := code_word (m := ⟨6, 1⟩) (meth := k6m1) (c := k6c1) (by decide +kernel) rfl rfl rfl (by decide +kernel)
set_option maxRecDepth 65536 in
theorem w_c2 : (Jvm.Cond.code ({ cls := "com/example/arcpose/arcpose/Reading", name := "turnSign", desc := "()I" } : Jvm.MethodName) prog_19_method_7_code (1 : Nat) (Option.some Jvm.ClassFile.FieldType.int)).before args0 about1 = true := code_word (m := ⟨6, 0⟩) (meth := k6m0) (c := k6c0) (by decide +kernel) rfl rfl rfl (by decide +kernel)
def codes1 : List Jvm.Cond := [Jvm.Cond.code x code maxLocals ret, Jvm.Cond.code ({ cls := "com/example/arcpose/arcpose/Reading", name := "isWheel", desc := "()Z" } : Jvm.MethodName) prog_19_method_8_code (1 : Nat) (Option.some Jvm.ClassFile.FieldType.boolean), Jvm.Cond.code ({ cls := "com/example/arcpose/arcpose/Reading", name := "turnSign", desc := "()I" } : Jvm.MethodName) prog_19_method_7_code (1 : Nat) (Option.some Jvm.ClassFile.FieldType.int)]
set_option maxRecDepth 65536 in
theorem codes_eq : words1.filter isCode = codes1 := rfl
theorem w_codes : ∀ c ∈ words1.filter isCode, c.before args0 about1 = true := by
  rw [codes_eq]
  intro c hc
  simp only [codes1, List.mem_cons, List.not_mem_nil, or_false] at hc
  rcases hc with rfl | rfl | rfl
  · exact w_c0
  · exact w_c1
  · exact w_c2
set_option maxRecDepth 65536 in
theorem w_t1 : (words1.take 24).all (fun c => isCode c || c.before args0 about1) = true := by decide +kernel
set_option maxRecDepth 65536 in
theorem w_t2 : (words1.drop 24).all (fun c => isCode c || c.before args0 about1) = true := by decide +kernel
theorem w_tables : (allAtoms (Jvm.Cond.code x code maxLocals ret :: tables_1)).before args0 about1 = true := by
  rw [allAtoms_all]
  show words1.all (fun c => c.before args0 about1) = true
  refine all_split ?_ w_codes
  rw [← List.take_append_drop 24 words1, List.all_append, w_t1, w_t2]
  rfl
set_option maxRecDepth 65536 in
theorem w_case : (Jvm.Cond.and given_1 narrow_1).before args0 about1 = true := by decide +kernel
theorem w_applies : (headSpec (Jvm.Cond.code x code maxLocals ret :: tables_1) room_1).applies x e0.platform about1 = true :=
  (Spec.applies_iff w_frames).mpr ⟨w_running, w_runnable, w_alone, w_named, w_hears, w_ripe, w_room, w_tables⟩
theorem atStart : AtStart classFile x code maxLocals ret World_1 tables_1 room_1 Calls_1 rest_1 Pre_1 launch0 p0 e0 about1 theMethod args0 below0 :=
  ⟨lists_1, trivial, launch0.admits_env _ _ _, launch0.least_env, fairChoices_fair.cas, fairChoices_fair.clock, w_frames, w_args, w_heap, w_applies, trivial, trivial, w_case⟩
end start1
theorem witness_1 : WitnessClaimed_1 := ⟨start1.p0, start1.e0, start1.about1, start1.theMethod, start1.args0, start1.below0, start1.atStart⟩
end Jvm.Pilot.@@N@@
