import JvmDerived
import JvmDerived.Pilot.@@N@@Statement
import JvmDerived.Pilot.@@N@@Code
set_option linter.unusedVariables false
set_option linter.unusedSimpArgs false
@@BLOCK:TracedD.lean.txt@@

namespace Jvm.OwnW
open Sem ClassFile Op Lib Jvm.Stand Jvm.Free Jvm.LawKit Jvm.RoadKit
/-- the instruction i stands at pc, n bytes long; the next one stands at nx -/
def Ins (code : ByteArray) (pc : Nat) (i : Instr) (n nx : Nat) : Prop := decode code pc = .ok (i, n) ∧ pc + n = nx
/-- a jump by o from pc leads to t -/
def Jmp (pc : Nat) (o : Int) (t : Nat) : Prop := 0 ≤ (pc : Int) + o ∧ ((pc : Int) + o).toNat = t
instance {pc : Nat} {o : Int} {t : Nat} : Decidable (Jmp pc o t) := inferInstanceAs (Decidable (_ ∧ _))
/-- what is fixed through a body's walk -/
def Ctx (p : Program) (s : State) (m : MethodId) (meth : Method) (c : Code) (Z : State) (own nm : String) (code : ByteArray) (ml : Nat) (ret : Option FieldType) : Prop :=
  p.tables.exec = Jvm.exec ∧ Z.Warmed39 s.vm ∧ c.code = code ∧ c.maxLocals = ml ∧ s.vm.findClass own = some m.cls ∧ meth.sig.returnType = ret ∧ meth.locks = false ∧ meth.name = nm ∧ ThS Z s.heap
/-- what is carried unseen: the tables since the start; the constants that are held; D: arrays and Strings of our own, which no constant names -/
def Hid (w : Nat) (Z : State) (EL : List (String × Nat)) (D : List Addr) (s : State) (vm0 : Vm) (h : Heap) : Prop :=
  (if w = 0 then vm0 = s.vm else ∃ k0, s.Since vm0 k0 ∧ k0 ≤ h.size) ∧ (∃ a0, EW Z a0 EL) ∧ CHr Z EL s.vm s.heap vm0 h ∧ ∀ x ∈ D, x < h.size ∧ Safe Z EL vm0 h x
def En (w : Nat) (s : State) (o : Outcome) (t : State) (L : List Loc) (k n : Nat) : Prop := if w = 0 then FrameEnd s o t L k n else ReturnedEndW s o t L k n
/-- how a body ends -/
def Done (w : Nat) (Z : State) (EL : List (String × Nat)) (n0 : Nat) (R : Room) (Q : Option Value → Heap → List Addr → Prop) (s : State) (o : Outcome) (t : State) : Prop :=
  ∃ v L D', o = .returned v ∧ Q v t.heap D' ∧ Old Z n0 t.heap ∧ Fr n0 L ∧ (CHr Z EL s.vm s.heap t.vm t.heap ∧ ∀ x ∈ D', x < t.heap.size ∧ Safe Z EL t.vm t.heap x) ∧ En w s o t L R.cells R.slots
/-- what a stack trace asks -/
def Kn (w : Nat) (Z : State) (below : List Frame) : Prop := w = 2 → Z.vm.MethodsKnown ∧ Z.vm.FramesKnown below
/-- from pc, with these locals, this stack and this heap, the body comes to an end that Q allows -/
def Runs (w : Nat) (l : Launch) (Z : State) (EL : List (String × Nat)) (n0 : Nat) (own nm : String) (code : ByteArray) (ml : Nat) (ret : Option FieldType) (R : Room) (Q : Option Value → Heap → List Addr → Prop) (D : List Addr) (h : Heap) (kc ks pc : Nat) (ls : Array Slot) (st : List Value) : Prop :=
  ∀ (p : Program) (e : Env) (s : State) (vm0 : Vm) (m : MethodId) (args : Array Value) (below : List Frame) (meth : Method) (c : Code) (T : State) (locs : List Loc),
    Ctx p (s.setVm vm0) m meth c Z own nm code ml ret → Stand p l e R (s.setVm vm0) m args below meth c T locs kc ks → T.heap = h → Fr n0 locs → Old Z n0 h → Hid w Z EL D s vm0 h → Kn w Z below →
    ∃ s₂ o, Steps p.tables e below (T.setTop (mkF m pc ls st)) s₂ ∧ s₂.status = .running ∧ Ended s₂ below o ∧ Done w Z EL n0 R Q s o s₂
/-- a method's contract -/
def Con (w : Nat) (l : Launch) (Z : State) (EL : List (String × Nat)) (n0 : Nat) (y : MethodName) (code : ByteArray) (ml : Nat) (ret : Option FieldType) (R : Room) (as' : Array Value) (D : List Addr) (h : Heap) (Q : Option Value → Heap → List Addr → Prop) : Prop :=
  ∀ ws : List Jvm.Cond, MetFree l y (head1 (Jvm.Cond.code y code ml ret :: ws) R) (fun a U => a = as' ∧ Z.Warmed39 U.vm ∧ U.heap = h ∧ Old Z n0 h ∧ (∃ a0, EW Z a0 EL) ∧ CHv Z EL U.vm h ∧ ∀ x ∈ D, x < h.size ∧ Safe Z EL U.vm h x) (fun _ _ bl _ _ => Kn w Z bl) (fun _ U o U' => Done w Z EL n0 R Q U o U')
section W
variable {w : Nat} {l : Launch} {Z : State} {EL : List (String × Nat)} {n0 : Nat} {own nm : String} {code : ByteArray} {ml : Nat} {ret : Option FieldType} {R : Room} {Q : Option Value → Heap → List Addr → Prop} {D : List Addr} {h : Heap} {kc ks pc pc' : Nat} {ls ls' : Array Slot} {st st' rest : List Value} {a0 : Array Value}
theorem Con.of_runs {y : MethodName} {as' : Array Value} (hp : plainFor y = true) (he : ∀ m, entryFrame m as' ml = mkF m 0 ls []) (K : Runs w l Z EL n0 y.cls y.name code ml ret R Q D h 0 0 0 ls []) : Con w l Z EL n0 y code ml ret R as' D h Q := by
  intro ws
  refine MetFree.of_bodySF hp hisR ?_
  intro p e s m args below meth c s₁ Bd hml0 hP hK
  obtain ⟨rfl, hZ, hh, hO, hE, hC, hD⟩ := hP
  have hnm := (name_of_methodNamed Bd.named Bd.method).1
  have hown : s.vm.findClass y.cls = some m.cls := findClass_of_methodNamed Bd.named
  have X0 : Stand p l e R s m args below meth c s₁ [] 0 0 := Stand.of_body Bd
  have e0 : s₁.heap = h := by rw [← hh, Bd.state]; rfl
  obtain ⟨s₂, o, S, r1, r2, r3⟩ := K p e s s.vm m args below meth c s₁ [] ⟨Bd.exec, hZ, Bd.bytes, hml0, hown, Bd.returns, Bd.notSynchronized, hnm, by show ThS Z s.heap; rw [hh]; exact ThS.start.ext hO.2⟩ X0 e0 (Fr.nil n0) hO
    ⟨by split; rfl; exact ⟨0, (State.WarmedH.refl s).since 0, Nat.zero_le _⟩, hE, by rw [← hh] at hC ⊢; exact CHr.refl hC, hD⟩ hK
  exact ⟨s₂, o, castTop (he m) S, r1, r2, r3⟩
theorem Runs.plain (K : Runs w l Z EL n0 own nm code ml ret R Q D h kc ks pc' ls' st')
    (f : ∀ (p : Program) (e : Env) (m : MethodId) (below : List Frame) (c : Code) (T target : State), p.tables.exec = Jvm.exec → c.code = code → At T m c below → Steps p.tables e below (T.setTop (mkF m pc' ls' st')) target → Steps p.tables e below (T.setTop (mkF m pc ls st)) target) : Runs w l Z EL n0 own nm code ml ret R Q D h kc ks pc ls st := by
  intro p e s vm0 m args below meth c T locs C X eT N O H Kw
  obtain ⟨s₂, o, S, r⟩ := K p e s vm0 m args below meth c T locs C X eT N O H Kw
  exact ⟨s₂, o, f p e m below c T s₂ C.1 C.2.2.1 X.here S, r⟩
/-- a step whose law moves the tables alone -/
theorem Runs.warm (K : Runs w l Z EL n0 own nm code ml ret R Q D h kc ks pc' ls' st')
    (f : ∀ (p : Program) (e : Env) (s : State) (m : MethodId) (args : Array Value) (below : List Frame) (meth : Method) (c : Code) (T : State) (locs : List Loc), Ctx p s m meth c Z own nm code ml ret → Stand p l e R s m args below meth c T locs kc ks → T.heap = h → Old Z n0 h →
      ∃ T', Stand p l e R s m args below meth c T' locs kc ks ∧ T'.heap = h ∧ ∀ target, Steps p.tables e below (T'.setTop (mkF m pc' ls' st')) target → Steps p.tables e below (T.setTop (mkF m pc ls st)) target) : Runs w l Z EL n0 own nm code ml ret R Q D h kc ks pc ls st := by
  intro p e s vm0 m args below meth c T locs C X eT N O H Kw
  obtain ⟨T', X', e', S'⟩ := f p e _ m args below meth c T locs C X eT O
  obtain ⟨s₂, o, S, r⟩ := K p e s vm0 m args below meth c T' locs C X' e' N O H Kw
  exact ⟨s₂, o, S' _ S, r⟩
theorem Runs.old (K : Old Z n0 h → Runs w l Z EL n0 own nm code ml ret R Q D h kc ks pc ls st) : Runs w l Z EL n0 own nm code ml ret R Q D h kc ks pc ls st :=
  fun p e s vm0 m args below meth c T locs C X eT N O H Kw => K O p e s vm0 m args below meth c T locs C X eT N O H Kw
theorem Runs.weak {D1 : List Addr} (hs : ∀ x ∈ D1, x ∈ D) (K : Runs w l Z EL n0 own nm code ml ret R Q D1 h kc ks pc ls st) : Runs w l Z EL n0 own nm code ml ret R Q D h kc ks pc ls st :=
  fun p e s vm0 m args below meth c T locs C X eT N O H Kw => K p e s vm0 m args below meth c T locs C X eT N O ⟨H.1, H.2.1, H.2.2.1, fun x hx => H.2.2.2 x (hs x hx)⟩ Kw
/-- fewer cells, fewer slots made: at most more -/
theorem Runs.mono {kc' ks' : Nat} (h1 : kc ≤ kc') (h2 : ks ≤ ks') (K : Runs w l Z EL n0 own nm code ml ret R Q D h kc' ks' pc ls st) : Runs w l Z EL n0 own nm code ml ret R Q D h kc ks pc ls st :=
  fun p e s vm0 m args below meth c T locs C X eT N O H Kw => K p e s vm0 m args below meth c T locs C (X.mono h1 h2) eT N O H Kw

theorem Runs.iloadN {k : Fin 4} {v : Int32} (hd : Ins code pc (.iload_n k) 1 pc') (hl : ls[k.val]? = some (.val (.int v))) (K : Runs w l Z EL n0 own nm code ml ret R Q D h kc ks pc' ls (.int v :: st)) : Runs w l Z EL n0 own nm code ml ret R Q D h kc ks pc ls st := by
  obtain ⟨hd, rfl⟩ := hd
  exact K.plain fun p e m below c T t hx hb X S => XS.iloadN (g := mkF m pc ls st) X hx rfl (Jvm.hb hb hd) hl S
theorem Runs.iload {k : Nat} {v : Int32} (hd : Ins code pc (.iload k) 2 pc') (hl : ls[k]? = some (.val (.int v))) (K : Runs w l Z EL n0 own nm code ml ret R Q D h kc ks pc' ls (.int v :: st)) : Runs w l Z EL n0 own nm code ml ret R Q D h kc ks pc ls st := by
  obtain ⟨hd, rfl⟩ := hd
  exact K.plain fun p e m below c T t hx hb X S => XS.iload (g := mkF m pc ls st) X hx rfl (Jvm.hb hb hd) hl S
theorem Runs.istoreN {k : Fin 4} {x : Int32} (hd : Ins code pc (.istore_n k) 1 pc') (hl : storeLocals ls k.val (.int x) = some ls') (K : Runs w l Z EL n0 own nm code ml ret R Q D h kc ks pc' ls' rest) : Runs w l Z EL n0 own nm code ml ret R Q D h kc ks pc ls (.int x :: rest) := by
  obtain ⟨hd, rfl⟩ := hd
  exact K.plain fun p e m below c T t hx hb X S => XS.istoreN (g := mkF m pc ls (.int x :: rest)) X hx rfl (Jvm.hb hb hd) rfl hl S
theorem Runs.istore {k : Nat} {x : Int32} (hd : Ins code pc (.istore k) 2 pc') (hl : storeLocals ls k (.int x) = some ls') (K : Runs w l Z EL n0 own nm code ml ret R Q D h kc ks pc' ls' rest) : Runs w l Z EL n0 own nm code ml ret R Q D h kc ks pc ls (.int x :: rest) := by
  obtain ⟨hd, rfl⟩ := hd
  exact K.plain fun p e m below c T t hx hb X S => XS.istore (g := mkF m pc ls (.int x :: rest)) X hx rfl (Jvm.hb hb hd) rfl hl S
theorem Runs.lloadN {k : Fin 4} {v : Int64} (hd : Ins code pc (.lload_n k) 1 pc') (hl : ls[k.val]? = some (.val (.long v))) (K : Runs w l Z EL n0 own nm code ml ret R Q D h kc ks pc' ls (.long v :: st)) : Runs w l Z EL n0 own nm code ml ret R Q D h kc ks pc ls st := by
  obtain ⟨hd, rfl⟩ := hd
  exact K.plain fun p e m below c T t hx hb X S => XT.lloadN (g := mkF m pc ls st) X hx rfl (Jvm.hb hb hd) hl S
theorem Runs.lload {k : Nat} {v : Int64} (hd : Ins code pc (.lload k) 2 pc') (hl : ls[k]? = some (.val (.long v))) (K : Runs w l Z EL n0 own nm code ml ret R Q D h kc ks pc' ls (.long v :: st)) : Runs w l Z EL n0 own nm code ml ret R Q D h kc ks pc ls st := by
  obtain ⟨hd, rfl⟩ := hd
  exact K.plain fun p e m below c T t hx hb X S => XT.lload (g := mkF m pc ls st) X hx rfl (Jvm.hb hb hd) hl S
theorem Runs.lstoreN {k : Fin 4} {x : Int64} (hd : Ins code pc (.lstore_n k) 1 pc') (hl : storeLocals ls k.val (.long x) = some ls') (K : Runs w l Z EL n0 own nm code ml ret R Q D h kc ks pc' ls' rest) : Runs w l Z EL n0 own nm code ml ret R Q D h kc ks pc ls (.long x :: rest) := by
  obtain ⟨hd, rfl⟩ := hd
  exact K.plain fun p e m below c T t hx hb X S => XT.lstoreN (g := mkF m pc ls (.long x :: rest)) X hx rfl (Jvm.hb hb hd) rfl hl S
theorem Runs.lstore {k : Nat} {x : Int64} (hd : Ins code pc (.lstore k) 2 pc') (hl : storeLocals ls k (.long x) = some ls') (K : Runs w l Z EL n0 own nm code ml ret R Q D h kc ks pc' ls' rest) : Runs w l Z EL n0 own nm code ml ret R Q D h kc ks pc ls (.long x :: rest) := by
  obtain ⟨hd, rfl⟩ := hd
  exact K.plain fun p e m below c T t hx hb X S => XT.lstore (g := mkF m pc ls (.long x :: rest)) X hx rfl (Jvm.hb hb hd) rfl hl S
theorem Runs.aloadN {k : Fin 4} {v : Value} (hd : Ins code pc (.aload_n k) 1 pc') (hl : ls[k.val]? = some (.val v)) (hv : v.isRef = true) (K : Runs w l Z EL n0 own nm code ml ret R Q D h kc ks pc' ls (v :: st)) : Runs w l Z EL n0 own nm code ml ret R Q D h kc ks pc ls st := by
  obtain ⟨hd, rfl⟩ := hd
  exact K.plain fun p e m below c T t hx hb X S => XS.aloadN (g := mkF m pc ls st) X hx rfl (Jvm.hb hb hd) hl hv S
theorem Runs.aload {k : Nat} {v : Value} (hd : Ins code pc (.aload k) 2 pc') (hl : ls[k]? = some (.val v)) (hv : v.isRef = true) (K : Runs w l Z EL n0 own nm code ml ret R Q D h kc ks pc' ls (v :: st)) : Runs w l Z EL n0 own nm code ml ret R Q D h kc ks pc ls st := by
  obtain ⟨hd, rfl⟩ := hd
  exact K.plain fun p e m below c T t hx hb X S => XS.aload (g := mkF m pc ls st) X hx rfl (Jvm.hb hb hd) hl hv S
theorem Runs.astoreN {k : Fin 4} {x : Value} (hd : Ins code pc (.astore_n k) 1 pc') (hv : x.isRef = true) (hl : storeLocals ls k.val x = some ls') (K : Runs w l Z EL n0 own nm code ml ret R Q D h kc ks pc' ls' rest) : Runs w l Z EL n0 own nm code ml ret R Q D h kc ks pc ls (x :: rest) := by
  obtain ⟨hd, rfl⟩ := hd
  exact K.plain fun p e m below c T t hx hb X S => XS.astoreN (g := mkF m pc ls (x :: rest)) X hx rfl (Jvm.hb hb hd) rfl hv hl S
theorem Runs.astore {k : Nat} {x : Value} (hd : Ins code pc (.astore k) 2 pc') (hv : x.isRef = true) (hl : storeLocals ls k x = some ls') (K : Runs w l Z EL n0 own nm code ml ret R Q D h kc ks pc' ls' rest) : Runs w l Z EL n0 own nm code ml ret R Q D h kc ks pc ls (x :: rest) := by
  obtain ⟨hd, rfl⟩ := hd
  exact K.plain fun p e m below c T t hx hb X S => XS.astore (g := mkF m pc ls (x :: rest)) X hx rfl (Jvm.hb hb hd) rfl hv hl S
theorem Runs.iconst {i : Int} {v : Int32} (hd : Ins code pc (.iconst i) 1 pc') (hz : Int32.ofInt i = v) (K : Runs w l Z EL n0 own nm code ml ret R Q D h kc ks pc' ls (.int v :: st)) : Runs w l Z EL n0 own nm code ml ret R Q D h kc ks pc ls st := by
  obtain ⟨hd, rfl⟩ := hd
  subst hz
  exact K.plain fun p e m below c T t hx hb X S => XS.iconst (g := mkF m pc ls st) X hx rfl (Jvm.hb hb hd) S
theorem Runs.bipush {i : Int} {v : Int32} (hd : Ins code pc (.bipush i) 2 pc') (hz : (Int8.ofInt i).toInt32 = v) (K : Runs w l Z EL n0 own nm code ml ret R Q D h kc ks pc' ls (.int v :: st)) : Runs w l Z EL n0 own nm code ml ret R Q D h kc ks pc ls st := by
  obtain ⟨hd, rfl⟩ := hd
  subst hz
  exact K.plain fun p e m below c T t hx hb X S => XS.bipush (g := mkF m pc ls st) X hx rfl (Jvm.hb hb hd) S
theorem Runs.sipush {i : Int} {v : Int32} (hd : Ins code pc (.sipush i) 3 pc') (hz : (Int16.ofInt i).toInt32 = v) (K : Runs w l Z EL n0 own nm code ml ret R Q D h kc ks pc' ls (.int v :: st)) : Runs w l Z EL n0 own nm code ml ret R Q D h kc ks pc ls st := by
  obtain ⟨hd, rfl⟩ := hd
  subst hz
  exact K.plain fun p e m below c T t hx hb X S => XS.sipush (g := mkF m pc ls st) X hx rfl (Jvm.hb hb hd) S
theorem Runs.lconst {k : Fin 2} {v : Int64} (hd : Ins code pc (.lconst k) 1 pc') (hz : Int64.ofNat k = v) (K : Runs w l Z EL n0 own nm code ml ret R Q D h kc ks pc' ls (.long v :: st)) : Runs w l Z EL n0 own nm code ml ret R Q D h kc ks pc ls st := by
  obtain ⟨hd, rfl⟩ := hd
  subst hz
  exact K.plain fun p e m below c T t hx hb X S => XT.lconst (g := mkF m pc ls st) X hx rfl (Jvm.hb hb hd) S
theorem Runs.aconstNull  (hd : Ins code pc (.aconst_null) 1 pc')  (K : Runs w l Z EL n0 own nm code ml ret R Q D h kc ks pc' ls (.null :: st)) : Runs w l Z EL n0 own nm code ml ret R Q D h kc ks pc ls st := by
  obtain ⟨hd, rfl⟩ := hd
  exact K.plain fun p e m below c T t hx hb X S => XS.aconstNull (g := mkF m pc ls st) X hx rfl (Jvm.hb hb hd) S
theorem Runs.iadd {x y z : Int32} (hd : Ins code pc (.iadd) 1 pc') (hz : x + y = z) (K : Runs w l Z EL n0 own nm code ml ret R Q D h kc ks pc' ls (.int z :: rest)) : Runs w l Z EL n0 own nm code ml ret R Q D h kc ks pc ls (.int y :: .int x :: rest) := by
  obtain ⟨hd, rfl⟩ := hd
  subst hz
  exact K.plain fun p e m below c T t hx hb X S => XS.iadd (g := mkF m pc ls (.int y :: .int x :: rest)) X hx rfl (Jvm.hb hb hd) rfl S
theorem Runs.isub {x y z : Int32} (hd : Ins code pc (.isub) 1 pc') (hz : x - y = z) (K : Runs w l Z EL n0 own nm code ml ret R Q D h kc ks pc' ls (.int z :: rest)) : Runs w l Z EL n0 own nm code ml ret R Q D h kc ks pc ls (.int y :: .int x :: rest) := by
  obtain ⟨hd, rfl⟩ := hd
  subst hz
  exact K.plain fun p e m below c T t hx hb X S => XS.isub (g := mkF m pc ls (.int y :: .int x :: rest)) X hx rfl (Jvm.hb hb hd) rfl S
theorem Runs.imul {x y z : Int32} (hd : Ins code pc (.imul) 1 pc') (hz : x * y = z) (K : Runs w l Z EL n0 own nm code ml ret R Q D h kc ks pc' ls (.int z :: rest)) : Runs w l Z EL n0 own nm code ml ret R Q D h kc ks pc ls (.int y :: .int x :: rest) := by
  obtain ⟨hd, rfl⟩ := hd
  subst hz
  exact K.plain fun p e m below c T t hx hb X S => XS.imul (g := mkF m pc ls (.int y :: .int x :: rest)) X hx rfl (Jvm.hb hb hd) rfl S
theorem Runs.iand {x y z : Int32} (hd : Ins code pc (.iand) 1 pc') (hz : x &&& y = z) (K : Runs w l Z EL n0 own nm code ml ret R Q D h kc ks pc' ls (.int z :: rest)) : Runs w l Z EL n0 own nm code ml ret R Q D h kc ks pc ls (.int y :: .int x :: rest) := by
  obtain ⟨hd, rfl⟩ := hd
  subst hz
  exact K.plain fun p e m below c T t hx hb X S => XS.iand (g := mkF m pc ls (.int y :: .int x :: rest)) X hx rfl (Jvm.hb hb hd) rfl S
theorem Runs.ior {x y z : Int32} (hd : Ins code pc (.ior) 1 pc') (hz : x ||| y = z) (K : Runs w l Z EL n0 own nm code ml ret R Q D h kc ks pc' ls (.int z :: rest)) : Runs w l Z EL n0 own nm code ml ret R Q D h kc ks pc ls (.int y :: .int x :: rest) := by
  obtain ⟨hd, rfl⟩ := hd
  subst hz
  exact K.plain fun p e m below c T t hx hb X S => XT.ior (g := mkF m pc ls (.int y :: .int x :: rest)) X hx rfl (Jvm.hb hb hd) rfl S
theorem Runs.ixor {x y z : Int32} (hd : Ins code pc (.ixor) 1 pc') (hz : x ^^^ y = z) (K : Runs w l Z EL n0 own nm code ml ret R Q D h kc ks pc' ls (.int z :: rest)) : Runs w l Z EL n0 own nm code ml ret R Q D h kc ks pc ls (.int y :: .int x :: rest) := by
  obtain ⟨hd, rfl⟩ := hd
  subst hz
  exact K.plain fun p e m below c T t hx hb X S => XT.ixor (g := mkF m pc ls (.int y :: .int x :: rest)) X hx rfl (Jvm.hb hb hd) rfl S
theorem Runs.ishl {x y z : Int32} (hd : Ins code pc (.ishl) 1 pc') (hz : x <<< (y &&& 31) = z) (K : Runs w l Z EL n0 own nm code ml ret R Q D h kc ks pc' ls (.int z :: rest)) : Runs w l Z EL n0 own nm code ml ret R Q D h kc ks pc ls (.int y :: .int x :: rest) := by
  obtain ⟨hd, rfl⟩ := hd
  subst hz
  exact K.plain fun p e m below c T t hx hb X S => XT.ishl (g := mkF m pc ls (.int y :: .int x :: rest)) X hx rfl (Jvm.hb hb hd) rfl S
theorem Runs.ishr {x y z : Int32} (hd : Ins code pc (.ishr) 1 pc') (hz : x >>> (y &&& 31) = z) (K : Runs w l Z EL n0 own nm code ml ret R Q D h kc ks pc' ls (.int z :: rest)) : Runs w l Z EL n0 own nm code ml ret R Q D h kc ks pc ls (.int y :: .int x :: rest) := by
  obtain ⟨hd, rfl⟩ := hd
  subst hz
  exact K.plain fun p e m below c T t hx hb X S => XT.ishr (g := mkF m pc ls (.int y :: .int x :: rest)) X hx rfl (Jvm.hb hb hd) rfl S
theorem Runs.iushr {x y z : Int32} (hd : Ins code pc (.iushr) 1 pc') (hz : XT.ushr x y = z) (K : Runs w l Z EL n0 own nm code ml ret R Q D h kc ks pc' ls (.int z :: rest)) : Runs w l Z EL n0 own nm code ml ret R Q D h kc ks pc ls (.int y :: .int x :: rest) := by
  obtain ⟨hd, rfl⟩ := hd
  subst hz
  exact K.plain fun p e m below c T t hx hb X S => XT.iushr (g := mkF m pc ls (.int y :: .int x :: rest)) X hx rfl (Jvm.hb hb hd) rfl S
theorem Runs.ladd {x y z : Int64} (hd : Ins code pc (.ladd) 1 pc') (hz : x + y = z) (K : Runs w l Z EL n0 own nm code ml ret R Q D h kc ks pc' ls (.long z :: rest)) : Runs w l Z EL n0 own nm code ml ret R Q D h kc ks pc ls (.long y :: .long x :: rest) := by
  obtain ⟨hd, rfl⟩ := hd
  subst hz
  exact K.plain fun p e m below c T t hx hb X S => XT.ladd (g := mkF m pc ls (.long y :: .long x :: rest)) X hx rfl (Jvm.hb hb hd) rfl S
theorem Runs.lsub {x y z : Int64} (hd : Ins code pc (.lsub) 1 pc') (hz : x - y = z) (K : Runs w l Z EL n0 own nm code ml ret R Q D h kc ks pc' ls (.long z :: rest)) : Runs w l Z EL n0 own nm code ml ret R Q D h kc ks pc ls (.long y :: .long x :: rest) := by
  obtain ⟨hd, rfl⟩ := hd
  subst hz
  exact K.plain fun p e m below c T t hx hb X S => XT.lsub (g := mkF m pc ls (.long y :: .long x :: rest)) X hx rfl (Jvm.hb hb hd) rfl S
theorem Runs.lmul {x y z : Int64} (hd : Ins code pc (.lmul) 1 pc') (hz : x * y = z) (K : Runs w l Z EL n0 own nm code ml ret R Q D h kc ks pc' ls (.long z :: rest)) : Runs w l Z EL n0 own nm code ml ret R Q D h kc ks pc ls (.long y :: .long x :: rest) := by
  obtain ⟨hd, rfl⟩ := hd
  subst hz
  exact K.plain fun p e m below c T t hx hb X S => XT.lmul (g := mkF m pc ls (.long y :: .long x :: rest)) X hx rfl (Jvm.hb hb hd) rfl S
theorem Runs.land {x y z : Int64} (hd : Ins code pc (.land) 1 pc') (hz : x &&& y = z) (K : Runs w l Z EL n0 own nm code ml ret R Q D h kc ks pc' ls (.long z :: rest)) : Runs w l Z EL n0 own nm code ml ret R Q D h kc ks pc ls (.long y :: .long x :: rest) := by
  obtain ⟨hd, rfl⟩ := hd
  subst hz
  exact K.plain fun p e m below c T t hx hb X S => XT.land (g := mkF m pc ls (.long y :: .long x :: rest)) X hx rfl (Jvm.hb hb hd) rfl S
theorem Runs.lor {x y z : Int64} (hd : Ins code pc (.lor) 1 pc') (hz : x ||| y = z) (K : Runs w l Z EL n0 own nm code ml ret R Q D h kc ks pc' ls (.long z :: rest)) : Runs w l Z EL n0 own nm code ml ret R Q D h kc ks pc ls (.long y :: .long x :: rest) := by
  obtain ⟨hd, rfl⟩ := hd
  subst hz
  exact K.plain fun p e m below c T t hx hb X S => XT.lor (g := mkF m pc ls (.long y :: .long x :: rest)) X hx rfl (Jvm.hb hb hd) rfl S
theorem Runs.lxor {x y z : Int64} (hd : Ins code pc (.lxor) 1 pc') (hz : x ^^^ y = z) (K : Runs w l Z EL n0 own nm code ml ret R Q D h kc ks pc' ls (.long z :: rest)) : Runs w l Z EL n0 own nm code ml ret R Q D h kc ks pc ls (.long y :: .long x :: rest) := by
  obtain ⟨hd, rfl⟩ := hd
  subst hz
  exact K.plain fun p e m below c T t hx hb X S => XT.lxor (g := mkF m pc ls (.long y :: .long x :: rest)) X hx rfl (Jvm.hb hb hd) rfl S
theorem Runs.irem {x y z : Int32} (hd : Ins code pc (.irem) 1 pc') (hy : y ≠ 0) (hz : x % y = z) (K : Runs w l Z EL n0 own nm code ml ret R Q D h kc ks pc' ls (.int z :: rest)) : Runs w l Z EL n0 own nm code ml ret R Q D h kc ks pc ls (.int y :: .int x :: rest) := by
  obtain ⟨hd, rfl⟩ := hd
  subst hz
  exact K.plain fun p e m below c T t hx hb X S => XS.irem (g := mkF m pc ls (.int y :: .int x :: rest)) X hx rfl (Jvm.hb hb hd) rfl hy (by rw [show x - x / y * y = x % y from irem_eq_mod x y]; exact S)
theorem Runs.idiv {x y z : Int32} (hd : Ins code pc (.idiv) 1 pc') (hy : y ≠ 0) (hz : x / y = z) (K : Runs w l Z EL n0 own nm code ml ret R Q D h kc ks pc' ls (.int z :: rest)) : Runs w l Z EL n0 own nm code ml ret R Q D h kc ks pc ls (.int y :: .int x :: rest) := by
  obtain ⟨hd, rfl⟩ := hd
  subst hz
  exact K.plain fun p e m below c T t hx hb X S => XS.idiv (g := mkF m pc ls (.int y :: .int x :: rest)) X hx rfl (Jvm.hb hb hd) rfl hy S
theorem Runs.lcmp {x y : Int64} {z : Int32} (hd : Ins code pc (.lcmp) 1 pc') (hz : XT.cmpL x y = z) (K : Runs w l Z EL n0 own nm code ml ret R Q D h kc ks pc' ls (.int z :: rest)) : Runs w l Z EL n0 own nm code ml ret R Q D h kc ks pc ls (.long y :: .long x :: rest) := by
  obtain ⟨hd, rfl⟩ := hd
  subst hz
  exact K.plain fun p e m below c T t hx hb X S => XT.lcmp (g := mkF m pc ls (.long y :: .long x :: rest)) X hx rfl (Jvm.hb hb hd) rfl S
theorem Runs.ineg {x : Int32} {z : Int32} (hd : Ins code pc (.ineg) 1 pc') (hz : -x = z) (K : Runs w l Z EL n0 own nm code ml ret R Q D h kc ks pc' ls (.int z :: rest)) : Runs w l Z EL n0 own nm code ml ret R Q D h kc ks pc ls (.int x :: rest) := by
  obtain ⟨hd, rfl⟩ := hd
  subst hz
  exact K.plain fun p e m below c T t hx hb X S => XS.ineg (g := mkF m pc ls (.int x :: rest)) X hx rfl (Jvm.hb hb hd) rfl S
theorem Runs.i2l {x : Int32} {z : Int64} (hd : Ins code pc (.i2l) 1 pc') (hz : x.toInt64 = z) (K : Runs w l Z EL n0 own nm code ml ret R Q D h kc ks pc' ls (.long z :: rest)) : Runs w l Z EL n0 own nm code ml ret R Q D h kc ks pc ls (.int x :: rest) := by
  obtain ⟨hd, rfl⟩ := hd
  subst hz
  exact K.plain fun p e m below c T t hx hb X S => XT.i2l (g := mkF m pc ls (.int x :: rest)) X hx rfl (Jvm.hb hb hd) rfl S
theorem Runs.l2i {x : Int64} {z : Int32} (hd : Ins code pc (.l2i) 1 pc') (hz : x.toInt32 = z) (K : Runs w l Z EL n0 own nm code ml ret R Q D h kc ks pc' ls (.int z :: rest)) : Runs w l Z EL n0 own nm code ml ret R Q D h kc ks pc ls (.long x :: rest) := by
  obtain ⟨hd, rfl⟩ := hd
  subst hz
  exact K.plain fun p e m below c T t hx hb X S => XT.l2i (g := mkF m pc ls (.long x :: rest)) X hx rfl (Jvm.hb hb hd) rfl S
theorem Runs.i2b {x : Int32} {z : Int32} (hd : Ins code pc (.i2b) 1 pc') (hz : x.toInt8.toInt32 = z) (K : Runs w l Z EL n0 own nm code ml ret R Q D h kc ks pc' ls (.int z :: rest)) : Runs w l Z EL n0 own nm code ml ret R Q D h kc ks pc ls (.int x :: rest) := by
  obtain ⟨hd, rfl⟩ := hd
  subst hz
  exact K.plain fun p e m below c T t hx hb X S => XT.i2b (g := mkF m pc ls (.int x :: rest)) X hx rfl (Jvm.hb hb hd) rfl S
theorem Runs.i2c {x : Int32} {z : Int32} (hd : Ins code pc (.i2c) 1 pc') (hz : x.toUInt32.toUInt16.toUInt32.toInt32 = z) (K : Runs w l Z EL n0 own nm code ml ret R Q D h kc ks pc' ls (.int z :: rest)) : Runs w l Z EL n0 own nm code ml ret R Q D h kc ks pc ls (.int x :: rest) := by
  obtain ⟨hd, rfl⟩ := hd
  subst hz
  exact K.plain fun p e m below c T t hx hb X S => XT.i2c (g := mkF m pc ls (.int x :: rest)) X hx rfl (Jvm.hb hb hd) rfl S
theorem Runs.i2s {x : Int32} {z : Int32} (hd : Ins code pc (.i2s) 1 pc') (hz : x.toInt16.toInt32 = z) (K : Runs w l Z EL n0 own nm code ml ret R Q D h kc ks pc' ls (.int z :: rest)) : Runs w l Z EL n0 own nm code ml ret R Q D h kc ks pc ls (.int x :: rest) := by
  obtain ⟨hd, rfl⟩ := hd
  subst hz
  exact K.plain fun p e m below c T t hx hb X S => XT.i2s (g := mkF m pc ls (.int x :: rest)) X hx rfl (Jvm.hb hb hd) rfl S
theorem Runs.lneg {x : Int64} {z : Int64} (hd : Ins code pc (.lneg) 1 pc') (hz : -x = z) (K : Runs w l Z EL n0 own nm code ml ret R Q D h kc ks pc' ls (.long z :: rest)) : Runs w l Z EL n0 own nm code ml ret R Q D h kc ks pc ls (.long x :: rest) := by
  obtain ⟨hd, rfl⟩ := hd
  subst hz
  exact K.plain fun p e m below c T t hx hb X S => XT.lneg (g := mkF m pc ls (.long x :: rest)) X hx rfl (Jvm.hb hb hd) rfl S
theorem Runs.iinc {k : Nat} {cst : Int} {x z : Int32} (hd : Ins code pc (.iinc k cst) 3 pc') (hl : ls[k]? = some (.val (.int x))) (hz : x + Int32.ofInt cst = z) (hl' : storeLocals ls k (.int z) = some ls') (K : Runs w l Z EL n0 own nm code ml ret R Q D h kc ks pc' ls' st) : Runs w l Z EL n0 own nm code ml ret R Q D h kc ks pc ls st := by
  obtain ⟨hd, rfl⟩ := hd
  subst hz
  exact K.plain fun p e m below c T t hx hb X S => XS.iinc (g := mkF m pc ls st) X hx rfl (Jvm.hb hb hd) hl hl' S
theorem Runs.dup {x : Value} (hd : Ins code pc (.dup) 1 pc') (hc : x.category = 1) (K : Runs w l Z EL n0 own nm code ml ret R Q D h kc ks pc' ls (x :: x :: rest)) : Runs w l Z EL n0 own nm code ml ret R Q D h kc ks pc ls (x :: rest) := by
  obtain ⟨hd, rfl⟩ := hd
  exact K.plain fun p e m below c T t hx hb X S => XS.dup (g := mkF m pc ls (x :: rest)) X hx rfl (Jvm.hb hb hd) rfl hc S
theorem Runs.pop {x : Value} (hd : Ins code pc (.pop) 1 pc') (hc : x.category = 1) (K : Runs w l Z EL n0 own nm code ml ret R Q D h kc ks pc' ls rest) : Runs w l Z EL n0 own nm code ml ret R Q D h kc ks pc ls (x :: rest) := by
  obtain ⟨hd, rfl⟩ := hd
  exact K.plain fun p e m below c T t hx hb X S => XT.pop (g := mkF m pc ls (x :: rest)) X hx rfl (Jvm.hb hb hd) rfl hc S
theorem Runs.dupX1 {x y : Value} (hd : Ins code pc (.dup_x1) 1 pc') (hc : x.category = 1) (hc' : y.category = 1) (K : Runs w l Z EL n0 own nm code ml ret R Q D h kc ks pc' ls (x :: y :: x :: rest)) : Runs w l Z EL n0 own nm code ml ret R Q D h kc ks pc ls (x :: y :: rest) := by
  obtain ⟨hd, rfl⟩ := hd
  exact K.plain fun p e m below c T t hx hb X S => XT.dupX1 (g := mkF m pc ls (x :: y :: rest)) X hx rfl (Jvm.hb hb hd) rfl hc hc' S
theorem Runs.dup2 {x y : Value} (hd : Ins code pc (.dup2) 1 pc') (hc : x.category = 1) (hc' : y.category = 1) (K : Runs w l Z EL n0 own nm code ml ret R Q D h kc ks pc' ls (x :: y :: x :: y :: rest)) : Runs w l Z EL n0 own nm code ml ret R Q D h kc ks pc ls (x :: y :: rest) := by
  obtain ⟨hd, rfl⟩ := hd
  exact K.plain fun p e m below c T t hx hb X S => XT.dup2 (g := mkF m pc ls (x :: y :: rest)) X hx rfl (Jvm.hb hb hd) rfl hc hc' S
theorem Runs.goto  {o : Int} {t nx : Nat} (hd : Ins code pc (.goto o) 3 nx) (hj : Jmp pc o t)  (K : Runs w l Z EL n0 own nm code ml ret R Q D h kc ks t ls st) : Runs w l Z EL n0 own nm code ml ret R Q D h kc ks pc ls st :=
  K.plain fun p e m below c T tg hx hb X S => XS.goto (g := mkF m pc ls st) X hx rfl (pc0 := pc) rfl (Jvm.hb hb hd.1) hj.1 hj.2 S
theorem Runs.ifY {cd : ClassFile.Cond} {x : Int32} {o : Int} {t nx : Nat} (hd : Ins code pc (.ifCond cd o) 3 nx) (hj : Jmp pc o t) (hc : if_icmp.holds cd x 0 = true) (K : Runs w l Z EL n0 own nm code ml ret R Q D h kc ks t ls rest) : Runs w l Z EL n0 own nm code ml ret R Q D h kc ks pc ls (.int x :: rest) :=
  K.plain fun p e m below c T tg hx hb X S => XS.ifYes (g := mkF m pc ls (.int x :: rest)) X hx rfl (pc0 := pc) rfl (Jvm.hb hb hd.1) rfl ((if0 cd x).trans hc) hj.1 hj.2 S
theorem Runs.icY {cd : ClassFile.Cond} {x y : Int32} {o : Int} {t nx : Nat} (hd : Ins code pc (.if_icmp cd o) 3 nx) (hj : Jmp pc o t) (hc : if_icmp.holds cd x y = true) (K : Runs w l Z EL n0 own nm code ml ret R Q D h kc ks t ls rest) : Runs w l Z EL n0 own nm code ml ret R Q D h kc ks pc ls (.int y :: .int x :: rest) :=
  K.plain fun p e m below c T tg hx hb X S => XS.icmpYes (g := mkF m pc ls (.int y :: .int x :: rest)) X hx rfl (pc0 := pc) rfl (Jvm.hb hb hd.1) rfl hc hj.1 hj.2 S
theorem Runs.nullY  {o : Int} {t nx : Nat} (hd : Ins code pc (.ifnull o) 3 nx) (hj : Jmp pc o t)  (K : Runs w l Z EL n0 own nm code ml ret R Q D h kc ks t ls rest) : Runs w l Z EL n0 own nm code ml ret R Q D h kc ks pc ls (.null :: rest) :=
  K.plain fun p e m below c T tg hx hb X S => XS.ifnullYes (g := mkF m pc ls (.null :: rest)) X hx rfl (pc0 := pc) rfl (Jvm.hb hb hd.1) rfl hj.1 hj.2 S
theorem Runs.nnullY {b : Addr} {o : Int} {t nx : Nat} (hd : Ins code pc (.ifnonnull o) 3 nx) (hj : Jmp pc o t)  (K : Runs w l Z EL n0 own nm code ml ret R Q D h kc ks t ls rest) : Runs w l Z EL n0 own nm code ml ret R Q D h kc ks pc ls (.ref b :: rest) :=
  K.plain fun p e m below c T tg hx hb X S => XT.ifnonnullYes (g := mkF m pc ls (.ref b :: rest)) X hx rfl (pc0 := pc) rfl (Jvm.hb hb hd.1) rfl hj.1 hj.2 S
theorem Runs.acY {cd : ClassFile.ACond} {x y : Value} {o : Int} {t nx : Nat} (hd : Ins code pc (.if_acmp cd o) 3 nx) (hj : Jmp pc o t) (hx' : x.isRef = true) (hy' : y.isRef = true) (hc : XT.acmp cd x y = true) (K : Runs w l Z EL n0 own nm code ml ret R Q D h kc ks t ls rest) : Runs w l Z EL n0 own nm code ml ret R Q D h kc ks pc ls (y :: x :: rest) :=
  K.plain fun p e m below c T tg hx hb X S => XT.acmpYes (g := mkF m pc ls (y :: x :: rest)) X hx rfl (pc0 := pc) rfl (Jvm.hb hb hd.1) rfl hx' hy' hc hj.1 hj.2 S
theorem Runs.ifN {cd : ClassFile.Cond} {o : Int} {x : Int32} (hd : Ins code pc (.ifCond cd o) 3 pc') (hc : if_icmp.holds cd x 0 = false) (K : Runs w l Z EL n0 own nm code ml ret R Q D h kc ks pc' ls rest) : Runs w l Z EL n0 own nm code ml ret R Q D h kc ks pc ls (.int x :: rest) := by
  obtain ⟨hd, rfl⟩ := hd
  exact K.plain fun p e m below c T t hx hb X S => XS.ifNo (g := mkF m pc ls (.int x :: rest)) X hx rfl (Jvm.hb hb hd) rfl ((if0 cd x).trans hc) S
theorem Runs.icN {cd : ClassFile.Cond} {o : Int} {x y : Int32} (hd : Ins code pc (.if_icmp cd o) 3 pc') (hc : if_icmp.holds cd x y = false) (K : Runs w l Z EL n0 own nm code ml ret R Q D h kc ks pc' ls rest) : Runs w l Z EL n0 own nm code ml ret R Q D h kc ks pc ls (.int y :: .int x :: rest) := by
  obtain ⟨hd, rfl⟩ := hd
  exact K.plain fun p e m below c T t hx hb X S => XS.icmpNo (g := mkF m pc ls (.int y :: .int x :: rest)) X hx rfl (Jvm.hb hb hd) rfl hc S
theorem Runs.nullN {o : Int} {b : Addr} (hd : Ins code pc (.ifnull o) 3 pc')  (K : Runs w l Z EL n0 own nm code ml ret R Q D h kc ks pc' ls rest) : Runs w l Z EL n0 own nm code ml ret R Q D h kc ks pc ls (.ref b :: rest) := by
  obtain ⟨hd, rfl⟩ := hd
  exact K.plain fun p e m below c T t hx hb X S => XS.ifnullNo (g := mkF m pc ls (.ref b :: rest)) X hx rfl (Jvm.hb hb hd) rfl S
theorem Runs.nnullN {o : Int} (hd : Ins code pc (.ifnonnull o) 3 pc')  (K : Runs w l Z EL n0 own nm code ml ret R Q D h kc ks pc' ls rest) : Runs w l Z EL n0 own nm code ml ret R Q D h kc ks pc ls (.null :: rest) := by
  obtain ⟨hd, rfl⟩ := hd
  exact K.plain fun p e m below c T t hx hb X S => XT.ifnonnullNo (g := mkF m pc ls (.null :: rest)) X hx rfl (Jvm.hb hb hd) rfl S
theorem Runs.acN {cd : ClassFile.ACond} {o : Int} {x y : Value} (hd : Ins code pc (.if_acmp cd o) 3 pc') (hx' : x.isRef = true) (hy' : y.isRef = true) (hc : XT.acmp cd x y = false) (K : Runs w l Z EL n0 own nm code ml ret R Q D h kc ks pc' ls rest) : Runs w l Z EL n0 own nm code ml ret R Q D h kc ks pc ls (y :: x :: rest) := by
  obtain ⟨hd, rfl⟩ := hd
  exact K.plain fun p e m below c T t hx hb X S => XT.acmpNo (g := mkF m pc ls (y :: x :: rest)) X hx rfl (Jvm.hb hb hd) rfl hx' hy' hc S

/-! the returns -/
theorem Runs.leave {v : Option Value} (hv : ret = none → v = none)
    (f : ∀ (p : Program) (e : Env) (s : State) (m : MethodId) (args : Array Value) (below : List Frame) (meth : Method) (c : Code) (T : State) (locs : List Loc), Ctx p s m meth c Z own nm code ml ret → Stand p l e R s m args below meth c T locs kc ks → ∀ fs : List Frame,
      (∀ (f : JFrame) (acts : List Action), f.method = m → f.locked = none → f.entered = [] → (doReturn e (T.setTop f) acts v).1 = T.setFrames fs) → Steps p.tables e below (T.setTop (mkF m pc ls st)) (T.setFrames fs))
    (hc : kc ≤ R.cells) (hk : ks ≤ R.slots) (hQ : Q v h D) : Runs w l Z EL n0 own nm code ml ret R Q D h kc ks pc ls st := by
  intro p e s vm0 m args below meth c T locs C X eT N O H Kw
  have hlk : meth.locks = false := C.2.2.2.2.2.2.1
  have hr : meth.sig.returnType = ret := C.2.2.2.2.2.1
  obtain ⟨H1, ⟨a0, H2⟩, H3, H4⟩ := H
  have A := CHv.at X C.2.1 H2 H3.1
  have hs : ∀ x ∈ D, x < h.size ∧ Safe Z EL T.vm h x := fun x hx => ⟨(H4 x hx).1, A.safe (H4 x hx).1 (H4 x hx).2⟩
  have A' := H3.trans A
  subst eT
  by_cases w0 : w = 0
  · have e1 : vm0 = s.vm := by rw [if_pos w0] at H1; exact H1
    subst e1
    obtain ⟨fs, h1, h2, h3, h4, h5⟩ := X.leave (v := v) (fun q => hv (hr ▸ q)) hlk
    exact ⟨_, _, f p e _ m args below meth c T locs C X fs h1, h2, h3, v, locs, D, rfl, hQ, O, N, ⟨A', hs⟩, by unfold En; rw [if_pos w0]; exact ⟨⟨v, rfl⟩, h4, h5.mono hc hk⟩⟩
  · rw [if_neg w0] at H1
    obtain ⟨k0, hS, hk0⟩ := H1
    obtain ⟨fs, h1, h2, h3, ⟨g1, g2, g3, g4⟩⟩ := X.leaveW hS hk0 (v := v) (fun q => hv (hr ▸ q)) hlk
    exact ⟨_, _, f p e _ m args below meth c T locs C X fs h1, h2, h3, v, locs, D, rfl, hQ, O, N, ⟨A', hs⟩, by unfold En; rw [if_neg w0]; exact ⟨g1, g2, g3, g4.mono hc hk⟩⟩
theorem Runs.retV {nx : Nat} (hd : Ins code pc .return_ 1 nx) (hr : ret = none) (hc : kc ≤ R.cells) (hk : ks ≤ R.slots) (hQ : Q none h D) : Runs w l Z EL n0 own nm code ml ret R Q D h kc ks pc ls [] :=
  Runs.leave (v := none) (fun _ => rfl) (fun p e s m args below meth c T locs C X fs hl => X.returnOut C.1 (C.2.2.2.2.2.1.trans hr) (Jvm.hb C.2.2.1 hd.1) hl) hc hk hQ
theorem Runs.retI {nx : Nat} {t : FieldType} {x z : Int32} (hd : Ins code pc .ireturn 1 nx) (hr : ret = some t) (ht : t = .int ∨ t = .boolean ∨ t = .byte ∨ t = .char ∨ t = .short) (hn : narrow t (.int x) = .int z) (hc : kc ≤ R.cells) (hk : ks ≤ R.slots) (hQ : Q (some (.int z)) h D) : Runs w l Z EL n0 own nm code ml ret R Q D h kc ks pc ls [.int x] :=
  Runs.leave (v := some (.int z)) (fun q => by rw [hr] at q; cases q) (fun p e s m args below meth c T locs C X fs hl => by
    have hm' : T.vm.method? m = some meth := X.method'
    have hx := C.1
    have hd' := Jvm.hb C.2.2.1 hd.1
    have hret : meth.sig.returnType = some t := C.2.2.2.2.2.1.trans hr
    show Steps p.tables e below (T.setTop { method := m, pc := pc, locals := ls, stack := [_], locked := none }) _
    rcases ht with rfl | rfl | rfl | rfl | rfl
    all_goals
      jvm_step X.here [X.here.top, hx, hd', hm', hret, hn]
      first | (intro acts; rw [hl _ acts rfl rfl rfl]) | rw [hl _ _ rfl rfl rfl]
      exact Steps.refl _) hc hk hQ
theorem Runs.retA {nx : Nat} {t : FieldType} {x : Value} (hd : Ins code pc .areturn 1 nx) (hr : ret = some t) (ht : t.isReference = true) (hx : x.isRef = true) (hc : kc ≤ R.cells) (hk : ks ≤ R.slots) (hQ : Q (some x) h D) : Runs w l Z EL n0 own nm code ml ret R Q D h kc ks pc ls [x] :=
  Runs.leave (v := some x) (fun q => by rw [hr] at q; cases q) (fun p e s m args below meth c T locs C X fs hl =>
    RoadKit.retOut X C.1 (C.2.2.2.2.2.1.trans hr) (by cases x <;> first | rfl | (simp [Value.isRef] at hx; done) | (cases t <;> first | rfl | (simp [FieldType.isReference] at ht; done))) (Or.inr (Or.inr (Or.inr (Or.inr ⟨rfl, ht, hx⟩)))) (Jvm.hb C.2.2.1 hd.1) hl) hc hk hQ
theorem Runs.retJ {nx : Nat} {x : Int64} (hd : Ins code pc .lreturn 1 nx) (hr : ret = some .long) (hc : kc ≤ R.cells) (hk : ks ≤ R.slots) (hQ : Q (some (.long x)) h D) : Runs w l Z EL n0 own nm code ml ret R Q D h kc ks pc ls [.long x] :=
  Runs.leave (v := some (.long x)) (fun q => by rw [hr] at q; cases q) (fun p e s m args below meth c T locs C X fs hl =>
    RoadKit.retOut X C.1 (C.2.2.2.2.2.1.trans hr) rfl (Or.inr (Or.inl ⟨rfl, rfl, x, rfl⟩)) (Jvm.hb C.2.2.1 hd.1) hl) hc hk hQ
/-! statics, fields, constants -/
theorem Runs.getS {R0 O n d : String} {index : Nat} {v : Value} (hd : Ins code pc (.getstatic index) 3 pc') (wl : (Cond.fieldLink own index R0 n d).before a0 Z = true) (via : Via Z R0 O n d) (F : Sta Z Z.heap O n d v) (K : Runs w l Z EL n0 own nm code ml ret R Q D h kc ks pc' ls (v :: st)) : Runs w l Z EL n0 own nm code ml ret R Q D h kc ks pc ls st := by
  obtain ⟨hd, rfl⟩ := hd
  exact K.warm fun p e s m args below meth c T locs C X eT O => RoadKit.getS (host := "") X C.1 C.2.1 C.2.2.2.2.1 wl via eT (F.ext O.2) (g := mkF m pc ls st) rfl (Jvm.hb C.2.2.1 hd)
theorem Runs.getSN {R0 O n d host : String} {index : Nat} {v : Value} (hd : Ins code pc (.getstatic index) 3 pc') (wl : (Cond.fieldLinkNest own index R0 n d host).before a0 Z = true) (via : Via Z R0 O n d) (F : Sta Z Z.heap O n d v) (K : Runs w l Z EL n0 own nm code ml ret R Q D h kc ks pc' ls (v :: st)) : Runs w l Z EL n0 own nm code ml ret R Q D h kc ks pc ls st := by
  obtain ⟨hd, rfl⟩ := hd
  exact K.warm fun p e s m args below meth c T locs C X eT O => RoadKit.getS2 (host := host) X C.1 C.2.1 C.2.2.2.2.1 (Or.inr wl) via eT (F.ext O.2) (g := mkF m pc ls st) rfl (Jvm.hb C.2.2.1 hd)
theorem Runs.getF {R0 O n d host : String} {index : Nat} {a : Addr} {v : Value} (hd : Ins code pc (.getfield index) 3 pc') (wl : (Cond.fieldLink own index R0 n d).before a0 Z = true ∨ (Cond.fieldLinkNest own index R0 n d host).before a0 Z = true) (via : Via Z R0 O n d) (F : Fld Z h a O n d v) (K : Runs w l Z EL n0 own nm code ml ret R Q D h kc ks pc' ls (v :: rest)) : Runs w l Z EL n0 own nm code ml ret R Q D h kc ks pc ls (.ref a :: rest) := by
  obtain ⟨hd, rfl⟩ := hd
  exact K.warm fun p e s m args below meth c T locs C X eT O => RoadKit.getF X C.1 C.2.1 C.2.2.2.2.1 wl via eT F (g := mkF m pc ls (.ref a :: rest)) rfl rfl (Jvm.hb C.2.2.1 hd)
theorem Runs.ldcI {index : Nat} {v : Int32} (hd : Ins code pc (.ldc index) 2 pc') (wl : (Cond.constant own index v).before a0 Z = true) (K : Runs w l Z EL n0 own nm code ml ret R Q D h kc ks pc' ls (.int v :: st)) : Runs w l Z EL n0 own nm code ml ret R Q D h kc ks pc ls st := by
  obtain ⟨hd, rfl⟩ := hd
  exact K.warm fun p e s m args below meth c T locs C X eT O => ⟨T, X, eT, fun t S => X.ldcI C.1 C.2.2.2.2.1 (mv C.2.1 wl) (g := mkF m pc ls st) rfl (Jvm.hb C.2.2.1 hd) S⟩
theorem Runs.ldcJ {index : Nat} {v : Int64} (hd : Ins code pc (.ldc2_w index) 3 pc') (wl : (Cond.constantLong own index v).before a0 Z = true) (K : Runs w l Z EL n0 own nm code ml ret R Q D h kc ks pc' ls (.long v :: st)) : Runs w l Z EL n0 own nm code ml ret R Q D h kc ks pc ls st := by
  obtain ⟨hd, rfl⟩ := hd
  exact K.warm fun p e s m args below meth c T locs C X eT O => ⟨T, X, eT, fun t S => X.ldc2J C.1 C.2.2.2.2.1 (mv C.2.1 wl) (g := mkF m pc ls st) rfl (Jvm.hb C.2.2.1 hd) S⟩
end W


/-! objects, arrays -/
abbrev FV := String × String × String × Value
def FV.key (f : FV) : String × String × String := (f.1, f.2.1, f.2.2.1)
/-- the object at a is exactly a C; its fields fs hold what they say -/
def Obj (Z : State) (h : Heap) (a : Addr) (C : String) (fs : List FV) : Prop := Exa Z h a C ∧ ∀ f ∈ fs, Fld Z h a f.1 f.2.1 f.2.2.1 f.2.2.2
/-- the fields of a C, at their first values -/
def LayD (Z : State) (a0 : Array Value) (C : String) (dl : List FV) : Prop := (∀ f ∈ dl, Laid Z a0 C f.1 f.2.1 f.2.2.1 ∧ ∃ t, parseFieldDescriptor f.2.2.1 = some t ∧ defaultValue t = f.2.2.2) ∧ (dl.map fun f => f.2.1).Nodup
section H
variable {Z : State} {h h' : Heap} {a b : Addr} {C : String} {fs dl : List FV} {ws : List Addr} {a0 : Array Value}
theorem Obj.fld {i : Nat} {o n d : String} {v : Value} (O : Obj Z h a C fs) (hi : fs[i]? = some (o, n, d, v)) : Fld Z h a o n d v := O.2 _ (List.mem_of_getElem? hi)
theorem Obj.keep (O : Obj Z h a C fs) (K : Keep h h' ws) (q : a ∉ ws) : Obj Z h' a C fs := ⟨O.1.keep K, fun f hf => (O.2 f hf).keep K q⟩
theorem Obj.ext (O : Obj Z h a C fs) (E : Ext h h') : Obj Z h' a C fs := ⟨O.1.ext E, fun f hf => (O.2 f hf).ext E⟩
theorem Obj.lt (O : Obj Z h a C fs) : a < h.size := O.1.lt
theorem Obj.sub {gs : List FV} (O : Obj Z h a C fs) (q : ∀ f ∈ gs, f ∈ fs) : Obj Z h a C gs := ⟨O.1, fun f hf => O.2 f (q f hf)⟩
theorem keepE (E : Ext h h') : Keep h h' ws := (Keep.refl h ws).ext E
theorem Keep.sub {ws' : List Addr} (K : Keep h h' ws) (q : ∀ x ∈ ws, x ∈ ws') : Keep h h' ws' := ⟨K.1, fun x c e r => K.2.1 x c e fun z => r (q x z), K.2.2⟩
theorem nodup_key : ∀ {dl : List FV} {i j : Nat} {f g : FV}, (dl.map fun f => f.2.1).Nodup → dl[i]? = some f → dl[j]? = some g → i ≠ j → f.2.1 ≠ g.2.1 := by
  intro dl i j f g hn hi hj hij he
  obtain ⟨h1, e1⟩ := List.getElem?_eq_some_iff.mp hi
  obtain ⟨h2, e2⟩ := List.getElem?_eq_some_iff.mp hj
  have hp := List.pairwise_iff_getElem.mp hn
  rcases Nat.lt_or_gt_of_ne hij with q | q
  · exact hp i j (by simpa using h1) (by simpa using h2) q (by simp only [List.getElem_map, e1, e2]; exact he)
  · exact hp j i (by simpa using h2) (by simpa using h1) q (by simp only [List.getElem_map, e1, e2]; exact he.symm)
theorem Obj.put {i : Nat} {o n d : String} {old v : Value} (O : Obj Z h a C fs) (hi : fs[i]? = some (o, n, d, old)) (L : LayD Z a0 C dl) (hk : fs.map FV.key = dl.map FV.key) (W : Wr h h' a (RoadKit.slotOf Z o n d) v) : Obj Z h' a C (fs.set i (o, n, d, v)) := by
  refine ⟨O.1.wr W, fun f hf => ?_⟩
  obtain ⟨j, hj⟩ := List.mem_iff_getElem?.mp hf
  by_cases e : i = j
  · subst e
    rw [List.getElem?_set_self (by exact (List.getElem?_eq_some_iff.mp hi).1)] at hj
    cases hj
    exact (O.fld hi).same W
  · rw [List.getElem?_set_ne e] at hj
    obtain ⟨o', n', d', v'⟩ := f
    have F := O.fld hj
    have key : ∀ {k : Nat} {g : FV}, fs[k]? = some g → ∃ g' : FV, dl[k]? = some g' ∧ g'.key = g.key := fun {k g} q => by
      have q' : (fs.map FV.key)[k]? = some g.key := by simp [q]
      rw [hk, List.getElem?_map] at q'
      cases hd : dl[k]? with
      | none => simp [hd] at q'
      | some g' => exact ⟨g', rfl, by simpa [hd] using q'⟩
    obtain ⟨f1, q1, k1⟩ := key hi
    obtain ⟨f2, q2, k2⟩ := key hj
    have hne := nodup_key L.2 q1 q2 e
    obtain ⟨L1, t1, p1, -⟩ := L.1 f1 (List.mem_of_getElem? q1)
    obtain ⟨L2, t2, p2, -⟩ := L.1 f2 (List.mem_of_getElem? q2)
    simp only [FV.key, Prod.mk.injEq] at k1 k2
    obtain ⟨a1, b1, c1⟩ := k1
    obtain ⟨a2, b2, c2⟩ := k2
    rw [a1, b1, c1] at L1; rw [a2, b2, c2] at L2; rw [c1] at p1; rw [c2] at p2
    exact F.other W (Or.inr (slot_ne L2 L1 (by rw [← b1, ← b2]; exact fun z => hne z.symm) p2 p1))
end H
section W2
variable {w : Nat} {l : Launch} {Z : State} {EL : List (String × Nat)} {n0 : Nat} {own nm : String} {code : ByteArray} {ml : Nat} {ret : Option FieldType} {R : Room} {Q : Option Value → Heap → List Addr → Prop} {D : List Addr} {h h' : Heap} {kc ks pc pc' : Nat} {ls ls' : Array Slot} {st st' rest : List Value} {a0 : Array Value} {s : State} {vm0 : Vm}
theorem Hid.keep {ws : List Addr} (H : Hid w Z EL D s vm0 h) (K : Keep h h' ws) (q : ∀ x ∈ ws, Safe Z EL vm0 h x) : Hid w Z EL D s vm0 h' := by
  obtain ⟨H1, H2, H3, H4⟩ := H
  refine ⟨?_, H2, H3.trans (CHr.keep K q H3.1), fun x hx => ⟨Nat.lt_of_lt_of_le (H4 x hx).1 K.1, (H4 x hx).2.keep K q H3.1⟩⟩
  split
  · rename_i e; rw [if_pos e] at H1; exact H1
  · rename_i e; rw [if_neg e] at H1; obtain ⟨k0, g1, g2⟩ := H1; exact ⟨k0, g1, Nat.le_trans g2 K.1⟩
theorem Hid.more {b : Addr} (H : Hid w Z EL D s vm0 h) (E : Ext h h') (hb : h.size ≤ b) (hb' : b < h'.size) : Hid w Z EL (b :: D) s vm0 h' := by
  have H' := H.keep (keepE (ws := []) E) (fun x q => nomatch q)
  refine ⟨H'.1, H'.2.1, H'.2.2.1, fun x hx => ?_⟩
  rcases List.mem_cons.mp hx with rfl | hx
  · exact ⟨hb', (Safe.new hb).ext E H.2.2.1.1⟩
  · exact H'.2.2.2 x hx
/-- a step that writes one old place, or none -/
theorem Runs.write {ws : List Addr} {P : Heap → Prop} (hg : ∀ x ∈ ws, n0 ≤ x) (hs : ∀ vm0 : Vm, Z.vm.Alike vm0 → (∀ x ∈ D, Safe Z EL vm0 h x) → ∀ x ∈ ws, Safe Z EL vm0 h x)
    (K : ∀ h', Keep h h' ws → P h' → Runs w l Z EL n0 own nm code ml ret R Q D h' kc ks pc' ls' st')
    (f : ∀ (p : Program) (e : Env) (s : State) (m : MethodId) (args : Array Value) (below : List Frame) (meth : Method) (c : Code) (T : State) (locs : List Loc), Ctx p s m meth c Z own nm code ml ret → Stand p l e R s m args below meth c T locs kc ks → T.heap = h → Old Z n0 h → Fr n0 locs →
      ∃ T' locs', Stand p l e R s m args below meth c T' locs' kc ks ∧ Fr n0 locs' ∧ Keep h T'.heap ws ∧ P T'.heap ∧ ∀ target, Steps p.tables e below (T'.setTop (mkF m pc' ls' st')) target → Steps p.tables e below (T.setTop (mkF m pc ls st)) target) : Runs w l Z EL n0 own nm code ml ret R Q D h kc ks pc ls st := by
  intro p e s vm0 m args below meth c T locs C X eT N O H Kw
  obtain ⟨T', locs', X', N', K', P', S'⟩ := f p e _ m args below meth c T locs C X eT O N
  obtain ⟨s₂, o, S, r⟩ := K _ K' P' p e s vm0 m args below meth c T' locs' C X' rfl N' (O.keep K' hg) (H.keep K' (hs vm0 C.2.1.alike (fun x hx => (H.2.2.2 x hx).2))) Kw
  exact ⟨s₂, o, S' _ S, r⟩
theorem safeC {a : Addr} {C : String} (E : Exa Z h a C) (hs : a ∈ D ∨ (C ≠ "java/lang/String" ∧ C ≠ "[B")) : ∀ vm0 : Vm, Z.vm.Alike vm0 → (∀ x ∈ D, Safe Z EL vm0 h x) → ∀ x ∈ [a], Safe Z EL vm0 h x := fun vm0 hal hD x hx => by
  cases List.mem_singleton.mp hx
  rcases hs with hs | hs
  · exact hD _ hs
  · exact Safe.exa hal E hs.1 hs.2
theorem safeA {a : Addr} {k : ClassId} {ty : FieldType} {z : Int32} {vs : List Value} {d : Value} (A : Arv Z h a k ty z vs d) (hs : a ∈ D ∨ ty ≠ .byte) : ∀ vm0 : Vm, Z.vm.Alike vm0 → (∀ x ∈ D, Safe Z EL vm0 h x) → ∀ x ∈ [a], Safe Z EL vm0 h x := fun vm0 hal hD x hx => by
  cases List.mem_singleton.mp hx
  rcases hs with hs | hs
  · exact hD _ hs
  · exact Safe.arv hal A hs
theorem one_ge {a : Addr} (hg : n0 ≤ a) : ∀ x ∈ [a], n0 ≤ x := fun x hx => by cases List.mem_singleton.mp hx; exact hg
theorem Runs.putF {R0 O n d host C : String} {index kk i : Nat} {ty : FieldType} {a : Addr} {v old : Value} {fs dl : List FV} (hd : Ins code pc (.putfield index) 3 pc') (wl : (Cond.fieldLink own index R0 n d).before a0 Z = true ∨ (Cond.fieldLinkNest own index R0 n d host).before a0 Z = true) (via : Via Z R0 O n d)
    (B : Obj Z h a C fs) (hi : fs[i]? = some (O, n, d, old)) (LD : LayD Z a0 C dl) (hk : fs.map FV.key = dl.map FV.key) (L : (Cond.lays C O n d).before a0 Z = true ∨ ((Cond.laysFinal C O n d).before a0 Z = true ∧ own = O ∧ nm = "<init>")) (wi : (Cond.instantiable C kk).before a0 Z = true)
    (hty : parseFieldDescriptor d = some ty) (hn : narrow ty v = v) (hf : fits ty v = true) (hg : n0 ≤ a) (hs : a ∈ D ∨ (C ≠ "java/lang/String" ∧ C ≠ "[B"))
    (K : ∀ h', Keep h h' [a] → Obj Z h' a C (fs.set i (O, n, d, v)) → Runs w l Z EL n0 own nm code ml ret R Q D h' kc ks pc' ls rest) : Runs w l Z EL n0 own nm code ml ret R Q D h kc ks pc ls (v :: .ref a :: rest) := by
  obtain ⟨hd, rfl⟩ := hd
  refine Runs.write (P := fun h' => Obj Z h' a C (fs.set i (O, n, d, v))) (one_ge hg) (safeC B.1 hs) K fun p e s m args below meth c T locs Cx X eT Ol N => ?_
  obtain ⟨T', h1, X', e1, W1, S1⟩ := RoadKit.putF X Cx.1 Cx.2.1 Cx.2.2.2.2.1 wl via eT (B.fld hi) B.1 (L.imp id fun q => ⟨q.1, q.2.1, Cx.2.2.2.2.2.2.2.1.trans q.2.2⟩) wi hty hn hf (g := mkF m pc ls (v :: .ref a :: rest)) rfl rfl (Jvm.hb Cx.2.2.1 hd)
  subst e1
  exact ⟨T', _, X', Fr.snoc X' N hg, Keep.of_wr W1, B.put hi LD hk W1, S1⟩
theorem Runs.newO {C : String} {index n : Nat} {dl : List FV} (hd : Ins code pc (.new index) 3 pc') (w1 : (Cond.classLink own index C).before a0 Z = true) (w2 : (Cond.instantiable C n).before a0 Z = true) (w3 : (Cond.initialized C).before a0 Z = true) (LD : LayD Z a0 C dl) (hc : kc + 1 ≤ R.cells) (hl : ks + n ≤ R.slots)
    (K : ∀ h' b, h.size ≤ b → n0 ≤ b → Keep h h' [] → Obj Z h' b C dl → Unt h' b → Runs w l Z EL n0 own nm code ml ret R Q (b :: D) h' (kc + 1) (ks + n) pc' ls (.ref b :: st)) : Runs w l Z EL n0 own nm code ml ret R Q D h kc ks pc ls st := by
  obtain ⟨hd, rfl⟩ := hd
  intro p e s vm0 m args below meth c T locs C' X eT N O H Kw
  obtain ⟨T', h1, X', e1, E1, A1, D1, U1, S1⟩ := RoadKit.newO X C'.1 C'.2.1 C'.2.2.2.2.1 w1 w2 w3 eT (g := mkF m pc ls st) rfl (Jvm.hb C'.2.2.1 hd) hc hl
  subst e1
  have hO : n0 ≤ h.size := by rw [← O.1]; exact O.2.1
  obtain ⟨s₂, o, S, r⟩ := K _ h.size (Nat.le_refl _) hO (keepE E1) ⟨A1, fun f hf => by obtain ⟨L1, t, p1, d1⟩ := LD.1 f hf; rw [← d1]; exact D1 L1 p1⟩ U1 p e s vm0 m args below meth c T' locs C' X' rfl N (O.ext E1) (H.more E1 (Nat.le_refl _) A1.lt) Kw
  exact ⟨s₂, o, S1 _ S, r⟩
theorem Runs.newP {aty : ArrayType} {n : Int32} {cap : Nat} {ad : String} (hd : Ins code pc (.newarray aty) 2 pc') (w1 : (Cond.arrayClass (newarray.typeOf aty)).before a0 Z = true) (hn : ¬ n < 0) (hcap : n.toNatClampNeg ≤ cap) (hb : cap * 8 ≤ 536870912) (hc : kc + 1 ≤ R.cells) (hl : ks + cap ≤ R.slots) (had : "[" ++ (newarray.typeOf aty).toString = ad)
    (K : ∀ h' b k, h.size ≤ b → n0 ≤ b → Keep h h' [] → Arv Z h' b k (newarray.typeOf aty) n [] (defaultValue (newarray.typeOf aty)) → Exa Z h' b ad → Runs w l Z EL n0 own nm code ml ret R Q (b :: D) h' (kc + 1) (ks + cap) pc' ls (.ref b :: rest)) : Runs w l Z EL n0 own nm code ml ret R Q D h kc ks pc ls (.int n :: rest) := by
  obtain ⟨hd, rfl⟩ := hd
  intro p e s vm0 m args below meth c T locs C' X eT N O H Kw
  obtain ⟨T', h1, cA, X', e1, E1, A1, x1, S1⟩ := RoadKit.newPE X C'.1 C'.2.1 w1 eT (g := mkF m pc ls (.int n :: rest)) rfl (Jvm.hb C'.2.2.1 hd) rfl hn hcap hb hc hl had
  subst e1
  have hO : n0 ≤ h.size := by rw [← O.1]; exact O.2.1
  obtain ⟨s₂, o, S, r⟩ := K _ h.size cA (Nat.le_refl _) hO (keepE E1) (Arv.new A1 hn) x1 p e s vm0 m args below meth c T' locs C' X' rfl N (O.ext E1) (H.more E1 (Nat.le_refl _) x1.lt) Kw
  exact ⟨s₂, o, S1 _ S, r⟩
theorem Runs.arrlen {a : Addr} {k : ClassId} {ty : FieldType} {z : Int32} {vs : List Value} {d : Value} (hd : Ins code pc .arraylength 1 pc') (A : Arv Z h a k ty z vs d) (K : Runs w l Z EL n0 own nm code ml ret R Q D h kc ks pc' ls (.int z :: rest)) : Runs w l Z EL n0 own nm code ml ret R Q D h kc ks pc ls (.ref a :: rest) := by
  obtain ⟨hd, rfl⟩ := hd
  obtain ⟨cl, A1, -, S1, q, -⟩ := A
  refine K.warm fun p e s m args below meth c T locs C X eT O => ⟨T, X, eT, fun t S => X.arraylength C.1 (by rw [eT]; exact A1.1) (State.isArrayOf_alike C.2.1.alike A1.2.1) (g := mkF m pc ls (.ref a :: rest)) rfl rfl (Jvm.hb C.2.2.1 hd) t ?_⟩
  rw [len_of S1 q]; exact S

theorem Runs.baload {a : Addr} {k : ClassId} {z j : Int32} {vs : List Value} {d v : Value} (hd : Ins code pc .baload 1 pc') (A : Arv Z h a k .byte z vs d) (hj : ¬ j < 0 ∧ j < z) (hv : vs.getD j.toNatClampNeg d = v) (K : Runs w l Z EL n0 own nm code ml ret R Q D h kc ks pc' ls (v :: rest)) : Runs w l Z EL n0 own nm code ml ret R Q D h kc ks pc ls (.int j :: .ref a :: rest) := by
  obtain ⟨hd, rfl⟩ := hd
  obtain ⟨cl, A1, -, S1, q, H1, -⟩ := A
  have hin := inb_of S1 hj
  exact K.warm fun p e s m args below meth c T locs C X eT O => ⟨T, X, eT, fun t S => X.baloadBytes C.1 (by rw [eT]; exact A1.1) (State.isArrayOf_alike C.2.1.alike A1.2.1) A1.2.2 hin (H1.at hin hv) (g := mkF m pc ls (.int j :: .ref a :: rest)) rfl rfl (Jvm.hb C.2.2.1 hd) t S⟩
theorem Runs.caload {a : Addr} {k : ClassId} {z j : Int32} {vs : List Value} {d v : Value} (hd : Ins code pc .caload 1 pc') (A : Arv Z h a k .char z vs d) (hj : ¬ j < 0 ∧ j < z) (hv : vs.getD j.toNatClampNeg d = v) (K : Runs w l Z EL n0 own nm code ml ret R Q D h kc ks pc' ls (v :: rest)) : Runs w l Z EL n0 own nm code ml ret R Q D h kc ks pc ls (.int j :: .ref a :: rest) := by
  obtain ⟨hd, rfl⟩ := hd
  obtain ⟨cl, A1, -, S1, q, H1, -⟩ := A
  have hin := inb_of S1 hj
  exact K.warm fun p e s m args below meth c T locs C X eT O => ⟨T, X, eT, fun t S => X.caload C.1 (by rw [eT]; exact A1.1) (State.isArrayOf_alike C.2.1.alike A1.2.1) A1.2.2 hin (H1.at hin hv) (g := mkF m pc ls (.int j :: .ref a :: rest)) rfl rfl (Jvm.hb C.2.2.1 hd) t S⟩
theorem Runs.iaload {a : Addr} {k : ClassId} {z j : Int32} {vs : List Value} {d v : Value} (hd : Ins code pc .iaload 1 pc') (A : Arv Z h a k .int z vs d) (hj : ¬ j < 0 ∧ j < z) (hv : vs.getD j.toNatClampNeg d = v) (K : Runs w l Z EL n0 own nm code ml ret R Q D h kc ks pc' ls (v :: rest)) : Runs w l Z EL n0 own nm code ml ret R Q D h kc ks pc ls (.int j :: .ref a :: rest) := by
  obtain ⟨hd, rfl⟩ := hd
  obtain ⟨cl, A1, -, S1, q, H1, -⟩ := A
  have hin := inb_of S1 hj
  exact K.warm fun p e s m args below meth c T locs C X eT O => ⟨T, X, eT, fun t S => X.iaload C.1 (by rw [eT]; exact A1.1) (State.isArrayOf_alike C.2.1.alike A1.2.1) A1.2.2 hin (H1.at hin hv) (g := mkF m pc ls (.int j :: .ref a :: rest)) rfl rfl (Jvm.hb C.2.2.1 hd) t S⟩
theorem Runs.aaload {a : Addr} {k : ClassId} {z j : Int32} {vs : List Value} {d v : Value} {ty : FieldType} (hd : Ins code pc .aaload 1 pc') (A : Arv Z h a k ty z vs d) (hty : ty.isReference = true) (hj : ¬ j < 0 ∧ j < z) (hv : vs.getD j.toNatClampNeg d = v) (K : Runs w l Z EL n0 own nm code ml ret R Q D h kc ks pc' ls (v :: rest)) : Runs w l Z EL n0 own nm code ml ret R Q D h kc ks pc ls (.int j :: .ref a :: rest) := by
  obtain ⟨hd, rfl⟩ := hd
  obtain ⟨cl, A1, -, S1, q, H1, -⟩ := A
  have hin := inb_of S1 hj
  exact K.warm fun p e s m args below meth c T locs C X eT O => ⟨T, X, eT, fun t S => X.aaload C.1 (by rw [eT]; exact A1.1) (State.isArrayOf_alike C.2.1.alike A1.2.1) hty A1.2.2 hin (H1.at hin hv) (g := mkF m pc ls (.int j :: .ref a :: rest)) rfl rfl (Jvm.hb C.2.2.1 hd) t S⟩
theorem Runs.bastore {a : Addr} {k : ClassId} {z j x y : Int32} {vs : List Value} {d : Value} {i : Nat} (hd : Ins code pc .bastore 1 pc') (A : Arv Z h a k .byte z vs d) (hj : ¬ j < 0 ∧ j < z) (hi : j.toNatClampNeg = i) (hil : i < vs.length) (hy : x.toInt8.toInt32 = y) (hg : n0 ≤ a) (hs : a ∈ D ∨ (.byte : FieldType) ≠ .byte) (K : ∀ h', Keep h h' [a] → Arv Z h' a k .byte z (vs.set i (.int y)) d → Runs w l Z EL n0 own nm code ml ret R Q D h' kc ks pc' ls rest) : Runs w l Z EL n0 own nm code ml ret R Q D h kc ks pc ls (.int x :: .int j :: .ref a :: rest) := by
  obtain ⟨hd, rfl⟩ := hd
  subst hy
  refine Runs.write (P := fun h' => Arv Z h' a k .byte z (vs.set i (.int (x.toInt8.toInt32))) d) (one_ge hg) (safeA A hs) K fun p e s m args below meth c T locs Cx X eT Ol N => ?_
  obtain ⟨cl, A1, q1, S1, q, H1, G1⟩ := A
  obtain ⟨T', h1, X', e1, W1, st1⟩ := RoadKit.stB X Cx.1 Cx.2.1 eT A1 (inb_of S1 hj) (g := mkF m pc ls (.int x :: .int j :: .ref a :: rest)) rfl rfl (Jvm.hb Cx.2.2.1 hd)
  subst e1
  exact ⟨T', _, X', Fr.snoc X' N hg, Keep.of_wr W1, Arv.set A1 q1 S1 q H1 G1 (fits_nar_byte x) W1 i hi hil, st1⟩
theorem Runs.castore {a : Addr} {k : ClassId} {z j x y : Int32} {vs : List Value} {d : Value} {i : Nat} (hd : Ins code pc .castore 1 pc') (A : Arv Z h a k .char z vs d) (hj : ¬ j < 0 ∧ j < z) (hi : j.toNatClampNeg = i) (hil : i < vs.length) (hy : nar .char x = y) (hg : n0 ≤ a) (hs : a ∈ D ∨ (.char : FieldType) ≠ .byte) (K : ∀ h', Keep h h' [a] → Arv Z h' a k .char z (vs.set i (.int y)) d → Runs w l Z EL n0 own nm code ml ret R Q D h' kc ks pc' ls rest) : Runs w l Z EL n0 own nm code ml ret R Q D h kc ks pc ls (.int x :: .int j :: .ref a :: rest) := by
  obtain ⟨hd, rfl⟩ := hd
  subst hy
  refine Runs.write (P := fun h' => Arv Z h' a k .char z (vs.set i (.int (nar .char x))) d) (one_ge hg) (safeA A hs) K fun p e s m args below meth c T locs Cx X eT Ol N => ?_
  obtain ⟨cl, A1, q1, S1, q, H1, G1⟩ := A
  obtain ⟨T', h1, X', e1, W1, st1⟩ := RoadKit.stC X Cx.1 Cx.2.1 eT A1 (inb_of S1 hj) (g := mkF m pc ls (.int x :: .int j :: .ref a :: rest)) rfl rfl (Jvm.hb Cx.2.2.1 hd)
  subst e1
  exact ⟨T', _, X', Fr.snoc X' N hg, Keep.of_wr W1, Arv.set A1 q1 S1 q H1 G1 (fits_nar_char x) W1 i hi hil, st1⟩
theorem Runs.iastore {a : Addr} {k : ClassId} {z j x y : Int32} {vs : List Value} {d : Value} {i : Nat} (hd : Ins code pc .iastore 1 pc') (A : Arv Z h a k .int z vs d) (hj : ¬ j < 0 ∧ j < z) (hi : j.toNatClampNeg = i) (hil : i < vs.length) (hy : x = y) (hg : n0 ≤ a) (hs : a ∈ D ∨ (.int : FieldType) ≠ .byte) (K : ∀ h', Keep h h' [a] → Arv Z h' a k .int z (vs.set i (.int y)) d → Runs w l Z EL n0 own nm code ml ret R Q D h' kc ks pc' ls rest) : Runs w l Z EL n0 own nm code ml ret R Q D h kc ks pc ls (.int x :: .int j :: .ref a :: rest) := by
  obtain ⟨hd, rfl⟩ := hd
  subst hy
  refine Runs.write (P := fun h' => Arv Z h' a k .int z (vs.set i (.int (x))) d) (one_ge hg) (safeA A hs) K fun p e s m args below meth c T locs Cx X eT Ol N => ?_
  obtain ⟨cl, A1, q1, S1, q, H1, G1⟩ := A
  obtain ⟨T', h1, X', e1, W1, st1⟩ := RoadKit.stI X Cx.1 Cx.2.1 eT A1 (inb_of S1 hj) (g := mkF m pc ls (.int x :: .int j :: .ref a :: rest)) rfl rfl (Jvm.hb Cx.2.2.1 hd)
  subst e1
  exact ⟨T', _, X', Fr.snoc X' N hg, Keep.of_wr W1, Arv.set A1 q1 S1 q H1 G1 (rfl) W1 i hi hil, st1⟩

theorem Runs.initO {idx W : Nat} {a : Addr} (hd : Ins code pc (.invokespecial idx) 3 pc') (w1 : (Cond.methodLink own idx Lib.objectInit).before a0 Z = true) (w2 : (Cond.instanceMethod Lib.objectInit).before a0 Z = true) (w3 : (Cond.code Lib.objectInit ⟨#[0xb1]⟩ 1 none).before a0 Z = true) (hls : ls.size = ml) (hf : 1 ≤ R.frames) (hW : (rest.map fun v => v.category).sum = W) (hl : W + 12 ≤ R.locals)
    (K : Runs w l Z EL n0 own nm code ml ret R Q D h kc ks pc' ls rest) : Runs w l Z EL n0 own nm code ml ret R Q D h kc ks pc ls (.ref a :: rest) := by
  obtain ⟨hd, rfl⟩ := hd
  exact K.warm fun p e s m args below meth c T locs C X eT O => RoadKit.initO X C.1 C.2.1 C.2.2.2.2.1 w1 w2 w3 eT (g := mkF m pc ls (.ref a :: rest)) rfl (by rw [C.2.2.2.1]; exact hls) rfl (Jvm.hb C.2.2.1 hd) hf (W := W) (by show 2 * 0 + _ ≤ _; omega) hl
end W2


/-! calls by a contract: no constant is interned (w = false) -/
section P
variable {l : Launch} {Z : State} {n0 : Nat} {own nm : String} {code : ByteArray} {ml : Nat} {ret : Option FieldType} {R : Room} {Q : Option Value → Heap → List Addr → Prop} {D : List Addr} {h : Heap} {kc ks pc pc' : Nat} {ls : Array Slot} {st rest : List Value} {a0 : Array Value}
theorem ch0 {vm : Vm} {h : Heap} : CHv Z [] vm h := fun p hp => by cases hp
theorem safe0 {vm : Vm} {h : Heap} {x : Addr} : Safe Z [] vm h x := fun ⟨p, hp, _⟩ => by cases hp
theorem chr0 {vm vm1 : Vm} {h h1 : Heap} (q : h.size ≤ h1.size) : CHr Z [] vm h vm1 h1 := ⟨ch0, q, fun _ ⟨p, hp, _⟩ => by cases hp⟩
theorem hid0 {s : State} {h : Heap} (q : s.heap.size ≤ h.size) (hD : ∀ x ∈ D, x < h.size) : Hid 0 Z [] D s s.vm h := ⟨rfl, ⟨#[], EW.nil⟩, chr0 q, fun x hx => ⟨hD x hx, safe0⟩⟩
/-- a callee's contract as what the call laws ask -/
theorem Con.back {p : Program} {e : Env} {s : State} {args : Array Value} {below : List Frame} {y : MethodName} {bytes : ByteArray} {maxL : Nat} {rt : Option FieldType} {rm : Room} {as' : Array Value} {Q' : Option Value → Heap → List Addr → Prop} {len W : Nat}
    (H : Con 0 l Z [] n0 y bytes maxL rt rm as' D h Q') (hO : Old Z n0 h) (hD : ∀ x ∈ D, x < h.size) (hZ : Z.Warmed39 s.vm) (wc : (Cond.code y bytes maxL rt).before a0 Z = true) (wz : (Cond.initialized y.cls).before a0 Z = true) (hf : rm.frames + 1 ≤ R.frames) (hl : W + (maxL + 11) + rm.locals ≤ R.locals) :
    Back l R p e below s args y len W (fun A a => a = as' ∧ A.U.heap = h ∧ A.cells + rm.cells ≤ R.cells ∧ A.slots + rm.slots ≤ R.slots)
      (fun A _ v B => ∃ L D', Q' v B.U.heap D' ∧ Old Z n0 B.U.heap ∧ Fr n0 L ∧ h.size ≤ B.U.heap.size ∧ (∀ x ∈ D', x < B.U.heap.size) ∧ B.locs = A.locs ++ L ∧ B.cells = A.cells + rm.cells ∧ B.slots = A.slots + rm.slots) :=
  Back.of_free (bytes := bytes) (maxL := maxL) (ret := rt) (E := fun _ first o t L k n => k = rm.cells ∧ n = rm.slots ∧ ∃ v D', o = .returned v ∧ Q' v t.heap D' ∧ Old Z n0 t.heap ∧ Fr n0 L ∧ first.heap.size ≤ t.heap.size ∧ ∀ x ∈ D', x < t.heap.size) (H []) hf hl
    (fun m meth c A a Y hp => have hU : Z.Warmed39 A.U.vm := wtrans hZ Y.warmed
      ⟨by show (Cond.and _ .tt).before a A.U = true; rw [Cond.before_and, mv hU wc]; rfl, mv hU wc, mv hU wz, hp.2.2.1, hp.2.2.2⟩)
    (fun m meth c A a g mk Y hp => ⟨hp.1, wtrans hZ Y.warmed, hp.2.1, hO, ⟨#[], EW.nil⟩, ch0, fun x hx => ⟨hD x hx, safe0⟩⟩) (fun _ _ _ _ _ _ _ _ _ q => absurd q (by decide))
    (fun _ _ _ _ ⟨v, L, D', h1, h2, h3, h4, h5, h6⟩ => ⟨L, _, _, h6, rfl, rfl, v, D', h1, h2, h3, h4, h5.1.2.1, fun x hx => (h5.2 x hx).1⟩)
    (fun m meth c A a g mk v t L k n Y hp _ _ ⟨e1, e2, v', D', e3, e4, e5, e6, e7, e8⟩ => by
      cases e3; subst e1 e2
      exact ⟨L, D', e4, e5, e6, by rw [← hp.2.1]; exact e7, e8, rfl, rfl, rfl⟩)
/-- the walk goes on behind a call -/
theorem goOn {p : Program} {e : Env} {s : State} {m : MethodId} {args : Array Value} {below : List Frame} {meth : Method} {c : Code} {T : State} {locs : List Loc} {Q' : Option Value → Heap → List Addr → Prop} {kc' ks' : Nat}
    (K : ∀ v h' D', Q' v h' D' → h.size ≤ h'.size → Runs 0 l Z [] n0 own nm code ml ret R Q (D' ++ D) h' kc' ks' pc' ls (v.toList ++ rest))
    (C : Ctx p s m meth c Z own nm code ml ret) (hs : s.heap.size ≤ h.size) (hD : ∀ x ∈ D, x < h.size) (N : Fr n0 locs) {v : Option Value} {B : Pt} (X : Stand p l e R s m args below meth c B.U B.locs B.cells B.slots)
    (P : ∃ L D', Q' v B.U.heap D' ∧ Old Z n0 B.U.heap ∧ Fr n0 L ∧ h.size ≤ B.U.heap.size ∧ (∀ x ∈ D', x < B.U.heap.size) ∧ B.locs = locs ++ L ∧ B.cells = kc' ∧ B.slots = ks')
    (S : ∀ target, Steps p.tables e below (B.U.setTop (mkF m pc' ls (v.toList ++ rest))) target → Steps p.tables e below (T.setTop (mkF m pc ls st)) target) :
    ∃ s₂ o, Steps p.tables e below (T.setTop (mkF m pc ls st)) s₂ ∧ s₂.status = .running ∧ Ended s₂ below o ∧ Done 0 Z [] n0 R Q s o s₂ := by
  obtain ⟨L, D', h1, h2, h3, h4, h5, h6, h7, h8⟩ := P
  obtain ⟨U, Ls, kk, nn⟩ := B
  dsimp only [Pt.U, Pt.locs, Pt.cells, Pt.slots] at *
  subst h6 h7 h8
  obtain ⟨s₂, o, S₂, r⟩ := K v U.heap D' h1 h4 p e s s.vm m args below meth c U _ C X rfl (N.app h3) h2 (hid0 (Nat.le_trans hs h4) (fun x hx => (List.mem_append.mp hx).elim (h5 x) (fun q => Nat.lt_of_lt_of_le (hD x q) h4))) (fun q => absurd q (by decide))
  exact ⟨s₂, o, S _ S₂, r⟩
theorem Runs.callS {y : MethodName} {index : Nat} {bytes : ByteArray} {maxL : Nat} {rt : Option FieldType} {rm : Room} {argsL : List Value} {Q' : Option Value → Heap → List Addr → Prop} {W : Nat} {ps : List FieldType} {rr : Option FieldType}
    (hd : Ins code pc (.invokestatic index) 3 pc') (w1 : (Cond.methodLink own index y).before a0 Z = true) (w2 : (Cond.static y).before a0 Z = true) (w3 : (Cond.initialized y.cls).before a0 Z = true) (w4 : (Cond.code y bytes maxL rt).before a0 Z = true) (hy : y.cls ≠ "java/lang/invoke/MethodHandle" ∧ y.cls ≠ "java/lang/invoke/VarHandle")
    (pd : parseMethodDescriptor y.desc = some ⟨ps, rr⟩) (hn : argsL.length = ps.length) (hls : ls.size = ml) (hst : st = argsL.reverse ++ rest) (hW : (rest.map fun v => v.category).sum = W) (hf : rm.frames + 1 ≤ R.frames) (hl : W + (maxL + 11) + rm.locals ≤ R.locals) (hc : kc + rm.cells ≤ R.cells) (hs : ks + rm.slots ≤ R.slots)
    {D0 : List Addr} (hD0 : ∀ x ∈ D0, x ∈ D) (H : Con 0 l Z [] n0 y bytes maxL rt rm argsL.toArray D0 h Q')
    (K : ∀ v h' D', Q' v h' D' → h.size ≤ h'.size → Runs 0 l Z [] n0 own nm code ml ret R Q (D' ++ D) h' (kc + rm.cells) (ks + rm.slots) pc' ls (v.toList ++ rest)) : Runs 0 l Z [] n0 own nm code ml ret R Q D h kc ks pc ls st := by
  obtain ⟨hd, rfl⟩ := hd
  intro p e s vm0 m args below meth c T locs C X eT N O Hd Kw
  obtain ⟨e1, -, H3, H4⟩ := Hd
  have e1 : vm0 = s.vm := e1
  subst e1
  have hD : ∀ x ∈ D, x < h.size := fun x hx => (H4 x hx).1
  have C' : Ctx p s m meth c Z own nm code ml ret := C
  have X' : Stand p l e R s m args below meth c T locs kc ks := X
  obtain ⟨v, vm₁, B, -, XB, P, S⟩ := Jvm.LawKit.callS X' C'.1 (y := y) C'.2.2.2.2.1 (mvT C'.2.1 w1) (mvT C'.2.1 w2) (mvT C'.2.1 w3) (mvT C'.2.1 w4) hy (H.back (W := W) O (fun x hx => hD x (hD0 x hx)) C'.2.1 w4 w3 hf hl) (g := mkF m pc ls st) rfl (by rw [C'.2.2.2.1]; exact hls) (argsL := argsL) (rest := rest) (lenOf pd hn) hst (by show 2 * 0 + _ ≤ _; omega) (Jvm.hb C'.2.2.1 hd) (fun _ _ => ⟨rfl, eT, hc, hs⟩)
  exact goOn K C' H3.2.1 hD N XB P S
theorem Runs.callV {y z : MethodName} {index : Nat} {CC : String} {bytes : ByteArray} {maxL : Nat} {rt : Option FieldType} {rm : Room} {b : Addr} {argsL : List Value} {Q' : Option Value → Heap → List Addr → Prop} {W : Nat} {ps : List FieldType} {rr : Option FieldType}
    (hd : Ins code pc (.invokevirtual index) 3 pc') (w1 : (Cond.methodLink own index y).before a0 Z = true) (w2 : (Cond.declares y).before a0 Z = true) (nf : ∀ s : State, Z.Warmed39 s.vm → NotFace s y) (w3 : (Cond.selects CC y z).before a0 Z = true) (w4 : (Cond.instanceMethod z).before a0 Z = true) (w5 : (Cond.code z bytes maxL rt).before a0 Z = true) (w6 : (Cond.initialized z.cls).before a0 Z = true) (hy : y.cls ≠ "java/lang/invoke/MethodHandle" ∧ y.cls ≠ "java/lang/invoke/VarHandle")
    (E : Exa Z h b CC) (pd : parseMethodDescriptor y.desc = some ⟨ps, rr⟩) (hn : argsL.length = ps.length) (hls : ls.size = ml) (hst : st = argsL.reverse ++ .ref b :: rest) (hW : (rest.map fun v => v.category).sum = W) (hf : rm.frames + 1 ≤ R.frames) (hl : W + (maxL + 11) + rm.locals ≤ R.locals) (hc : kc + rm.cells ≤ R.cells) (hs : ks + rm.slots ≤ R.slots)
    {D0 : List Addr} (hD0 : ∀ x ∈ D0, x ∈ D) (H : Con 0 l Z [] n0 z bytes maxL rt rm (.ref b :: argsL).toArray D0 h Q')
    (K : ∀ v h' D', Q' v h' D' → h.size ≤ h'.size → Runs 0 l Z [] n0 own nm code ml ret R Q (D' ++ D) h' (kc + rm.cells) (ks + rm.slots) pc' ls (v.toList ++ rest)) : Runs 0 l Z [] n0 own nm code ml ret R Q D h kc ks pc ls st := by
  obtain ⟨hd, rfl⟩ := hd
  intro p e s vm0 m args below meth c T locs C X eT N O Hd Kw
  obtain ⟨e1, -, H3, H4⟩ := Hd
  have e1 : vm0 = s.vm := e1
  subst e1
  have hD : ∀ x ∈ D, x < h.size := fun x hx => (H4 x hx).1
  have C' : Ctx p s m meth c Z own nm code ml ret := C
  have X' : Stand p l e R s m args below meth c T locs kc ks := X
  obtain ⟨cB, kB, q1, -, q3⟩ := isOf C'.2.1 eT E
  obtain ⟨v, vm₁, B, -, XB, P, S⟩ := X'.virtualBack C'.1 (y := y) (z := z) C'.2.2.2.2.1 (mvT C'.2.1 w1) (mvT C'.2.1 w2) (nf s C'.2.1) (mvT C'.2.1 w3) (mvT C'.2.1 w4) hy (H.back (W := W) O (fun x hx => hD x (hD0 x hx)) C'.2.1 w5 w6 hf hl) q1 q3 (g := mkF m pc ls st) rfl (by rw [C'.2.2.2.1]; exact hls) (Steps.refl _) (argsL := argsL) (rest := rest) (lenOf pd hn) hst (by show 2 * 0 + _ ≤ _; omega) (Jvm.hb C'.2.2.1 hd) (fun _ _ => ⟨rfl, eT, hc, hs⟩)
  exact goOn K C' H3.2.1 hD N XB P (fun t k => S.trans k)
theorem Runs.callC {y : MethodName} {index : Nat} {bytes : ByteArray} {maxL : Nat} {rm : Room} {b : Addr} {argsL : List Value} {Q' : Option Value → Heap → List Addr → Prop} {W : Nat} {ps : List FieldType} {rr : Option FieldType}
    (hd : Ins code pc (.invokespecial index) 3 pc') (hi : y.name = "<init>") (w1 : (Cond.methodLink own index y).before a0 Z = true) (w2 : (Cond.instanceMethod y).before a0 Z = true) (w3 : (Cond.code y bytes maxL none).before a0 Z = true) (w4 : (Cond.initialized y.cls).before a0 Z = true) (hy : y.cls ≠ "java/lang/invoke/MethodHandle" ∧ y.cls ≠ "java/lang/invoke/VarHandle")
    (pd : parseMethodDescriptor y.desc = some ⟨ps, rr⟩) (hn : argsL.length = ps.length) (hls : ls.size = ml) (hst : st = argsL.reverse ++ .ref b :: rest) (hW : (rest.map fun v => v.category).sum = W) (hf : rm.frames + 1 ≤ R.frames) (hl : W + (maxL + 11) + rm.locals ≤ R.locals) (hc : kc + rm.cells ≤ R.cells) (hs : ks + rm.slots ≤ R.slots)
    {D0 : List Addr} (hD0 : ∀ x ∈ D0, x ∈ D) (H : Con 0 l Z [] n0 y bytes maxL none rm (.ref b :: argsL).toArray D0 h Q')
    (K : ∀ v h' D', Q' v h' D' → h.size ≤ h'.size → Runs 0 l Z [] n0 own nm code ml ret R Q (D' ++ D) h' (kc + rm.cells) (ks + rm.slots) pc' ls (v.toList ++ rest)) : Runs 0 l Z [] n0 own nm code ml ret R Q D h kc ks pc ls st := by
  obtain ⟨hd, rfl⟩ := hd
  intro p e s vm0 m args below meth c T locs C X eT N O Hd Kw
  obtain ⟨e1, -, H3, H4⟩ := Hd
  have e1 : vm0 = s.vm := e1
  subst e1
  have hD : ∀ x ∈ D, x < h.size := fun x hx => (H4 x hx).1
  have C' : Ctx p s m meth c Z own nm code ml ret := C
  have X' : Stand p l e R s m args below meth c T locs kc ks := X
  obtain ⟨v, vm₁, B, -, XB, P, S⟩ := X'.specialBack C'.1 (y := y) hi C'.2.2.2.2.1 (mvT C'.2.1 w1) (mvT C'.2.1 w2) (mvT C'.2.1 w3) hy (H.back (W := W) O (fun x hx => hD x (hD0 x hx)) C'.2.1 w3 w4 hf hl) (g := mkF m pc ls st) rfl (by rw [C'.2.2.2.1]; exact hls) (Steps.refl _) (a := b) (argsL := argsL) (rest := rest) (lenOf pd hn) hst (by show 2 * 0 + _ ≤ _; omega) (Jvm.hb C'.2.2.1 hd) (fun _ _ => ⟨rfl, eT, hc, hs⟩)
  exact goOn K C' H3.2.1 hD N XB P (fun t k => S.trans k)
end P


/-! the wide walk (w = true): constants of strings may come to be interned -/
section Wd
variable {w : Nat} {l : Launch} {Z : State} {EL : List (String × Nat)} {n0 : Nat} {own nm : String} {code : ByteArray} {ml : Nat} {ret : Option FieldType} {R : Room} {Q : Option Value → Heap → List Addr → Prop} {D : List Addr} {h : Heap} {kc ks pc pc' : Nat} {ls : Array Slot} {st rest : List Value} {a0 : Array Value}
theorem Ctx.later {p : Program} {s : State} {vm0 vm1 : Vm} {n : Nat} {m : MethodId} {meth : Method} {c : Code} (C : Ctx p (s.setVm vm0) m meth c Z own nm code ml ret) (h1 : (s.setVm vm0).Since vm1 n) : Ctx p (s.setVm vm1) m meth c Z own nm code ml ret :=
  ⟨C.1, State.Warmed39.trans (t := s.setVm vm0) C.2.1 h1.1, C.2.2.1, C.2.2.2.1, by rw [show (s.setVm vm1).vm = vm1 from rfl, h1.1.alike.findClass]; exact C.2.2.2.2.1, C.2.2.2.2.2⟩
theorem Con.backW {p : Program} {e : Env} {s : State} {vm0 : Vm} {args : Array Value} {below : List Frame} {y : MethodName} {bytes : ByteArray} {maxL : Nat} {rt : Option FieldType} {rm : Room} {as' : Array Value} {D0 : List Addr} {Q' : Option Value → Heap → List Addr → Prop} {len W : Nat}
    (w0 : w ≠ 0) (Kw : Kn w Z below) (H : Con w l Z EL n0 y bytes maxL rt rm as' D0 h Q') (hO : Old Z n0 h) (hE : ∃ a0, EW Z a0 EL) (hC : CHv Z EL vm0 h) (hD : ∀ x ∈ D0, x < h.size ∧ Safe Z EL vm0 h x) (hZ : Z.Warmed39 vm0) (wc : (Cond.code y bytes maxL rt).before a0 Z = true) (wz : (Cond.initialized y.cls).before a0 Z = true) (hf : rm.frames + 1 ≤ R.frames) (hl : W + (maxL + 11) + rm.locals ≤ R.locals) :
    BackS l R p e below (s.setVm vm0) args y len W (fun A a => a = as' ∧ A.U.heap = h ∧ A.cells + rm.cells ≤ R.cells ∧ A.slots + rm.slots ≤ R.slots)
      (fun A _ v B => ∃ L D', Q' v B.U.heap D' ∧ Old Z n0 B.U.heap ∧ Fr n0 L ∧ CHr Z EL vm0 h B.U.vm B.U.heap ∧ (∀ x ∈ D', x < B.U.heap.size ∧ Safe Z EL B.U.vm B.U.heap x) ∧ B.locs = A.locs ++ L ∧ B.cells = A.cells + rm.cells ∧ B.slots = A.slots + rm.slots) := by
  obtain ⟨a1, hE1⟩ := id hE
  exact BackS.of_freeWG (bytes := bytes) (maxL := maxL) (ret := rt) (E := fun _ first o t L k n => k = rm.cells ∧ n = rm.slots ∧ ∃ v D', o = .returned v ∧ Q' v t.heap D' ∧ Old Z n0 t.heap ∧ Fr n0 L ∧ CHr Z EL first.vm first.heap t.vm t.heap ∧ ∀ x ∈ D', x < t.heap.size ∧ Safe Z EL t.vm t.heap x) (H []) hf hl
    (fun m meth c A a Y hp => have hU : Z.Warmed39 A.U.vm := wtrans (s := s.setVm vm0) hZ Y.warmed
      ⟨by show (Cond.and _ .tt).before a A.U = true; rw [Cond.before_and, mv hU wc]; rfl, mv hU wc, mv hU wz, hp.2.2.1, hp.2.2.2⟩)
    (fun m meth c A a g mk Y hp => ⟨hp.1, wtrans (s := s.setVm vm0) hZ Y.warmed, hp.2.1, hO, hE, (CHv.at Y hZ hE1 hC).1, fun x hx => ⟨(hD x hx).1, (CHv.at Y hZ hE1 hC).safe (hD x hx).1 (hD x hx).2⟩⟩) (fun m meth c A a g mk Y _ hg q => by
      have hal : Z.vm.Alike A.U.vm := (wtrans (s := s.setVm vm0) hZ Y.warmed).alike
      have kk := known_frames Y hg (Vm.MethodsKnown.alikeC hZ.alike (Kw q).1) (Vm.FramesKnown.alikeC hZ.alike (Kw q).2)
      exact ⟨Vm.MethodsKnown.alikeC hal.symm kk.1, Vm.FramesKnown.alikeC hal.symm kk.2⟩)
    (fun _ _ _ _ ⟨v, L, D', h1, h2, h3, h4, h5, h6⟩ => ⟨L, _, _, by unfold En at h6; rw [if_neg w0] at h6; exact h6, rfl, rfl, v, D', h1, h2, h3, h4, h5.1, h5.2⟩)
    (fun m meth c A a g mk v t L k n Y hp _ _ ⟨e1, e2, v', D', e3, e4, e5, e6, e7, e8⟩ => by
      cases e3; subst e1 e2
      refine ⟨L, D', e4, e5, e6, (CHv.at Y hZ hE1 hC).trans ?_, e8, rfl, rfl, rfl⟩
      rw [← hp.2.1]; exact e7)
theorem goOnW {p : Program} {e : Env} {s : State} {vm0 : Vm} {m : MethodId} {args : Array Value} {below : List Frame} {meth : Method} {c : Code} {T : State} {locs : List Loc} {Q' : Option Value → Heap → List Addr → Prop} {kc' ks' : Nat}
    (K : ∀ v h' D', Q' v h' D' → h.size ≤ h'.size → Runs w l Z EL n0 own nm code ml ret R Q (D' ++ D) h' kc' ks' pc' ls (v.toList ++ rest))
    (w0 : w ≠ 0) (Kw : Kn w Z below) (C : Ctx p (s.setVm vm0) m meth c Z own nm code ml ret) (H : Hid w Z EL D s vm0 h) (N : Fr n0 locs) {v : Option Value} {B : Pt} (X : Stand p l e R ((s.setVm vm0).setVm B.U.vm) m args below meth c B.U B.locs B.cells B.slots)
    (hS : (s.setVm vm0).Since B.U.vm B.U.heap.size)
    (P : ∃ L D', Q' v B.U.heap D' ∧ Old Z n0 B.U.heap ∧ Fr n0 L ∧ CHr Z EL vm0 h B.U.vm B.U.heap ∧ (∀ x ∈ D', x < B.U.heap.size ∧ Safe Z EL B.U.vm B.U.heap x) ∧ B.locs = locs ++ L ∧ B.cells = kc' ∧ B.slots = ks')
    (S : Steps p.tables e below (T.setTop (mkF m pc ls st)) (B.U.setTop (mkF m pc' ls (v.toList ++ rest)))) :
    ∃ s₂ o, Steps p.tables e below (T.setTop (mkF m pc ls st)) s₂ ∧ s₂.status = .running ∧ Ended s₂ below o ∧ Done w Z EL n0 R Q s o s₂ := by
  obtain ⟨L, D', h1, h2, h3, h4, h5, h6, h7, h8⟩ := P
  obtain ⟨U, Ls, kk, nn⟩ := B
  dsimp only [Pt.U, Pt.locs, Pt.cells, Pt.slots] at *
  subst h6 h7 h8
  obtain ⟨H1, H2, H3, H4⟩ := H
  obtain ⟨k0, g1, g2⟩ : ∃ k0, s.Since vm0 k0 ∧ k0 ≤ h.size := by rw [if_neg w0] at H1; exact H1
  have hsz : h.size ≤ U.heap.size := h4.2.1
  have C1 : Ctx p (s.setVm U.vm) m meth c Z own nm code ml ret := C.later hS
  have X1 : Stand p l e R (s.setVm U.vm) m args below meth c U (locs ++ L) kk nn := X
  have HN : Hid w Z EL (D' ++ D) s U.vm U.heap := ⟨by rw [if_neg w0]; exact ⟨U.heap.size, g1.trans hS (Nat.le_trans g2 hsz), Nat.le_refl _⟩, H2, H3.trans h4, fun x hx => by
    rcases List.mem_append.mp hx with q | q
    · exact h5 x q
    · exact ⟨Nat.lt_of_lt_of_le (H4 x q).1 hsz, h4.safe (H4 x q).1 (H4 x q).2⟩⟩
  obtain ⟨s₂, o, S₂, r⟩ := K v U.heap D' h1 hsz p e s U.vm m args below meth c U _ C1 X1 rfl (N.app h3) h2 HN Kw
  exact ⟨s₂, o, S.trans S₂, r⟩
theorem Runs.callSW {y : MethodName} {index : Nat} {bytes : ByteArray} {maxL : Nat} {rt : Option FieldType} {rm : Room} {argsL : List Value} {Q' : Option Value → Heap → List Addr → Prop} {W : Nat} {ps : List FieldType} {rr : Option FieldType}
    (hd : Ins code pc (.invokestatic index) 3 pc') (w1 : (Cond.methodLink own index y).before a0 Z = true) (w2 : (Cond.static y).before a0 Z = true) (w3 : (Cond.initialized y.cls).before a0 Z = true) (w4 : (Cond.code y bytes maxL rt).before a0 Z = true) (hy : y.cls ≠ "java/lang/invoke/MethodHandle" ∧ y.cls ≠ "java/lang/invoke/VarHandle")
    (pd : parseMethodDescriptor y.desc = some ⟨ps, rr⟩) (hn : argsL.length = ps.length) (hls : ls.size = ml) (hst : st = argsL.reverse ++ rest) (hW : (rest.map fun v => v.category).sum = W) (hf : rm.frames + 1 ≤ R.frames) (hl : W + (maxL + 11) + rm.locals ≤ R.locals) (hc : kc + rm.cells ≤ R.cells) (hs : ks + rm.slots ≤ R.slots)
    {D0 : List Addr} (hD0 : ∀ x ∈ D0, x ∈ D) (w0 : w ≠ 0) (H : Con w l Z EL n0 y bytes maxL rt rm argsL.toArray D0 h Q')
    (K : ∀ v h' D', Q' v h' D' → h.size ≤ h'.size → Runs w l Z EL n0 own nm code ml ret R Q (D' ++ D) h' (kc + rm.cells) (ks + rm.slots) pc' ls (v.toList ++ rest)) : Runs w l Z EL n0 own nm code ml ret R Q D h kc ks pc ls st := by
  obtain ⟨hd, rfl⟩ := hd
  intro p e s vm0 m args below meth c T locs C X eT N O Hd Kw
  obtain ⟨v, vm₁, B, -, XB, hS, -, P, S⟩ := callSS X C.1 (y := y) C.2.2.2.2.1 (mvT C.2.1 w1) (mvT C.2.1 w2) (mvT C.2.1 w3) (mvT C.2.1 w4) hy (H.backW w0 Kw (W := W) O Hd.2.1 Hd.2.2.1.1 (fun x hx => Hd.2.2.2 x (hD0 x hx)) C.2.1 w4 w3 hf hl) (g := mkF m pc ls st) rfl (by rw [C.2.2.2.1]; exact hls) (argsL := argsL) (rest := rest) (lenOf pd hn) hst (by show 2 * 0 + _ ≤ _; omega) (Jvm.hb C.2.2.1 hd) (fun _ _ => ⟨rfl, eT, hc, hs⟩)
  exact goOnW K w0 Kw C Hd N XB hS P S
theorem Runs.callVW {y z : MethodName} {index : Nat} {CC : String} {bytes : ByteArray} {maxL : Nat} {rt : Option FieldType} {rm : Room} {b : Addr} {argsL : List Value} {Q' : Option Value → Heap → List Addr → Prop} {W : Nat} {ps : List FieldType} {rr : Option FieldType}
    (hd : Ins code pc (.invokevirtual index) 3 pc') (w1 : (Cond.methodLink own index y).before a0 Z = true) (w2 : (Cond.declares y).before a0 Z = true) (nf : ∀ s : State, Z.Warmed39 s.vm → NotFace s y) (w3 : (Cond.selects CC y z).before a0 Z = true) (w4 : (Cond.instanceMethod z).before a0 Z = true) (w5 : (Cond.code z bytes maxL rt).before a0 Z = true) (w6 : (Cond.initialized z.cls).before a0 Z = true) (hy : y.cls ≠ "java/lang/invoke/MethodHandle" ∧ y.cls ≠ "java/lang/invoke/VarHandle")
    (E : Exa Z h b CC) (pd : parseMethodDescriptor y.desc = some ⟨ps, rr⟩) (hn : argsL.length = ps.length) (hls : ls.size = ml) (hst : st = argsL.reverse ++ .ref b :: rest) (hW : (rest.map fun v => v.category).sum = W) (hf : rm.frames + 1 ≤ R.frames) (hl : W + (maxL + 11) + rm.locals ≤ R.locals) (hc : kc + rm.cells ≤ R.cells) (hs : ks + rm.slots ≤ R.slots)
    {D0 : List Addr} (hD0 : ∀ x ∈ D0, x ∈ D) (w0 : w ≠ 0) (H : Con w l Z EL n0 z bytes maxL rt rm (.ref b :: argsL).toArray D0 h Q')
    (K : ∀ v h' D', Q' v h' D' → h.size ≤ h'.size → Runs w l Z EL n0 own nm code ml ret R Q (D' ++ D) h' (kc + rm.cells) (ks + rm.slots) pc' ls (v.toList ++ rest)) : Runs w l Z EL n0 own nm code ml ret R Q D h kc ks pc ls st := by
  obtain ⟨hd, rfl⟩ := hd
  intro p e s vm0 m args below meth c T locs C X eT N O Hd Kw
  obtain ⟨cB, kB, q1, -, q3⟩ := isOf C.2.1 eT E
  obtain ⟨v, vm₁, B, -, XB, hS, -, P, S⟩ := X.virtualBackS C.1 (y := y) (z := z) C.2.2.2.2.1 (mvT C.2.1 w1) (mvT C.2.1 w2) (nf _ C.2.1) (mvT C.2.1 w3) (mvT C.2.1 w4) hy (H.backW w0 Kw (W := W) O Hd.2.1 Hd.2.2.1.1 (fun x hx => Hd.2.2.2 x (hD0 x hx)) C.2.1 w5 w6 hf hl) q1 q3 (g := mkF m pc ls st) rfl (by rw [C.2.2.2.1]; exact hls) (Steps.refl _) (argsL := argsL) (rest := rest) (lenOf pd hn) hst (by show 2 * 0 + _ ≤ _; omega) (Jvm.hb C.2.2.1 hd) (fun _ _ => ⟨rfl, eT, hc, hs⟩)
  exact goOnW K w0 Kw C Hd N XB hS P S
theorem Runs.callCW {y : MethodName} {index : Nat} {bytes : ByteArray} {maxL : Nat} {rm : Room} {b : Addr} {argsL : List Value} {Q' : Option Value → Heap → List Addr → Prop} {W : Nat} {ps : List FieldType} {rr : Option FieldType}
    (hd : Ins code pc (.invokespecial index) 3 pc') (hi : y.name = "<init>") (w1 : (Cond.methodLink own index y).before a0 Z = true) (w2 : (Cond.instanceMethod y).before a0 Z = true) (w3 : (Cond.code y bytes maxL none).before a0 Z = true) (w4 : (Cond.initialized y.cls).before a0 Z = true) (hy : y.cls ≠ "java/lang/invoke/MethodHandle" ∧ y.cls ≠ "java/lang/invoke/VarHandle")
    (pd : parseMethodDescriptor y.desc = some ⟨ps, rr⟩) (hn : argsL.length = ps.length) (hls : ls.size = ml) (hst : st = argsL.reverse ++ .ref b :: rest) (hW : (rest.map fun v => v.category).sum = W) (hf : rm.frames + 1 ≤ R.frames) (hl : W + (maxL + 11) + rm.locals ≤ R.locals) (hc : kc + rm.cells ≤ R.cells) (hs : ks + rm.slots ≤ R.slots)
    {D0 : List Addr} (hD0 : ∀ x ∈ D0, x ∈ D) (w0 : w ≠ 0) (H : Con w l Z EL n0 y bytes maxL none rm (.ref b :: argsL).toArray D0 h Q')
    (K : ∀ v h' D', Q' v h' D' → h.size ≤ h'.size → Runs w l Z EL n0 own nm code ml ret R Q (D' ++ D) h' (kc + rm.cells) (ks + rm.slots) pc' ls (v.toList ++ rest)) : Runs w l Z EL n0 own nm code ml ret R Q D h kc ks pc ls st := by
  obtain ⟨hd, rfl⟩ := hd
  intro p e s vm0 m args below meth c T locs C X eT N O Hd Kw
  obtain ⟨v, vm₁, B, -, XB, hS, -, P, S⟩ := X.specialBackS C.1 (y := y) hi C.2.2.2.2.1 (mvT C.2.1 w1) (mvT C.2.1 w2) (mvT C.2.1 w3) hy (H.backW w0 Kw (W := W) O Hd.2.1 Hd.2.2.1.1 (fun x hx => Hd.2.2.2 x (hD0 x hx)) C.2.1 w3 w4 hf hl) (g := mkF m pc ls st) rfl (by rw [C.2.2.2.1]; exact hls) (Steps.refl _) (a := b) (argsL := argsL) (rest := rest) (lenOf pd hn) hst (by show 2 * 0 + _ ≤ _; omega) (Jvm.hb C.2.2.1 hd) (fun _ _ => ⟨rfl, eT, hc, hs⟩)
  exact goOnW K w0 Kw C Hd N XB hS P S
theorem declares_of {y : MethodName} {bytes : ByteArray} {maxL : Nat} {rt : Option FieldType} (w1 : (Cond.instanceMethod y).before a0 Z = true) (w2 : (Cond.code y bytes maxL rt).before a0 Z = true) : (Cond.declares y).before a0 Z = true := by
  obtain ⟨m, meth, h1, h2, h3, -⟩ := Cond.instanceMethod_spec w1
  obtain ⟨meth', c, g1, -, -, -, -, -, -, g2⟩ := Cond.code_spec h1 w2
  cases h2.symm.trans g1
  simp [Cond.before, Cond.holds, Cond.value, h1, h2, h3, g2]
theorem nf_same {s : State} {y y' : MethodName} (h : NotFace s y) (w1 : (Cond.instanceMethod y).before a0 s = true) (e : y'.cls = y.cls) : NotFace s y' := fun r0 h0 => by
  obtain ⟨m, meth, h1, -⟩ := Cond.instanceMethod_spec w1
  obtain ⟨kr, k1, k2⟩ := h m h1
  have c1 := findClass_of_methodNamed h1
  have c0 := findClass_of_methodNamed h0
  rw [e] at c0
  have e1 : m.cls = r0.cls := Option.some.inj (c1.symm.trans c0)
  exact ⟨kr, e1 ▸ k1, k2⟩
theorem same_of {y : MethodName} (w1 : (Cond.declares y).before a0 Z = true) (nf : NotFace Z y) (hy : y.cls ≠ "java/lang/invoke/MethodHandle" ∧ y.cls ≠ "java/lang/invoke/VarHandle") : (Cond.sameMethod y.cls y.cls y.name y.desc).before a0 Z = true := by
  obtain ⟨m, meth, h1, h2, -⟩ := Cond.declares_spec w1
  obtain ⟨kr, k1, k2⟩ := nf m h1
  have hf := State.methodFound?_of_named h1 hy
  have hc := findClass_of_methodNamed h1
  have h1' : Z.methodNamed? ⟨y.cls, y.name, y.desc⟩ = some m := h1
  simp [Cond.before, Cond.holds, Cond.value, hc, hf, h1', k1, k2]
theorem Runs.callUW {y : MethodName} {index : Nat} {K : String} {bytes : ByteArray} {maxL : Nat} {rt : Option FieldType} {rm : Room} {b : Addr} {argsL : List Value} {Q' : Option Value → Heap → List Addr → Prop} {W : Nat} {ps : List FieldType} {rr : Option FieldType}
    (hd : Ins code pc (.invokespecial index) 3 pc') (w1 : (Cond.methodLink own index y).before a0 Z = true) (w2 : (Cond.sameMethod y.cls y.cls y.name y.desc).before a0 Z = true) (w3 : (Cond.instanceMethod y).before a0 Z = true) (w4 : (Cond.superclass own y.cls).before a0 Z = true) (w5 : (Cond.code y bytes maxL rt).before a0 Z = true) (w6 : (Cond.initialized y.cls).before a0 Z = true) (hi : y.name ≠ "<init>")
    (E : Exa Z h b K) (pd : parseMethodDescriptor y.desc = some ⟨ps, rr⟩) (hn : argsL.length = ps.length) (hls : ls.size = ml) (hst : st = argsL.reverse ++ .ref b :: rest) (hW : (rest.map fun v => v.category).sum = W) (hf : rm.frames + 1 ≤ R.frames) (hl : W + (maxL + 11) + rm.locals ≤ R.locals) (hc : kc + rm.cells ≤ R.cells) (hs : ks + rm.slots ≤ R.slots)
    {D0 : List Addr} (hD0 : ∀ x ∈ D0, x ∈ D) (w0 : w ≠ 0) (H : Con w l Z EL n0 y bytes maxL rt rm (.ref b :: argsL).toArray D0 h Q')
    (K' : ∀ v h' D', Q' v h' D' → h.size ≤ h'.size → Runs w l Z EL n0 own nm code ml ret R Q (D' ++ D) h' (kc + rm.cells) (ks + rm.slots) pc' ls (v.toList ++ rest)) : Runs w l Z EL n0 own nm code ml ret R Q D h kc ks pc ls st := by
  obtain ⟨hd, rfl⟩ := hd
  intro p e s vm0 m args below meth c T locs C X eT N O Hd Kw
  obtain ⟨v, vm₁, B, -, XB, hS, -, P, S⟩ := superBackS X C.1 C.2.1 (y := y) C.2.2.2.2.1 w1 w2 w3 w4 hi (H.backW w0 Kw (W := W) O Hd.2.1 Hd.2.2.1.1 (fun x hx => Hd.2.2.2 x (hD0 x hx)) C.2.1 w5 w6 hf hl) eT (RoadKit.Ins.self E) (g := mkF m pc ls st) rfl (by rw [C.2.2.2.1]; exact hls) w5 (argsL := argsL) (rest := rest) (lenOf pd hn) hst (by show 2 * 0 + _ ≤ _; omega) (Jvm.hb C.2.2.1 hd) (fun _ _ => ⟨rfl, eT, hc, hs⟩)
  exact goOnW K' w0 Kw C Hd N XB hS P S
/-- ldc of a String constant: a String, no more is said -/
theorem Runs.ldcS {text : String} {index n : Nat} (w0 : w ≠ 0) (hd : Ins code pc (.ldc index) 2 pc') (wl : (Cond.stringLink own index text).before a0 Z = true) (wS : ∀ a ∈ Bundle.stringAtoms, a.before a0 Z = true) (hEL : EW Z a0 EL) (hn : 4 * text.toList.length ≤ n) (hbig : n ≤ 536870912) (hc : kc + 2 ≤ R.cells) (hl : ks + (n + 4) ≤ R.slots)
    (K : ∀ h' a, Keep h h' [] → Runs w l Z EL n0 own nm code ml ret R Q D h' (kc + 2) (ks + (n + 4)) pc' ls (.ref a :: st)) : Runs w l Z EL n0 own nm code ml ret R Q D h kc ks pc ls st := by
  obtain ⟨hd, rfl⟩ := hd
  intro p e s vm0 m args below meth c T locs C X eT N O Hd Kw
  obtain ⟨H1, H2, H3, H4⟩ := Hd
  obtain ⟨k0, g1, g2⟩ : ∃ k0, s.Since vm0 k0 ∧ k0 ≤ h.size := by rw [if_neg w0] at H1; exact H1
  obtain ⟨a, T', h', k1, X', e', E', S1, hk1, W1, F1, C1, -, st1⟩ := ldcOH X C.1 C.2.1 C.2.2.2.2.1 wl wS eT g1 g2 hEL H3.1 (g := mkF m pc ls st) rfl (Jvm.hb C.2.2.1 hd) hn hbig hc hl
  subst e'
  obtain ⟨s₂, o, S, r⟩ := K _ a (keepE E') p e s T'.vm m args below meth c T' locs ⟨C.1, W1, C.2.2.1, C.2.2.2.1, F1, C.2.2.2.2.2⟩ X' rfl N (O.ext E') ⟨by rw [if_neg w0]; exact ⟨k1, S1, hk1⟩, H2, H3.trans C1, fun x hx => ⟨Nat.lt_of_lt_of_le (H4 x hx).1 E'.1, C1.safe (H4 x hx).1 (H4 x hx).2⟩⟩ Kw
  exact ⟨s₂, o, st1 _ S, r⟩
/-- ldc of a String constant that is held: its text -/
theorem Runs.ldcT {text : String} {index n : Nat} {vs : List Value} {z : Int32} (w0 : w ≠ 0) (hd : Ins code pc (.ldc index) 2 pc') (wl : (Cond.stringLink own index text).before a0 Z = true) (wS : ∀ a ∈ Bundle.stringAtoms, a.before a0 Z = true) (hEL : EW Z a0 EL) (hmem : (own, index) ∈ EL)
    (ht : (∀ c ∈ text.toList, c.toNat < 256) ∧ text.toList.map (fun c => Value.int (Jvm.Lit.byteI c.toNat.toUInt16)) = vs) (hz : ¬ z < 0) (hzl : z.toNatClampNeg = vs.length) (hn : 4 * text.toList.length ≤ n) (hbig : n ≤ 536870912) (hc : kc + 2 ≤ R.cells) (hl : ks + (n + 4) ≤ R.slots)
    (K : ∀ h' a b k, Keep h h' [] → Obj Z h' a "java/lang/String" [("java/lang/String", "value", "[B", .ref b), ("java/lang/String", "coder", "B", .int 0)] → Arv Z h' b k .byte z vs (.int 0) → (∀ x ∈ D, x ≠ a ∧ x ≠ b) → Runs w l Z EL n0 own nm code ml ret R Q D h' (kc + 2) (ks + (n + 4)) pc' ls (.ref a :: st)) : Runs w l Z EL n0 own nm code ml ret R Q D h kc ks pc ls st := by
  obtain ⟨hd, rfl⟩ := hd
  intro p e s vm0 m args below meth c T locs C X eT N O Hd Kw
  obtain ⟨H1, H2, H3, H4⟩ := Hd
  obtain ⟨k0, g1, g2⟩ : ∃ k0, s.Since vm0 k0 ∧ k0 ≤ h.size := by rw [if_neg w0] at H1; exact H1
  obtain ⟨a, T', h', k1, b, k, X', e', E', S1, hk1, W1, F1, x1, x2, x3, x4, -, -, C1, -, D1, st1⟩ := ldcCH X C.1 C.2.1 C.2.2.2.2.1 wl wS eT g1 g2 hEL hmem H3.1 ht hz hzl (g := mkF m pc ls st) rfl (Jvm.hb C.2.2.1 hd) hn hbig hc hl
  subst e'
  have hD : ∀ x ∈ D, x < T'.heap.size ∧ Safe Z EL T'.vm T'.heap x := fun x hx => ⟨Nat.lt_of_lt_of_le (H4 x hx).1 E'.1, C1.safe (H4 x hx).1 (H4 x hx).2⟩
  obtain ⟨s₂, o, S, r⟩ := K _ a b k (keepE E') ⟨x1, fun f hf => by simp only [List.mem_cons, List.not_mem_nil, or_false] at hf; rcases hf with rfl | rfl; exact x3; exact x2⟩ x4 (fun x hx => D1 x (hD x hx).2) p e s T'.vm m args below meth c T' locs ⟨C.1, W1, C.2.2.1, C.2.2.2.1, F1, C.2.2.2.2.2⟩ X' rfl N (O.ext E') ⟨by rw [if_neg w0]; exact ⟨k1, S1, hk1⟩, H2, H3.trans C1, hD⟩ Kw
  exact ⟨s₂, o, st1 _ S, r⟩
end Wd


section W3
variable {w : Nat} {l : Launch} {Z : State} {EL : List (String × Nat)} {n0 : Nat} {own nm : String} {code : ByteArray} {ml : Nat} {ret : Option FieldType} {R : Room} {Q : Option Value → Heap → List Addr → Prop} {D : List Addr} {h h' : Heap} {kc ks pc pc' : Nat} {ls ls' : Array Slot} {st st' rest : List Value} {a0 : Array Value}
theorem Runs.instY {K : String} {index : Nat} {a : Addr} (hd : Ins code pc (.instanceof index) 3 pc') (wl : (Cond.classLink own index K).before a0 Z = true) (F : RoadKit.Ins Z h a K true) (k : Runs w l Z EL n0 own nm code ml ret R Q D h kc ks pc' ls (.int 1 :: rest)) : Runs w l Z EL n0 own nm code ml ret R Q D h kc ks pc ls (.ref a :: rest) := by
  obtain ⟨hd, rfl⟩ := hd
  exact k.warm fun p e s m args below meth c T locs C X eT O => RoadKit.instY X C.1 C.2.1 C.2.2.2.2.1 wl eT F (g := mkF m pc ls (.ref a :: rest)) rfl rfl (Jvm.hb C.2.2.1 hd)
theorem Runs.instN {K CC : String} {index : Nat} {a : Addr} (hd : Ins code pc (.instanceof index) 3 pc') (wl : (Cond.classLink own index K).before a0 Z = true) (E : Exa Z h a CC) (F : ∃ c t, Z.vm.findClass CC = some c ∧ Z.vm.findClass K = some t ∧ Z.vm.assignable c t = false) (k : Runs w l Z EL n0 own nm code ml ret R Q D h kc ks pc' ls (.int 0 :: rest)) : Runs w l Z EL n0 own nm code ml ret R Q D h kc ks pc ls (.ref a :: rest) := by
  obtain ⟨hd, rfl⟩ := hd
  exact k.warm fun p e s m args below meth c T locs C X eT O => RoadKit.instNo X C.1 C.2.1 C.2.2.2.2.1 wl eT E F (g := mkF m pc ls (.ref a :: rest)) rfl rfl (Jvm.hb C.2.2.1 hd)
theorem Runs.inst0 {index : Nat} (hd : Ins code pc (.instanceof index) 3 pc') (k : Runs w l Z EL n0 own nm code ml ret R Q D h kc ks pc' ls (.int 0 :: rest)) : Runs w l Z EL n0 own nm code ml ret R Q D h kc ks pc ls (.null :: rest) := by
  obtain ⟨hd, rfl⟩ := hd
  exact k.warm fun p e s m args below meth c T locs C X eT O => ⟨T, X, eT, fun t S => X.instanceofNull C.1 (g := mkF m pc ls (.null :: rest)) rfl rfl (Jvm.hb C.2.2.1 hd) t S⟩
theorem Runs.castY {K : String} {index : Nat} {a : Addr} (hd : Ins code pc (.checkcast index) 3 pc') (wl : (Cond.classLink own index K).before a0 Z = true) (F : RoadKit.Ins Z h a K true) (k : Runs w l Z EL n0 own nm code ml ret R Q D h kc ks pc' ls (.ref a :: rest)) : Runs w l Z EL n0 own nm code ml ret R Q D h kc ks pc ls (.ref a :: rest) := by
  obtain ⟨hd, rfl⟩ := hd
  exact k.warm fun p e s m args below meth c T locs C X eT O => RoadKit.castY X C.1 C.2.1 C.2.2.2.2.1 wl eT F (g := mkF m pc ls (.ref a :: rest)) rfl rfl (Jvm.hb C.2.2.1 hd)
/-- C is no K: C's superclass has none, and neither of them is K, which is a class that can be made -/
theorem notInst {C S K : String} {n : Nat} (wC : (Cond.superclass C S).before a0 Z = true) (wS : (Cond.noSuperclass S).before a0 Z = true) (wK : (Cond.instantiable K n).before a0 Z = true) (h1 : C ≠ K) (h2 : S ≠ K) : ∃ c t, Z.vm.findClass C = some c ∧ Z.vm.findClass K = some t ∧ Z.vm.assignable c t = false := by
  obtain ⟨cs, k0, f1, f2, f3, -, -⟩ := Cond.noSuperclass_spec wS
  obtain ⟨t, kt, g1, g2, g3, g4, -⟩ := Cond.instantiable_spec wK
  obtain ⟨c, h0⟩ := found_sup wC
  obtain ⟨p, k, kp, e1, e2, e3, e4, e5, -, e7⟩ := Cond.superclass_spec h0 wC
  cases f1.symm.trans e1
  have ne := ids_ne h0 g1 h1
  have ne2 := ids_ne f1 g1 h2
  have gi : kt.isInterface = false := by simp only [Bool.or_eq_false_iff] at g4; exact g4.1
  have key : ∀ fuel, Z.vm.isSubclassAux fuel c t = false := fun fuel => by
    cases fuel with
    | zero => rfl
    | succ f =>
      cases f with
      | zero => simp [Vm.isSubclassAux, ne, e2, e4]
      | succ f => simp [Vm.isSubclassAux, ne, e2, e4, ne2, f2, f3]
  refine ⟨c, t, h0, g1, ?_⟩
  show Z.vm.assignableAux (255 + 1) c t = false
  simp [Vm.assignableAux, ne, e2, g2, e5, g3, gi, Vm.isSubclass, key]
end W3


section W4
variable {w : Nat} {l : Launch} {Z : State} {EL : List (String × Nat)} {n0 : Nat} {own nm : String} {code : ByteArray} {ml : Nat} {ret : Option FieldType} {R : Room} {Q : Option Value → Heap → List Addr → Prop} {D : List Addr} {h h' : Heap} {kc ks pc pc' : Nat} {ls ls' : Array Slot} {st st' rest : List Value} {a0 : Array Value}
/-- System.arraycopy of bytes, chars or ints -/
theorem Runs.acopy {index W : Nat} {a b : Addr} {k k' : ClassId} {ty : FieldType} {z z' sp dp nn : Int32} {vs vd us : List Value} {dv dd : Value} (hd : Ins code pc (.invokestatic index) 3 pc')
    (w1 : (Cond.methodLink own index Jvm.Stand.acN).before a0 Z = true) (w2 : (Cond.native Jvm.Stand.acN).before a0 Z = true) (w3 : (Cond.static Jvm.Stand.acN).before a0 Z = true) (w4 : (Cond.initialized "java/lang/System").before a0 Z = true)
    (A : Arv Z h a k ty z vs dv) (B : Arv Z h b k' ty z' vd dd) (hty : refKind ty = false) (h1 : ¬ sp < 0) (h2 : ¬ dp < 0) (h3 : ¬ nn < 0) (h4 : sp.toNatClampNeg + nn.toNatClampNeg ≤ z.toNatClampNeg) (h5 : dp.toNatClampNeg + nn.toNatClampNeg ≤ z'.toNatClampNeg)
    (hus : us = (List.range nn.toNatClampNeg).map fun i => vs.getD (sp.toNatClampNeg + i) dv) (hlv : dp.toNatClampNeg + nn.toNatClampNeg ≤ vd.length) (hg : n0 ≤ b) (hs : b ∈ D ∨ ty ≠ .byte) (hls : ls.size = ml) (hf : 1 ≤ R.frames) (hW : (rest.map fun v => v.category).sum = W) (hlo : W + (nativeFrameWords "java/lang/System" "arraycopy" 5 + 11) ≤ R.locals)
    (K : ∀ h', Keep h h' [b] → Arv Z h' b k' ty z' (vd.take dp.toNatClampNeg ++ us ++ vd.drop (dp.toNatClampNeg + nn.toNatClampNeg)) dd → Runs w l Z EL n0 own nm code ml ret R Q D h' kc ks pc' ls rest) : Runs w l Z EL n0 own nm code ml ret R Q D h kc ks pc ls (.int nn :: .int dp :: .ref b :: .int sp :: .ref a :: rest) := by
  obtain ⟨hd, rfl⟩ := hd
  refine Runs.write (P := fun h' => Arv Z h' b k' ty z' (vd.take dp.toNatClampNeg ++ us ++ vd.drop (dp.toNatClampNeg + nn.toNatClampNeg)) dd) (one_ge hg) (safeA B hs) K fun p e s m args below meth c T locs C X eT Ol N => ?_
  obtain ⟨T', h1', L', X', e1, N', K', A', S'⟩ := cpA X C.1 C.2.1 C.2.2.2.2.1 w1 w2 w3 w4 eT A B (Or.inl ⟨rfl, hty⟩) h1 h2 h3 h4 h5 hus hlv N hg (g := mkF m pc ls (.int nn :: .int dp :: .ref b :: .int sp :: .ref a :: rest)) rfl (by rw [C.2.2.2.1]; exact hls) rfl (Jvm.hb C.2.2.1 hd) hf (W := W) (by show 2 * 0 + _ ≤ _; omega) hlo
  subst e1
  exact ⟨T', L', X', N', K', A', S'⟩
/-- the clone of an array -/
theorem Runs.clone {index W cap : Nat} {ad : String} {a : Addr} {k : ClassId} {ty : FieldType} {z : Int32} {vs : List Value} {dv : Value} (hd : Ins code pc (.invokevirtual index) 3 pc')
    (w1 : (Cond.methodLink own index ⟨ad, "clone", "()Ljava/lang/Object;"⟩).before a0 Z = true) (w2 : (Cond.sameMethod ad "java/lang/Object" "clone" "()Ljava/lang/Object;").before a0 Z = true) (w3 : (Cond.native ⟨"java/lang/Object", "clone", "()Ljava/lang/Object;"⟩).before a0 Z = true)
    (w4 : (Cond.instanceMethod ⟨"java/lang/Object", "clone", "()Ljava/lang/Object;"⟩).before a0 Z = true) (w5 : (Cond.selects ad ⟨ad, "clone", "()Ljava/lang/Object;"⟩ ⟨"java/lang/Object", "clone", "()Ljava/lang/Object;"⟩).before a0 Z = true) (w6 : (Cond.castable ad "java/lang/Cloneable").before a0 Z = true)
    (A : Arv Z h a k ty z vs dv) (E : Exa Z h a ad) (hls : ls.size = ml) (hf : 1 ≤ R.frames) (hW : (rest.map fun v => v.category).sum = W) (hlo : W + 14 ≤ R.locals) (hcap : z.toNatClampNeg ≤ cap) (hc : kc + 1 ≤ R.cells) (hl : ks + cap ≤ R.slots)
    (K : ∀ h' b, h.size ≤ b → n0 ≤ b → Keep h h' [] → Arv Z h' b k ty z vs dv → Exa Z h' b ad → Runs w l Z EL n0 own nm code ml ret R Q (b :: D) h' (kc + 1) (ks + cap) pc' ls (.ref b :: rest)) : Runs w l Z EL n0 own nm code ml ret R Q D h kc ks pc ls (.ref a :: rest) := by
  obtain ⟨hd, rfl⟩ := hd
  intro p e s vm0 m args below meth c T locs C X eT N O H Kw
  obtain ⟨T', h1, X', e1, E1, F1, x1, S1⟩ := cloneH X C.1 C.2.1 C.2.2.2.2.1 w1 w2 w3 w4 w5 w6 eT (hs := []) (vs := vs) (dv := dv) (by obtain ⟨cl, q1, q2, q3, q4, q5, q6⟩ := A; exact ⟨cl, q1, q2, q3, q4, fun i hi => q5 i hi, fun i hi => q6 i hi⟩) E (g := mkF m pc ls (.ref a :: rest)) rfl (by rw [C.2.2.2.1]; exact hls) rfl (Jvm.hb C.2.2.1 hd) hf (W := W) (by show 2 * 0 + _ ≤ _; omega) hlo hcap hc hl
  subst e1
  have hO : n0 ≤ h.size := by rw [← O.1]; exact O.2.1
  obtain ⟨s₂, o, S, r⟩ := K _ h.size (Nat.le_refl _) hO (keepE E1) (by obtain ⟨cl, q1, q2, q3, q4, q5, q6⟩ := F1; exact ⟨cl, q1, q2, q3, q4, fun i hi => q5 i hi, fun i hi => q6 i hi⟩) x1 p e s vm0 m args below meth c T' locs C X' rfl N (O.ext E1) (H.more E1 (Nat.le_refl _) x1.lt) Kw
  exact ⟨s₂, o, S1 _ S, r⟩
end W4


section W5
variable {w : Nat} {l : Launch} {Z : State} {EL : List (String × Nat)} {n0 : Nat} {own nm : String} {code : ByteArray} {ml : Nat} {ret : Option FieldType} {R : Room} {Q : Option Value → Heap → List Addr → Prop} {D : List Addr} {h : Heap} {kc ks pc pc' : Nat} {ls : Array Slot} {st rest : List Value} {a0 : Array Value}
/-- a virtual call of a method that a class above the named one declares -/
theorem Runs.callVUW {x z : MethodName} {owner : String} {index : Nat} {CC : String} {bytes : ByteArray} {maxL : Nat} {rt : Option FieldType} {rm : Room} {b : Addr} {argsL : List Value} {Q' : Option Value → Heap → List Addr → Prop} {W : Nat} {ps : List FieldType} {rr : Option FieldType}
    (hd : Ins code pc (.invokevirtual index) 3 pc') (w1 : (Cond.methodLink own index x).before a0 Z = true) (w2 : (Cond.sameMethod x.cls owner x.name x.desc).before a0 Z = true) (w2' : (Cond.declares ⟨owner, x.name, x.desc⟩).before a0 Z = true) (hy : owner ≠ "java/lang/invoke/MethodHandle" ∧ owner ≠ "java/lang/invoke/VarHandle") (w3 : (Cond.selects CC x z).before a0 Z = true) (w4 : (Cond.instanceMethod z).before a0 Z = true) (w5 : (Cond.code z bytes maxL rt).before a0 Z = true) (w6 : (Cond.initialized z.cls).before a0 Z = true)
    (E : Exa Z h b CC) (pd : parseMethodDescriptor x.desc = some ⟨ps, rr⟩) (hn : argsL.length = ps.length) (hls : ls.size = ml) (hst : st = argsL.reverse ++ .ref b :: rest) (hW : (rest.map fun v => v.category).sum = W) (hf : rm.frames + 1 ≤ R.frames) (hl : W + (maxL + 11) + rm.locals ≤ R.locals) (hc : kc + rm.cells ≤ R.cells) (hs : ks + rm.slots ≤ R.slots)
    {D0 : List Addr} (hD0 : ∀ x ∈ D0, x ∈ D) (w0 : w ≠ 0) (H : Con w l Z EL n0 z bytes maxL rt rm (.ref b :: argsL).toArray D0 h Q')
    (K : ∀ v h' D', Q' v h' D' → h.size ≤ h'.size → Runs w l Z EL n0 own nm code ml ret R Q (D' ++ D) h' (kc + rm.cells) (ks + rm.slots) pc' ls (v.toList ++ rest)) : Runs w l Z EL n0 own nm code ml ret R Q D h kc ks pc ls st := by
  obtain ⟨hd, rfl⟩ := hd
  intro p e s vm0 m args below meth c T locs C X eT N O Hd Kw
  obtain ⟨cB, kB, q1, -, q3⟩ := isOf C.2.1 eT E
  obtain ⟨v, vm₁, B, -, XB, hS, -, P, S⟩ := X.virtualBackUpS C.1 (x := x) (y := z) C.2.2.2.2.1 (mvT C.2.1 w1) (mvT C.2.1 w2) (mvT C.2.1 w2') hy (mvT C.2.1 w3) (mvT C.2.1 w4) (H.backW w0 Kw (W := W) O Hd.2.1 Hd.2.2.1.1 (fun x hx => Hd.2.2.2 x (hD0 x hx)) C.2.1 w5 w6 hf hl) q1 q3 (g := mkF m pc ls st) rfl (by rw [C.2.2.2.1]; exact hls) (Steps.refl _) (argsL := argsL) (rest := rest) (lenOf pd hn) hst (by show 2 * 0 + _ ≤ _; omega) (Jvm.hb C.2.2.1 hd) (fun _ _ => ⟨rfl, eT, hc, hs⟩)
  exact goOnW K w0 Kw C Hd N XB hS P S
theorem keepKp {h' : Heap} {a : Addr} (K : Kp Z h h' a) : Keep h h' [a] := ⟨K.1, fun x c hx hn => by
    obtain ⟨c', q1, -, -, q4, -⟩ := K.2 x c hx
    rw [q1, q4 (fun e => hn (List.mem_singleton.mpr e))], fun x c hx => by
    obtain ⟨c', q1, q2, q3, -⟩ := K.2 x c hx
    exact ⟨c', q1, by rw [q2], by rw [q2], q3⟩⟩
/-- new X(message): the chain of constructors up to Throwable's -/
theorem Runs.exc1 {rc : String} {links : List Jvm.Free.Exc.Link} {ic n W : Nat} {a : Addr} {msg : Value} (hd : Ins code pc (.invokespecial ic) 3 pc') (hl : l.stackTraces = true) (hw2 : w = 2) (hok : Jvm.Free.Exc.linksOk 1 links = true)
    (w1 : (Cond.methodLink own ic (Jvm.Free.Exc.ctor 1 (Jvm.Free.Exc.headName links))).before a0 Z = true) (w2 : (Cond.instanceMethod (Jvm.Free.Exc.ctor 1 (Jvm.Free.Exc.headName links))).before a0 Z = true) (wT : (Jvm.Free.Exc.chainTab 1 rc links).before a0 Z = true) (wi : (Cond.instantiable rc n).before a0 Z = true) (r : ∀ d ∈ twoRefs, d.before a0 Z = true)
    (E : Exa Z h a rc) (N0 : Unt h a) (B : Fld Z h a "java/lang/Throwable" "backtrace" "Ljava/lang/Object;" .null) (B2 : Fld Z h a "java/lang/Throwable" "detailMessage" "Ljava/lang/String;" .null) (hmsg : msg.isRef = true) (ga : n0 ≤ a) (hs : rc ≠ "java/lang/String" ∧ rc ≠ "[B") (hls : ls.size = ml) (hW : (rest.map fun v => v.category).sum = W)
    (hf : 4 + links.length ≤ R.frames) (hlo : W + (56 + 14 * links.length) ≤ R.locals) (hc : kc + 1 ≤ R.cells) (hsl : ks + 2752 ≤ R.slots)
    (K : ∀ h', Keep h h' [a] → Exa Z h' a rc → Unt h' a → Fld Z h' a "java/lang/Throwable" "detailMessage" "Ljava/lang/String;" msg → Fld Z h' a "java/lang/Throwable" "cause" "Ljava/lang/Throwable;" (.ref a) → Runs w l Z EL n0 own nm code ml ret R Q D h' (kc + 1) (ks + 2752) pc' ls rest) : Runs w l Z EL n0 own nm code ml ret R Q D h kc ks pc ls (msg :: .ref a :: rest) := by
  obtain ⟨hd, rfl⟩ := hd
  intro p e s vm0 m args below meth c T locs C X eT N O H Kw
  have kk := Kw hw2
  obtain ⟨T', h', X', e', K', E', U', M', Cz, -, S'⟩ := RoadKit.excL1 X C.1 hl C.2.1 C.2.2.2.2.1 hok w1 w2 wT wi r C.2.2.2.2.2.2.2.2 (ThS.start.ext O.2) (Vm.MethodsKnown.alikeC C.2.1.alike kk.1) (Vm.FramesKnown.alikeC C.2.1.alike kk.2) eT E N0 B B2 hmsg (g := mkF m pc ls (msg :: .ref a :: rest)) rfl (by rw [C.2.2.2.1]; exact hls) rfl (Jvm.hb C.2.2.1 hd) hf (by rw [hW]; show 2 * 0 + W + _ ≤ _; omega) hc hsl
  subst e'
  have Kk := keepKp K'
  obtain ⟨s₂, o, S, r⟩ := K _ Kk E' U' M' Cz p e s vm0 m args below meth c T' _ C X' rfl (N.app (fun y hy => by obtain ⟨nd, -, rfl⟩ := List.mem_map.mp hy; exact ga)) (O.keep Kk (one_ge ga)) (H.keep Kk (safeC E (Or.inr hs) vm0 C.2.1.alike (fun x hx => (H.2.2.2 x hx).2))) Kw
  exact ⟨s₂, o, S' _ S, r⟩
/-- Throwable.getCause of an exception that no monitor holds -/
theorem Runs.gcause {Cx CC : String} {index W : Nat} {a : Addr} {c0 : Value} (hd : Ins code pc (.invokevirtual index) 3 pc') (w1 : (Cond.methodLink own index ⟨Cx, "getCause", "()Ljava/lang/Throwable;"⟩).before a0 Z = true) (w2 : (Cond.sameMethod Cx "java/lang/Throwable" "getCause" "()Ljava/lang/Throwable;").before a0 Z = true) (w3 : (Cond.declares RoadKit.gcN).before a0 Z = true) (w4 : (Cond.selects CC ⟨Cx, "getCause", "()Ljava/lang/Throwable;"⟩ RoadKit.gcN).before a0 Z = true) (wc : (Cond.codeSync RoadKit.gcN RoadKit.gcB 1 (some (.object "java/lang/Throwable"))).before a0 Z = true) (wi : (Cond.instanceMethod RoadKit.gcN).before a0 Z = true) (wz : (Cond.initialized "java/lang/Throwable").before a0 Z = true) (wf : (Cond.fieldLink "java/lang/Throwable" 7 "java/lang/Throwable" "cause" "Ljava/lang/Throwable;").before a0 Z = true)
    (E : Exa Z h a CC) (N0 : Unt h a) (F : Fld Z h a "java/lang/Throwable" "cause" "Ljava/lang/Throwable;" c0) (hc0 : c0.isRef = true) (hls : ls.size = ml) (hW : (rest.map fun v => v.category).sum = W) (hf : 1 ≤ R.frames) (hlo : W + 12 ≤ R.locals) (hc : kc ≤ R.cells) (hs : ks ≤ R.slots)
    (K : Runs w l Z EL n0 own nm code ml ret R Q D h kc ks pc' ls (RoadKit.gcV a c0 :: rest)) : Runs w l Z EL n0 own nm code ml ret R Q D h kc ks pc ls (.ref a :: rest) := by
  obtain ⟨hd, rfl⟩ := hd
  refine K.warm fun p e s m args below meth c T locs C X eT O => ?_
  obtain ⟨cB, kB, q1, -, q3⟩ := isOf C.2.1 eT E
  obtain ⟨v, vm₁, B, -, XB, P, S⟩ := X.virtualBackUp C.1 (x := ⟨Cx, "getCause", "()Ljava/lang/Throwable;"⟩) (y := RoadKit.gcN) C.2.2.2.2.1 (mvT C.2.1 w1) (mvT C.2.1 w2) (mvT C.2.1 w3) (by decide) (mvT C.2.1 w4) (mvT C.2.1 wi) (gcBackPure (rm := { frames := 0, cells := 0, slots := 0, locals := 0 }) (W := W) C.2.1 wc wi wz wf N0 F hc0 hf hlo) q1 q3 (g := mkF m pc ls (.ref a :: rest)) rfl (by rw [C.2.2.2.1]; exact hls) (Steps.refl _) (argsL := []) (rest := rest) (lenOf (d := "()Ljava/lang/Throwable;") (ps := []) (r := some (.object "java/lang/Throwable")) (by decide +kernel) rfl) rfl (by show 2 * 0 + _ ≤ _; omega) (Jvm.hb C.2.2.1 hd) (fun _ _ => ⟨rfl, eT, hc, hs⟩)
  obtain ⟨U, Ls, kk, nn⟩ := B
  obtain ⟨rfl, p2, p3, p4, p5⟩ := P
  dsimp only [Pt.U, Pt.locs, Pt.cells, Pt.slots] at *
  subst p3 p4 p5
  exact ⟨U, XB, p2, fun t k => S.trans k⟩
end W5

section PU
variable {w : Nat} {l : Launch} {Z : State} {EL : List (String × Nat)} {n0 : Nat} {own nm : String} {code : ByteArray} {ml : Nat} {ret : Option FieldType} {R : Room} {Q : Option Value → Heap → List Addr → Prop} {D : List Addr} {h : Heap} {kc ks pc pc' : Nat} {ls : Array Slot} {st rest : List Value} {a0 : Array Value}
/-- putF, and the object stays untouched by the VM -/
theorem Runs.putFU {R0 O n d host C : String} {index kk i : Nat} {ty : FieldType} {a : Addr} {v old : Value} {fs dl : List FV} (hd : Ins code pc (.putfield index) 3 pc') (wl : (Cond.fieldLink own index R0 n d).before a0 Z = true ∨ (Cond.fieldLinkNest own index R0 n d host).before a0 Z = true) (via : Via Z R0 O n d)
    (B : Obj Z h a C fs) (U : Unt h a) (hi : fs[i]? = some (O, n, d, old)) (LD : LayD Z a0 C dl) (hk : fs.map FV.key = dl.map FV.key) (L : (Cond.lays C O n d).before a0 Z = true ∨ ((Cond.laysFinal C O n d).before a0 Z = true ∧ own = O ∧ nm = "<init>")) (wi : (Cond.instantiable C kk).before a0 Z = true)
    (hty : parseFieldDescriptor d = some ty) (hn : narrow ty v = v) (hf : fits ty v = true) (hg : n0 ≤ a) (hs : a ∈ D ∨ (C ≠ "java/lang/String" ∧ C ≠ "[B"))
    (K : ∀ h', Keep h h' [a] → Obj Z h' a C (fs.set i (O, n, d, v)) → Unt h' a → Runs w l Z EL n0 own nm code ml ret R Q D h' kc ks pc' ls rest) : Runs w l Z EL n0 own nm code ml ret R Q D h kc ks pc ls (v :: .ref a :: rest) := by
  obtain ⟨hd, rfl⟩ := hd
  refine Runs.write (P := fun h' => Obj Z h' a C (fs.set i (O, n, d, v)) ∧ Unt h' a) (one_ge hg) (safeC B.1 hs) (fun h' k q => K h' k q.1 q.2) fun p e s m args below meth c T locs Cx X eT Ol N => ?_
  obtain ⟨T', h1, X', e1, W1, S1⟩ := RoadKit.putF X Cx.1 Cx.2.1 Cx.2.2.2.2.1 wl via eT (B.fld hi) B.1 (L.imp id fun q => ⟨q.1, q.2.1, Cx.2.2.2.2.2.2.2.1.trans q.2.2⟩) wi hty hn hf (g := mkF m pc ls (v :: .ref a :: rest)) rfl rfl (Jvm.hb Cx.2.2.1 hd)
  subst e1
  exact ⟨T', _, X', Fr.snoc X' N hg, Keep.of_wr W1, ⟨B.put hi LD hk W1, U.wr W1⟩, S1⟩
end PU
section Fl
open Bundle
variable {p : Program} {l : Launch} {e : Env} {R : Room} {s : State} {m : MethodId} {args : Array Value} {below : List Frame} {meth : Method} {c : Code} {T U : State} {locs L : List Loc} {kc ks k n : Nat}
/-- the state in which this invocation would have begun had it begun with the heap of now -/
def nowAs (s T : State) : State := { s with heap := T.heap, slotsUsed := T.slotsUsed }
theorem drop_all (h : Heap) : ((h.toList.drop h.size).map (·.slots.size)).sum = 0 := by
  rw [List.drop_eq_nil_of_le (Nat.le_of_eq (Array.length_toList ..))]; rfl
theorem now_stand (X : Stand p l e R s m args below meth c T locs kc ks) (hc : kc ≤ R.cells) (hs : ks ≤ R.slots) :
    Stand p l e { R with cells := R.cells - kc, slots := R.slots - ks } (nowAs s T) m args below meth c T [] 0 0 where
  admits := X.admits
  cas := X.cas
  clock := X.clock
  frames := X.frames
  room := by
    have h := X.room
    have h1 := X.heapSize
    have h2 := X.used
    have h3 := X.book
    simp only [State.hasRoom, Bool.and_eq_true, decide_eq_true_eq] at h ⊢
    refine ⟨⟨⟨⟨h.1.1.1.1, h.1.1.1.2⟩, ?_⟩, ?_⟩, h3⟩
    · have := h.1.1.2; show T.heap.size + (R.cells - kc) ≤ _; omega
    · have := h.1.2; show T.slotsUsed + (R.slots - ks) ≤ _; omega
  hears := X.hears
  method := X.method
  code := X.code
  here := X.here
  tail := X.tail
  warmed := X.warmed
  limits := X.limits
  bytes := X.bytes
  same := ⟨X.same.1, Nat.le_refl _, Nat.le_refl _, by show T.slotsUsed = T.slotsUsed + ((T.heap.toList.drop T.heap.size).map (·.slots.size)).sum; rw [drop_all]; rfl, by show ((T.heap.toList.drop T.heap.size).map (·.slots.size)).sum ≤ 0; rw [drop_all]; exact Nat.le_refl _, fun a c q => ⟨c, q, rfl, rfl, fun _ _ => rfl⟩⟩
theorem now_same (X : Stand p l e R s m args below meth c T locs kc ks) : s.sameButNew ((nowAs s T).setFrames T.frames) locs kc ks := by
  have h := X.same
  rw [h.1] at h
  exact h
theorem now_back {R1 : Room} (X : Stand p l e R s m args below meth c T locs kc ks) (Y : Stand p l e R1 (nowAs s T) m args below meth c U L k n) : Stand p l e R s m args below meth c U (locs ++ L) (kc + k) (ks + n) where
  admits := X.admits
  cas := X.cas
  clock := X.clock
  frames := X.frames
  room := X.room
  hears := X.hears
  method := X.method
  code := X.code
  here := Y.here
  tail := Y.tail
  warmed := Y.warmed
  limits := Y.limits
  bytes := Y.bytes
  same := by
    have h := X.same.trans (u := U.setVm s.vm) (l2 := L) (c2 := k) (n2 := n) ?_
    · exact h
    · obtain ⟨h1, h2⟩ := Y.same
      refine ⟨?_, h2⟩
      rw [X.same.1]
      refine h1.trans ?_
      show ({ (nowAs s T).setFrames (U.setVm s.vm).frames with heap := U.heap, slotsUsed := U.slotsUsed } : State) = { ((s.setFrames (T.setVm s.vm).frames).setFrames (U.setVm s.vm).frames) with heap := U.heap, slotsUsed := U.slotsUsed }
      rw [State.setFrames_setFrames]
      rfl

open LibCode.Throwable
/-- what the walk of fillInStackTrace asks, for an exception of class rc -/
def fillWords (rc : String) : List Cond := [.initialized tN, .superclass tN "java/lang/Object", .instanceMethod tFill, .codeSync tFill Fill.code 1 (some (.object tN)), .instanceMethod tFill0, .native tFill0, .instanceMethod oInit, .code oInit ⟨#[0xb1]⟩ 1 none,
  .methodLink tN 1 oInit, .methodLink tN 27 tFill, .methodLink tN 202 tFill0, .fieldLink tN 7 tN "cause" "Ljava/lang/Throwable;", .fieldLink tN 17 tN "stackTrace" steD, .fieldLink tN 24 tN "suppressedExceptions" listD, .fieldLink tN 13 tN "UNASSIGNED_STACK" steD, .fieldLink tN 20 tN "SUPPRESSED_SENTINEL" listD, .fieldLink tN 198 tN "backtrace" "Ljava/lang/Object;",
  .lays rc tN "cause" "Ljava/lang/Throwable;", .lays rc tN "stackTrace" steD, .lays rc tN "suppressedExceptions" listD, .lays rc tN "backtrace" "Ljava/lang/Object;", .lays rc tN "depth" "I", .selects rc tFill0 tFill0, .arrayOver (.object "java/lang/Object"), .soleField tN "backtrace", .soleField tN "depth", .laysStatic tN "UNASSIGNED_STACK" steD, .laysStatic tN "SUPPRESSED_SENTINEL" listD]
theorem fillT {pl : Platform} {rc : String} {cr : ClassId} {kr : Class} (hcr : s.vm.findClass rc = some cr) (hkr : s.vm.classes[cr]? = some kr) (howns : pl.frameOwnsMonitors = true) (hfin : pl.finalization = false) (hpl : pl.magicAccessors = ({} : Platform).magicAccessors) (W : ∀ x ∈ fillWords rc, x.before args s = true) :
    ∃ T : ThrowableC, T.Links pl s ∧ s.vm.findClass tN = some T.cT ∧ s.methodNamed? tFill = some T.fill ∧ s.methodNamed? tFill0 = some T.fill0 ∧ s.fieldFound? tN "stackTrace" steD = some (T.cT, T.kT, T.i17, T.fStack) ∧ s.fieldFound? tN "UNASSIGNED_STACK" steD = some (T.cT, T.kT, T.i13, T.fUnassigned) ∧ T.fStack.name = "stackTrace" ∧ T.fStack.type = .array (.object "java/lang/StackTraceElement") ∧ ∃ cell : Cell, s.heap[T.aS]? = some cell ∧ cell.vm.isStatics = true := by
  have w : ∀ (i : Nat) (x : Cond), (fillWords rc)[i]? = some x → x.holds args s none s [] = true := fun i x q => W x (List.mem_of_getElem? q)
  obtain ⟨⟨ct, jn⟩, mN, nN, atN, isNat, noCode, noLock, sgN⟩ := Cond.native_spec (w 5 _ rfl)
  have fT : s.vm.findClass tN = some ct := findClass_of_methodNamed nN
  obtain ⟨kt, kAt, kName⟩ := Vm.findClass_spec fT
  obtain ⟨_, kt', _, _, kAt', _, _, -, _, noFace⟩ := Cond.superclass_spec fT (w 1 _ rfl)
  cases kAt.symm.trans kAt'
  -- its methods
  obtain ⟨jf, mF, nF, atF, idxF, sF, abF, -, -⟩ := Cond.ownMethod (x := tFill) fT kAt (w 2 _ rfl)
  obtain ⟨_, cdF, atF', codF, bytF, locF, retF, lockF, -, sgF⟩ := Cond.codeSync_spec nF (w 3 _ rfl)
  cases atF.symm.trans atF'
  obtain ⟨jn', mN', nN', atN', idxN, sN, abN, nameN, descN⟩ := Cond.ownMethod (x := tFill0) fT kAt (w 4 _ rfl)
  cases nN.symm.trans nN'
  cases atN.symm.trans atN'
  obtain ⟨mo, mO, nO, atO, sO, abO⟩ := Cond.instanceMethod_spec (w 6 _ rfl)
  obtain ⟨_, cdO, atO', codO, bytO, -, -, lockO, -, sgO⟩ := Cond.code_spec nO (w 7 _ rfl)
  cases atO.symm.trans atO'
  obtain ⟨kO, kOAt, kOName⟩ := Vm.findClass_spec (findClass_of_methodNamed nO)
  obtain ⟨nameO, descO⟩ := name_of_methodNamed nO atO
  -- its pool
  obtain ⟨c1, n1, file, l1, r1, isF, p1⟩ := Cond.linkedMethod fT kAt nO (w 8 _ rfl) pl hpl
  obtain ⟨c27, n27, _, l27, r27, isF', p27⟩ := Cond.linkedMethod fT kAt nF (w 9 _ rfl) pl hpl
  cases isF.symm.trans isF'
  obtain ⟨c202, n202, _, l202, r202, isF'', p202⟩ := Cond.linkedMethod fT kAt nN (w 10 _ rfl) pl hpl
  cases isF.symm.trans isF''
  obtain ⟨c7, i7, f7, l7, r7, a7, s7, v7, -, -, -⟩ := Cond.ownField (t := .object tN) fT kAt (by decide +kernel) (w 11 _ rfl) (w 17 _ rfl) pl hpl
  obtain ⟨c17, i17, f17, l17, r17, a17, s17, v17, m17, t17, g17⟩ := Cond.ownField (t := .array (.object "java/lang/StackTraceElement")) fT kAt (by decide +kernel) (w 12 _ rfl) (w 18 _ rfl) pl hpl
  obtain ⟨c24, i24, f24, l24, r24, a24, s24, v24, m24, -, g24⟩ := Cond.ownField (t := .object "java/util/List") fT kAt (by decide +kernel) (w 13 _ rfl) (w 19 _ rfl) pl hpl
  obtain ⟨c13, i13, f13, aU, cellU, l13, r13, a13, s13, -, -, st13, cU, vU, -, -, g13⟩ := Cond.ownStatic (t := .array (.object "java/lang/StackTraceElement")) fT kAt (by decide +kernel) (w 14 _ rfl) (w 26 _ rfl) pl hpl
  obtain ⟨c20, i20, f20, _, _, l20, r20, a20, s20, -⟩ := Cond.ownStatic (t := .object "java/util/List") fT kAt (by decide +kernel) (w 15 _ rfl) (w 27 _ rfl) pl hpl
  obtain ⟨-, d17, e17, x17⟩ := Cond.laysAt hcr hkr g17 (w 18 _ rfl)
  obtain ⟨-, d24, e24, x24⟩ := Cond.laysAt hcr hkr g24 (w 19 _ rfl)
  refine ⟨{ cT := ct, kT := kt, cO := ct, aS := aU, fillIdx := jf, fill0Idx := jn, initSIdx := jn, obj := mo, kObj := kO, methFill := mF, methFill0 := mN, methInitS := mN, methObj := mO, codeFill := cdF, codeInitS := cdF, codeObj := cdO, fBack := f7, fDepth := f7, fStack := f17, fCause := f7, fSupp := f24, fMsg := f7, fUnassigned := f13, fSentinel := f20, cfT := file, ci1 := c1, n1 := n1, ci27 := c27, n27 := n27, ci202 := c202, n202 := n202, ci7 := c7, i7 := i7, ci13 := c13, i13 := i13, ci17 := c17, i17 := i17, ci20 := c20, i20 := i20, ci24 := c24, i24 := i24 },
    ?_, fT, nF, nN, g17, g13, m17, t17, cellU, cU, vU⟩
  constructor
  all_goals first | assumption | skip
  · exact Vm.findClass_boot fT kAt
  · exact Cond.initialized_spec fT kAt (w 0 _ rfl)
  · have q : (parseMethodDescriptor tFill.desc).map (·.parameters) = some [] := by decide +kernel
    rw [sgF] at q; exact Option.some.inj q
  · have q : (parseMethodDescriptor tFill0.desc).map (·.parameters) = some [.int] := by decide +kernel
    rw [sgN] at q; exact Option.some.inj q
  · rw [show mO.desc = "()V" from descO]; exact lookupSpecial_of_named nO atO sO
  · have q : (parseMethodDescriptor oInit.desc).map (·.parameters) = some [] := by decide +kernel
    rw [sgO] at q
    have q2 : mO.sig.parameters = [] := Option.some.inj q
    show mO.sig.parameters.length = 0
    rw [q2]; rfl
  · exact Cond.laysApart e17 e24 x17 x24 (by rw [m17, m24]; decide)
end Fl
section Fl2
open Bundle Jvm.Free.Exc
variable {w : Nat} {l : Launch} {Z : State} {EL : List (String × Nat)} {n0 : Nat} {own nm : String} {code : ByteArray} {ml : Nat} {ret : Option FieldType} {R : Room} {Q : Option Value → Heap → List Addr → Prop} {D : List Addr} {h : Heap} {kc ks pc pc' : Nat} {ls : Array Slot} {st rest : List Value} {a0 : Array Value}
theorem fillOk {rc : String} : (fillWords rc).all xOk = true := rfl
/-- an object's field, seen from a later state -/
theorem fldAt {h : Heap} {a : Addr} {O n d : String} {v : Value} {cell : Cell} {s1 : State} (F : Fld Z h a O n d v) (hc : h[a]? = some cell) (hal : Z.vm.Alike s1.vm) {c i : Nat} {k : Class} {f : Field} (g : s1.fieldFound? O n d = some (c, k, i, f)) : cell.slots[f.slot]? = some v := by
  obtain ⟨cell', cf, kf, j, f', q1, q2, -, -, -, -, q7⟩ := F
  cases hc.symm.trans q1
  obtain ⟨_, _, _, q8⟩ := Jvm.Free.BdW.found_ride hal ⟨_, _, _, q2⟩
  cases q8.symm.trans g
  exact q7
/-- this.fillInStackTrace(), of a new exception -/
theorem Runs.fill {rc : String} {index n W : Nat} {a : Addr} {u0 : Value} (hd : Ins code pc (.invokevirtual index) 3 pc') (hl : l.stackTraces = true) (hw2 : w = 2)
    (w1 : (Cond.methodLink own index tFill).before a0 Z = true) (w2 : (Cond.declares tFill).before a0 Z = true) (nf : ∀ s : State, Z.Warmed39 s.vm → NotFace s tFill) (w3 : (Cond.selects rc tFill tFill).before a0 Z = true) (wi : (Cond.instantiable rc n).before a0 Z = true) (Wd : ∀ x ∈ fillWords rc, x.before a0 Z = true)
    (E : Exa Z h a rc) (N0 : Unt h a) (F1 : Fld Z h a tN "stackTrace" steD u0) (hu : u0.isRef = true) (F2 : Fld Z h a tN "backtrace" "Ljava/lang/Object;" .null) (S1 : Sta Z Z.heap tN "UNASSIGNED_STACK" steD u0)
    (ga : n0 ≤ a) (hs : rc ≠ "java/lang/String" ∧ rc ≠ "[B") (hls : ls.size = ml) (hW : (rest.map fun v => v.category).sum = W) (hf : 3 ≤ R.frames) (hlo : W + 42 ≤ R.locals) (hc : kc + 1 ≤ R.cells) (hsl : ks + 2752 ≤ R.slots)
    (K : ∀ h', Keep h h' [a] → Exa Z h' a rc → Unt h' a → (∀ (n d : String) (t : FieldType) (v : Value), (Cond.lays rc tN n d).before a0 Z = true → parseFieldDescriptor d = some t → n ≠ "backtrace" → n ≠ "depth" → n ≠ "stackTrace" → Fld Z h a tN n d v → Fld Z h' a tN n d v) →
      Runs w l Z EL n0 own nm code ml ret R Q D h' (kc + 1) (ks + 2752) pc' ls (.ref a :: rest)) : Runs w l Z EL n0 own nm code ml ret R Q D h kc ks pc ls (.ref a :: rest) := by
  obtain ⟨hd, rfl⟩ := hd
  intro p e s vm0 m args below meth c T locs C X eT N O H Kw
  have kk := Kw hw2
  have Y := now_stand X (by omega) (by omega)
  have hZ : Z.Warmed39 (nowAs (s.setVm vm0) T).vm := C.2.1
  have hT1 : ThS Z (nowAs (s.setVm vm0) T).heap := by show ThS Z T.heap; rw [eT]; exact ThS.start.ext O.2
  have hown : (nowAs (s.setVm vm0) T).vm.findClass own = some m.cls := C.2.2.2.2.1
  have hheap : (nowAs (s.setVm vm0) T).heap = h := eT
  generalize hs1 : nowAs (s.setVm vm0) T = s1 at Y hZ hT1 hown hheap
  have Ws : ∀ x ∈ fillWords rc, x.before args s1 = true := fun x hx => mvX hT1 hZ (List.all_eq_true.mp fillOk x hx) (Wd x hx)
  have wd : ∀ (i : Nat) (x : Cond), (fillWords rc)[i]? = some x → x.holds args s1 none s1 [] = true := fun i x q => Ws x (List.mem_of_getElem? q)
  have hal := hZ.alike
  obtain ⟨cell, u1, u2, u3⟩ := id N0
  obtain ⟨cell', kE, e1, e2, e3, e4, e5⟩ := id E
  cases u1.symm.trans e1
  obtain ⟨cI, kr, i1, hkr, hord, -, -, i5⟩ := Cond.instantiable_spec (s := s1) (args := args) (first := s1) (o := none) (idx := []) (mvX hT1 hZ rfl wi)
  have hcr : s1.vm.findClass rc = some cell.cls := by rw [hal.findClass]; exact e2
  cases i1.symm.trans hcr
  have hsz : cell.slots.size = kr.instanceTypes.size := by
    obtain ⟨k', q1, q2⟩ := hal.2.2 _ _ e3
    cases hkr.symm.trans q1
    rw [q2]; exact e5 (by rw [q2] at hord; exact hord)
  obtain ⟨TT, LL, fT, nF, nN, g17, g13, m17, t17, cS, hcS, vS⟩ := fillT (pl := e.platform) hcr hkr (by rw [X.admits.platform]) (by rw [X.admits.platform]) (by rw [X.admits.platform]) Ws
  -- the static and the receiver's two fields
  obtain ⟨cf, iU, kU, fU, sU, cellU, z1, z2, z3, z4, z5, z6, z7⟩ := S1
  obtain ⟨kU', z1', zk⟩ := State.fieldFound?_setVm hal z1
  cases z1'.symm.trans g13
  have z4' : TT.kT.statics = some sU := by rw [zk]; exact z4
  cases z4'.symm.trans LL.statics
  have hU : h[TT.aS]? = some cellU := O.2.2 _ _ z5
  have hne : TT.aS ≠ a := fun q => by rw [q, u1] at hU; cases hU; rw [u2] at z6; cases z6
  obtain ⟨tyS, dS, hdS, xS⟩ := Cond.laysAt hcr hkr g17 (wd 18 _ rfl)
  obtain ⟨ciB, iB, fB, lB, rB, aB, sB, -, nB, tB, gB⟩ := Cond.ownField (t := .object "java/lang/Object") fT LL.cls (by decide +kernel) (wd 16 _ rfl) (wd 20 _ rfl) e.platform (by rw [X.admits.platform])
  obtain ⟨tyB, dB, hdB, xB⟩ := Cond.laysAt hcr hkr gB (wd 20 _ rfl)
  obtain ⟨_, _, cD, kD, iD, fD, -, -, gD, sD, -, -, -, -⟩ := Cond.lays_spec (wd 21 _ rfl)
  cases (Cond.lays_declared (wd 21 _ rfl) gD).symm.trans fT
  obtain ⟨kD1, aD⟩ := State.fieldFound?_spec gD
  cases kD1.symm.trans LL.cls
  obtain ⟨nD, tD⟩ := State.fieldFound?_type gD (t := .int) (by decide +kernel)
  obtain ⟨tyD, dD, hdD, xD⟩ := Cond.laysAt hcr hkr gD (wd 21 _ rfl)
  obtain ⟨comp, cO, kO, -, -, hkO, hkindO, hO⟩ := Cond.arrayOver_spec (wd 23 _ rfl)
  have tk : ∀ {f : Field} {v : Value}, kr.instanceTypes[f.slot]? = some f.type → fits f.type v = true → Jvm.Takes s1 cell f v := fun {f v} h1 h2 => by
    obtain ⟨q1, q2⟩ := Takes.of_laid (v := v) hkr hord h1 h2
    exact ⟨by rw [hsz]; simpa using q1, by rw [u2]; exact q2⟩
  have hsel0 : selectMethod e.platform s1.vm cell.cls TT.fill0 = .method TT.fill0 := by
    obtain ⟨c2, r2, m2, q1, q2, q3, q4, -⟩ := Cond.selects_spec (wd 22 _ rfl)
    cases q1.symm.trans hcr
    cases q2.symm.trans (State.methodFound?_of_named nN (by decide))
    cases q3.symm.trans nN
    rw [Launch.admits_selectMethod X.admits]; exact q4
  have B := fillPaysAny (l := l) (R := { R with cells := R.cells - kc, slots := R.slots - ks }) (sargs := args) (len := 3) (W := W) (below := below) C.1 (by rw [X.admits.platform]; exact hl) TT LL nF (u0 := ⟨u0, hu⟩) (self := a) (cell := cell) (cellS := cellU)
    (fun k q => by rw [u2] at q; cases q) (by rw [u2]; simp) (by rw [u3]) (by rw [u3]) (fldAt F1 u1 hal g17) hsel0 hne (fun q => by rw [q] at z6; cases z6) z7 (tk tyS (by rw [t17]; exact fits_refV_array _ ⟨u0, hu⟩))
    ⟨⟨ciB, iB, fB⟩, ⟨lB, rB, aB, sB⟩, fldAt F2 u1 hal gB⟩ (Vm.MethodsKnown.alikeC hal kk.1) (Vm.FramesKnown.alikeC hal kk.2) fT hO hkO hkindO
    (Cond.soleField_find fT LL.cls (wd 24 _ rfl) aB nB sB) (Cond.soleField_find fT LL.cls (wd 25 _ rfl) aD nD sD) (fun b => tk tyB (by rw [tB]; rfl)) (fun b => tk tyD (by rw [tD]; rfl)) hf hlo
  obtain ⟨cB, kB, q1, -, q3⟩ := isOf hZ hheap E
  obtain ⟨v, vm₁, Bt, -, XB, P, S⟩ := Y.virtualBack C.1 (y := tFill) (z := tFill) hown (mvX hT1 hZ rfl w1) (mvX hT1 hZ rfl w2) (nf _ hZ) (mvX hT1 hZ rfl w3) (wd 2 _ rfl) (by decide) B q1 (by rw [← hs1] at q3; exact q3) (g := mkF m pc ls (.ref a :: rest)) rfl (by rw [C.2.2.2.1]; exact hls) (Steps.refl _) (argsL := []) (rest := rest) (lenOf (d := "()Ljava/lang/Throwable;") (ps := []) (r := some (.object "java/lang/Throwable")) (by decide +kernel) rfl) rfl (by show 2 * 0 + _ ≤ _; omega) (Jvm.hb C.2.2.1 hd)
    (fun _ _ => ⟨rfl, by show 0 + 1 ≤ R.cells - kc; omega, by show 0 + 2752 ≤ R.slots - ks; omega, by show T.heap[a]? = _; rw [eT]; exact u1, by show T.heap[_]? = _; rw [eT]; exact hU⟩)
  obtain ⟨U, Ls, k1, n1⟩ := Bt
  obtain ⟨rfl, Cc, nn, p1, p2, p3, p4, p5, p6, p7, p8, p9⟩ := P
  dsimp only [Pt.U, Pt.locs, Pt.cells, Pt.slots] at *
  subst p7 p8 p9
  have same := XB.same
  have Kk : Keep h U.heap [a] := by
    rw [← hheap]
    refine ⟨same.2.1, fun x cx hx hn => ?_, fun x cx hx => ?_⟩
    · obtain ⟨c', r1, r2, r3, r4⟩ := same.2.2.2.2.2 x cx hx
      have hsl : c'.slots = cx.slots := Array.ext_getElem? fun i => r4 i fun q => hn (by
        simp only [List.nil_append, List.mem_cons, List.not_mem_nil, or_false, Loc.mk.injEq] at q
        rcases q with q | q | q <;> exact List.mem_singleton.mpr q.1)
      rw [show U.heap[x]? = some c' from r1, r2, hsl]
    · obtain ⟨c', r1, r2, r3, -⟩ := same.2.2.2.2.2 x cx hx
      exact ⟨c', r1, by rw [r2], by rw [r2], r3⟩
  have Un : Unt U.heap a := by
    obtain ⟨c', r1, r2, -⟩ := same.2.2.2.2.2 a cell (by rw [hheap]; exact u1)
    exact ⟨c', r1, by rw [r2]; exact u2, by rw [r2]; exact u3⟩
  have Fk : ∀ (n d : String) (t : FieldType) (v : Value), (Cond.lays rc tN n d).before a0 Z = true → parseFieldDescriptor d = some t → n ≠ "backtrace" → n ≠ "depth" → n ≠ "stackTrace" → Fld Z h a tN n d v → Fld Z U.heap a tN n d v := by
    intro n d t v wl ht b1 b2 b3 F
    obtain ⟨cell', cf, kf, j, f, y1, y2, y3, y4, y5, y6, y7⟩ := F
    cases u1.symm.trans y1
    obtain ⟨_, _, _, y8⟩ := Jvm.Free.BdW.found_ride hal ⟨_, _, _, y2⟩
    obtain ⟨nm1, -⟩ := State.fieldFound?_type y8 ht
    obtain ⟨-, dF, hdF, xF⟩ := Cond.laysAt (args := args) hcr hkr y8 (mvX hT1 hZ rfl wl)
    have o1 := Cond.laysApart hdF hdB xF xB (by rw [nm1, nB]; exact b1)
    have o2 := Cond.laysApart hdF hdD xF xD (by rw [nm1, nD]; exact b2)
    have o3 := Cond.laysApart hdF hdS xF xS (by rw [nm1, m17]; exact b3)
    exact ⟨Cc, cf, kf, j, f, p2, y2, y3, by rw [p4]; exact y4, by rw [p4]; exact y5, by rw [p3]; exact y6, by rw [p6 _ o1 o2 o3]; exact y7⟩
  have X2 := (now_back X (by rw [hs1]; exact XB)).mono (Nat.le_refl _) (show ks + (0 + nn) ≤ ks + 2752 by omega)
  obtain ⟨s₂, o, S₂, r⟩ := K _ Kk (E.keep Kk) Un Fk p e s vm0 m args below meth c U _ C X2 rfl (N.app (fun y hy => by
    simp only [List.nil_append, List.mem_cons, List.not_mem_nil, or_false] at hy
    rcases hy with rfl | rfl | rfl <;> exact ga)) (O.keep Kk (one_ge ga)) (H.keep Kk (safeC E (Or.inr hs) vm0 C.2.1.alike (fun x hx => (H.2.2.2 x hx).2))) Kw
  exact ⟨s₂, o, S.trans S₂, r⟩
end Fl2

end Jvm.OwnW
namespace Jvm.Pilot.@@N@@
open Jvm Jvm.ClassFile Sem Op Lib Jvm.Free Jvm.Stand Jvm.LawKit Jvm.RoadKit Bundle Jvm.OwnW Jvm.Pilot.@@N@@.Jvm.D
def pad : Nat → List Value → List Slot
 | 0, _ => []
 | n + 1, [] => .unset :: pad n []
 | n + 1, v :: vs => .val v :: pad n vs
theorem pad_eq : ∀ (n : Nat) (vs : List Value), vs.length ≤ n → pad n vs = vs.map Slot.val ++ List.replicate (n - vs.length) Slot.unset
 | 0, [], _ => rfl
 | n + 1, [], _ => by rw [pad, pad_eq n [] (Nat.zero_le _)]; simp [List.replicate_succ]
 | n + 1, v :: vs, h => by rw [pad, pad_eq n vs (Nat.le_of_succ_le_succ h)]; simp
theorem fill_eq : ∀ (vs : List Value) (acc : Array Slot), vs.all (fun v => v.category != 2) = true → vs.foldl (fun acc v => if v.category = 2 then (acc.push (.val v)).push .second else acc.push (.val v)) acc = acc ++ (vs.map Slot.val).toArray
 | [], acc, _ => by simp
 | v :: vs, acc, h => by
  rw [List.all_cons, Bool.and_eq_true] at h
  rw [List.foldl_cons, if_neg (by simpa using h.1), fill_eq vs _ h.2]; simp
theorem ef {vs : List Value} {n : Nat} (hc : vs.all (fun v => v.category != 2) = true) (hl : Nat.ble vs.length n = true) (m : MethodId) : entryFrame m vs.toArray n = mkF m 0 (pad n vs).toArray [] := by
 rw [pad_eq n vs (Nat.le_of_ble_eq_true hl)]
 simp only [entryFrame, argsToLocals, List.foldl_toArray', List.size_toArray, fill_eq vs #[] hc]
 simp
abbrev Wds (Z : State) (a0 : Array Value) : Prop := ∀ d ∈ tables_1, d.before a0 Z = true
theorem w0 {Z : State} {a0 : Array Value} (hw : Wds Z a0) : (Jvm.Cond.methodLink "com/example/record_guard/recordguard/conflict/SerializationFailureExceptionNotInCallersSnapshotPinLaw" (12 : Nat) ({ cls := "com/example/record_guard/recordguard/conflict/SerializationFailureExceptionNotInCallersSnapshotPinLaw", name := "mk", desc := "(ICCC)Ljava/lang/String;" } : Jvm.MethodName)).before a0 Z = true := hw _ (List.mem_of_getElem? (i := 0) rfl)
theorem w1 {Z : State} {a0 : Array Value} (hw : Wds Z a0) : (Jvm.Cond.static ({ cls := "com/example/record_guard/recordguard/conflict/SerializationFailureExceptionNotInCallersSnapshotPinLaw", name := "mk", desc := "(ICCC)Ljava/lang/String;" } : Jvm.MethodName)).before a0 Z = true := hw _ (List.mem_of_getElem? (i := 1) rfl)
theorem w2 {Z : State} {a0 : Array Value} (hw : Wds Z a0) : (Jvm.Cond.initialized "com/example/record_guard/recordguard/conflict/SerializationFailureExceptionNotInCallersSnapshotPinLaw").before a0 Z = true := hw _ (List.mem_of_getElem? (i := 2) rfl)
theorem w3 {Z : State} {a0 : Array Value} (hw : Wds Z a0) : (Jvm.Cond.code ({ cls := "com/example/record_guard/recordguard/conflict/SerializationFailureExceptionNotInCallersSnapshotPinLaw", name := "mk", desc := "(ICCC)Ljava/lang/String;" } : Jvm.MethodName) method_2_code (4 : Nat) (Option.some (Jvm.ClassFile.FieldType.object "java/lang/String"))).before a0 Z = true := hw _ (List.mem_of_getElem? (i := 3) rfl)
theorem w4 {Z : State} {a0 : Array Value} (hw : Wds Z a0) : (Jvm.Cond.classLink "com/example/record_guard/recordguard/conflict/SerializationFailureExceptionNotInCallersSnapshotPinLaw" (7 : Nat) "java/lang/String").before a0 Z = true := hw _ (List.mem_of_getElem? (i := 4) rfl)
theorem w5 {Z : State} {a0 : Array Value} (hw : Wds Z a0) : (Jvm.Cond.instantiable "java/lang/String" (4 : Nat)).before a0 Z = true := hw _ (List.mem_of_getElem? (i := 5) rfl)
theorem w6 {Z : State} {a0 : Array Value} (hw : Wds Z a0) : (Jvm.Cond.initialized "java/lang/String").before a0 Z = true := hw _ (List.mem_of_getElem? (i := 6) rfl)
theorem w7 {Z : State} {a0 : Array Value} (hw : Wds Z a0) : (Jvm.Cond.arrayClass Jvm.ClassFile.FieldType.char).before a0 Z = true := hw _ (List.mem_of_getElem? (i := 7) rfl)
theorem w8 {Z : State} {a0 : Array Value} (hw : Wds Z a0) : (Jvm.Cond.methodLink "com/example/record_guard/recordguard/conflict/SerializationFailureExceptionNotInCallersSnapshotPinLaw" (9 : Nat) ({ cls := "java/lang/String", name := "<init>", desc := "([C)V" } : Jvm.MethodName)).before a0 Z = true := hw _ (List.mem_of_getElem? (i := 8) rfl)
theorem w9 {Z : State} {a0 : Array Value} (hw : Wds Z a0) : (Jvm.Cond.instanceMethod ({ cls := "java/lang/String", name := "<init>", desc := "([C)V" } : Jvm.MethodName)).before a0 Z = true := hw _ (List.mem_of_getElem? (i := 9) rfl)
theorem w10 {Z : State} {a0 : Array Value} (hw : Wds Z a0) : (Jvm.Cond.code ({ cls := "java/lang/String", name := "<init>", desc := "([C)V" } : Jvm.MethodName) jdk_42_method_3_code (2 : Nat) (Option.none : Option Jvm.ClassFile.FieldType)).before a0 Z = true := hw _ (List.mem_of_getElem? (i := 10) rfl)
theorem w11 {Z : State} {a0 : Array Value} (hw : Wds Z a0) : (Jvm.Cond.methodLink "java/lang/String" (27 : Nat) ({ cls := "java/lang/String", name := "<init>", desc := "([CIILjava/lang/Void;)V" } : Jvm.MethodName)).before a0 Z = true := hw _ (List.mem_of_getElem? (i := 11) rfl)
theorem w12 {Z : State} {a0 : Array Value} (hw : Wds Z a0) : (Jvm.Cond.instanceMethod ({ cls := "java/lang/String", name := "<init>", desc := "([CIILjava/lang/Void;)V" } : Jvm.MethodName)).before a0 Z = true := hw _ (List.mem_of_getElem? (i := 12) rfl)
theorem w14 {Z : State} {a0 : Array Value} (hw : Wds Z a0) : (Jvm.Cond.code ({ cls := "java/lang/String", name := "<init>", desc := "([CIILjava/lang/Void;)V" } : Jvm.MethodName) jdk_42_method_149_code (6 : Nat) (Option.none : Option Jvm.ClassFile.FieldType)).before a0 Z = true := hw _ (List.mem_of_getElem? (i := 14) rfl)
theorem w15 {Z : State} {a0 : Array Value} (hw : Wds Z a0) : (Jvm.Cond.methodLink "java/lang/String" (1 : Nat) ({ cls := "java/lang/Object", name := "<init>", desc := "()V" } : Jvm.MethodName)).before a0 Z = true := hw _ (List.mem_of_getElem? (i := 15) rfl)
theorem w16 {Z : State} {a0 : Array Value} (hw : Wds Z a0) : (Jvm.Cond.instanceMethod ({ cls := "java/lang/Object", name := "<init>", desc := "()V" } : Jvm.MethodName)).before a0 Z = true := hw _ (List.mem_of_getElem? (i := 16) rfl)
theorem w17 {Z : State} {a0 : Array Value} (hw : Wds Z a0) : (Jvm.Cond.code ({ cls := "java/lang/Object", name := "<init>", desc := "()V" } : Jvm.MethodName) object_method_1_code (1 : Nat) (Option.none : Option Jvm.ClassFile.FieldType)).before a0 Z = true := hw _ (List.mem_of_getElem? (i := 17) rfl)
theorem w19 {Z : State} {a0 : Array Value} (hw : Wds Z a0) : (Jvm.Cond.arrayClass Jvm.ClassFile.FieldType.byte).before a0 Z = true := hw _ (List.mem_of_getElem? (i := 19) rfl)
theorem w20 {Z : State} {a0 : Array Value} (hw : Wds Z a0) : (Jvm.Cond.laysFinal "java/lang/String" "java/lang/String" "value" "[B").before a0 Z = true := hw _ (List.mem_of_getElem? (i := 20) rfl)
theorem w21 {Z : State} {a0 : Array Value} (hw : Wds Z a0) : (Jvm.Cond.laysFinal "java/lang/String" "java/lang/String" "coder" "B").before a0 Z = true := hw _ (List.mem_of_getElem? (i := 21) rfl)
theorem w22 {Z : State} {a0 : Array Value} (hw : Wds Z a0) : (Jvm.Cond.soleField "java/lang/String" "value").before a0 Z = true := hw _ (List.mem_of_getElem? (i := 22) rfl)
theorem w23 {Z : State} {a0 : Array Value} (hw : Wds Z a0) : (Jvm.Cond.soleField "java/lang/String" "coder").before a0 Z = true := hw _ (List.mem_of_getElem? (i := 23) rfl)
theorem w24 {Z : State} {a0 : Array Value} (hw : Wds Z a0) : (Jvm.Cond.fieldLink "java/lang/String" (9 : Nat) "java/lang/String" "value" "[B").before a0 Z = true := hw _ (List.mem_of_getElem? (i := 24) rfl)
theorem w25 {Z : State} {a0 : Array Value} (hw : Wds Z a0) : (Jvm.Cond.fieldLink "java/lang/String" (15 : Nat) "java/lang/String" "coder" "B").before a0 Z = true := hw _ (List.mem_of_getElem? (i := 25) rfl)
theorem w26 {Z : State} {a0 : Array Value} (hw : Wds Z a0) : (Jvm.Cond.methodLink "com/example/record_guard/recordguard/conflict/SerializationFailureExceptionNotInCallersSnapshotPinLaw" (18 : Nat) ({ cls := "java/lang/String", name := "valueOf", desc := "(C)Ljava/lang/String;" } : Jvm.MethodName)).before a0 Z = true := hw _ (List.mem_of_getElem? (i := 26) rfl)
theorem w27 {Z : State} {a0 : Array Value} (hw : Wds Z a0) : (Jvm.Cond.static ({ cls := "java/lang/String", name := "valueOf", desc := "(C)Ljava/lang/String;" } : Jvm.MethodName)).before a0 Z = true := hw _ (List.mem_of_getElem? (i := 27) rfl)
theorem w28 {Z : State} {a0 : Array Value} (hw : Wds Z a0) : (Jvm.Cond.code ({ cls := "java/lang/String", name := "valueOf", desc := "(C)Ljava/lang/String;" } : Jvm.MethodName) jdk_42_method_139_code (1 : Nat) (Option.some (Jvm.ClassFile.FieldType.object "java/lang/String"))).before a0 Z = true := hw _ (List.mem_of_getElem? (i := 28) rfl)
theorem w29 {Z : State} {a0 : Array Value} (hw : Wds Z a0) : (Jvm.Cond.fieldLink "java/lang/String" (38 : Nat) "java/lang/String" "COMPACT_STRINGS" "Z").before a0 Z = true := hw _ (List.mem_of_getElem? (i := 29) rfl)
theorem w30 {Z : State} {a0 : Array Value} (hw : Wds Z a0) : (Jvm.Cond.methodLink "java/lang/String" (1015 : Nat) ({ cls := "java/lang/StringLatin1", name := "canEncode", desc := "(C)Z" } : Jvm.MethodName)).before a0 Z = true := hw _ (List.mem_of_getElem? (i := 30) rfl)
theorem w31 {Z : State} {a0 : Array Value} (hw : Wds Z a0) : (Jvm.Cond.static ({ cls := "java/lang/StringLatin1", name := "canEncode", desc := "(C)Z" } : Jvm.MethodName)).before a0 Z = true := hw _ (List.mem_of_getElem? (i := 31) rfl)
theorem w32 {Z : State} {a0 : Array Value} (hw : Wds Z a0) : (Jvm.Cond.initialized "java/lang/StringLatin1").before a0 Z = true := hw _ (List.mem_of_getElem? (i := 32) rfl)
theorem w33 {Z : State} {a0 : Array Value} (hw : Wds Z a0) : (Jvm.Cond.code ({ cls := "java/lang/StringLatin1", name := "canEncode", desc := "(C)Z" } : Jvm.MethodName) jdk_43_method_3_code (1 : Nat) (Option.some Jvm.ClassFile.FieldType.boolean)).before a0 Z = true := hw _ (List.mem_of_getElem? (i := 33) rfl)
theorem w34 {Z : State} {a0 : Array Value} (hw : Wds Z a0) : (Jvm.Cond.classLink "java/lang/String" (10 : Nat) "java/lang/String").before a0 Z = true := hw _ (List.mem_of_getElem? (i := 34) rfl)
theorem w35 {Z : State} {a0 : Array Value} (hw : Wds Z a0) : (Jvm.Cond.methodLink "java/lang/String" (1018 : Nat) ({ cls := "java/lang/StringLatin1", name := "toBytes", desc := "(C)[B" } : Jvm.MethodName)).before a0 Z = true := hw _ (List.mem_of_getElem? (i := 35) rfl)
theorem w36 {Z : State} {a0 : Array Value} (hw : Wds Z a0) : (Jvm.Cond.static ({ cls := "java/lang/StringLatin1", name := "toBytes", desc := "(C)[B" } : Jvm.MethodName)).before a0 Z = true := hw _ (List.mem_of_getElem? (i := 36) rfl)
theorem w37 {Z : State} {a0 : Array Value} (hw : Wds Z a0) : (Jvm.Cond.code ({ cls := "java/lang/StringLatin1", name := "toBytes", desc := "(C)[B" } : Jvm.MethodName) jdk_43_method_46_code (1 : Nat) (Option.some (Jvm.ClassFile.FieldType.array Jvm.ClassFile.FieldType.byte))).before a0 Z = true := hw _ (List.mem_of_getElem? (i := 37) rfl)
theorem w38 {Z : State} {a0 : Array Value} (hw : Wds Z a0) : (Jvm.Cond.methodLink "java/lang/String" (209 : Nat) ({ cls := "java/lang/String", name := "<init>", desc := "([BB)V" } : Jvm.MethodName)).before a0 Z = true := hw _ (List.mem_of_getElem? (i := 38) rfl)
theorem w39 {Z : State} {a0 : Array Value} (hw : Wds Z a0) : (Jvm.Cond.instanceMethod ({ cls := "java/lang/String", name := "<init>", desc := "([BB)V" } : Jvm.MethodName)).before a0 Z = true := hw _ (List.mem_of_getElem? (i := 39) rfl)
theorem w40 {Z : State} {a0 : Array Value} (hw : Wds Z a0) : (Jvm.Cond.code ({ cls := "java/lang/String", name := "<init>", desc := "([BB)V" } : Jvm.MethodName) jdk_42_method_151_code (3 : Nat) (Option.none : Option Jvm.ClassFile.FieldType)).before a0 Z = true := hw _ (List.mem_of_getElem? (i := 40) rfl)
theorem w41 {Z : State} {a0 : Array Value} (hw : Wds Z a0) : (Jvm.Cond.methodLink "com/example/record_guard/recordguard/conflict/SerializationFailureExceptionNotInCallersSnapshotPinLaw" (22 : Nat) ({ cls := "com/example/record_guard/recordguard/conflict/SerializationFailureException", name := "notInCallersSnapshot", desc := "(Ljava/lang/String;)Lcom/example/record_guard/recordguard/conflict/SerializationFailureException;" } : Jvm.MethodName)).before a0 Z = true := hw _ (List.mem_of_getElem? (i := 41) rfl)
theorem w42 {Z : State} {a0 : Array Value} (hw : Wds Z a0) : (Jvm.Cond.static ({ cls := "com/example/record_guard/recordguard/conflict/SerializationFailureException", name := "notInCallersSnapshot", desc := "(Ljava/lang/String;)Lcom/example/record_guard/recordguard/conflict/SerializationFailureException;" } : Jvm.MethodName)).before a0 Z = true := hw _ (List.mem_of_getElem? (i := 42) rfl)
theorem w43 {Z : State} {a0 : Array Value} (hw : Wds Z a0) : (Jvm.Cond.initialized "com/example/record_guard/recordguard/conflict/SerializationFailureException").before a0 Z = true := hw _ (List.mem_of_getElem? (i := 43) rfl)
theorem w44 {Z : State} {a0 : Array Value} (hw : Wds Z a0) : (Jvm.Cond.code ({ cls := "com/example/record_guard/recordguard/conflict/SerializationFailureException", name := "notInCallersSnapshot", desc := "(Ljava/lang/String;)Lcom/example/record_guard/recordguard/conflict/SerializationFailureException;" } : Jvm.MethodName) prog_64_method_4_code (1 : Nat) (Option.some (Jvm.ClassFile.FieldType.object "com/example/record_guard/recordguard/conflict/SerializationFailureException"))).before a0 Z = true := hw _ (List.mem_of_getElem? (i := 44) rfl)
theorem w45 {Z : State} {a0 : Array Value} (hw : Wds Z a0) : (Jvm.Cond.classLink "com/example/record_guard/recordguard/conflict/SerializationFailureException" (25 : Nat) "com/example/record_guard/recordguard/conflict/SerializationFailureException").before a0 Z = true := hw _ (List.mem_of_getElem? (i := 45) rfl)
theorem w46 {Z : State} {a0 : Array Value} (hw : Wds Z a0) : (Jvm.Cond.instantiable "com/example/record_guard/recordguard/conflict/SerializationFailureException" (6 : Nat)).before a0 Z = true := hw _ (List.mem_of_getElem? (i := 46) rfl)
theorem w47 {Z : State} {a0 : Array Value} (hw : Wds Z a0) : (Jvm.Cond.classLink "com/example/record_guard/recordguard/conflict/SerializationFailureException" (1 : Nat) "java/lang/StringBuilder").before a0 Z = true := hw _ (List.mem_of_getElem? (i := 47) rfl)
theorem w48 {Z : State} {a0 : Array Value} (hw : Wds Z a0) : (Jvm.Cond.instantiable "java/lang/StringBuilder" (4 : Nat)).before a0 Z = true := hw _ (List.mem_of_getElem? (i := 48) rfl)
theorem w49 {Z : State} {a0 : Array Value} (hw : Wds Z a0) : (Jvm.Cond.initialized "java/lang/StringBuilder").before a0 Z = true := hw _ (List.mem_of_getElem? (i := 49) rfl)
theorem w50 {Z : State} {a0 : Array Value} (hw : Wds Z a0) : (Jvm.Cond.methodLink "com/example/record_guard/recordguard/conflict/SerializationFailureException" (3 : Nat) ({ cls := "java/lang/StringBuilder", name := "<init>", desc := "()V" } : Jvm.MethodName)).before a0 Z = true := hw _ (List.mem_of_getElem? (i := 50) rfl)
theorem w51 {Z : State} {a0 : Array Value} (hw : Wds Z a0) : (Jvm.Cond.instanceMethod ({ cls := "java/lang/StringBuilder", name := "<init>", desc := "()V" } : Jvm.MethodName)).before a0 Z = true := hw _ (List.mem_of_getElem? (i := 51) rfl)
theorem w52 {Z : State} {a0 : Array Value} (hw : Wds Z a0) : (Jvm.Cond.code ({ cls := "java/lang/StringBuilder", name := "<init>", desc := "()V" } : Jvm.MethodName) jdk_67_method_1_code (1 : Nat) (Option.none : Option Jvm.ClassFile.FieldType)).before a0 Z = true := hw _ (List.mem_of_getElem? (i := 52) rfl)
theorem w53 {Z : State} {a0 : Array Value} (hw : Wds Z a0) : (Jvm.Cond.methodLink "java/lang/StringBuilder" (1 : Nat) ({ cls := "java/lang/AbstractStringBuilder", name := "<init>", desc := "(I)V" } : Jvm.MethodName)).before a0 Z = true := hw _ (List.mem_of_getElem? (i := 53) rfl)
theorem w54 {Z : State} {a0 : Array Value} (hw : Wds Z a0) : (Jvm.Cond.instanceMethod ({ cls := "java/lang/AbstractStringBuilder", name := "<init>", desc := "(I)V" } : Jvm.MethodName)).before a0 Z = true := hw _ (List.mem_of_getElem? (i := 54) rfl)
theorem w57 {Z : State} {a0 : Array Value} (hw : Wds Z a0) : (Jvm.Cond.initialized "java/lang/AbstractStringBuilder").before a0 Z = true := hw _ (List.mem_of_getElem? (i := 57) rfl)
theorem w58 {Z : State} {a0 : Array Value} (hw : Wds Z a0) : (Jvm.Cond.code ({ cls := "java/lang/AbstractStringBuilder", name := "<init>", desc := "(I)V" } : Jvm.MethodName) jdk_68_method_2_code (2 : Nat) (Option.none : Option Jvm.ClassFile.FieldType)).before a0 Z = true := hw _ (List.mem_of_getElem? (i := 58) rfl)
theorem w59 {Z : State} {a0 : Array Value} (hw : Wds Z a0) : (Jvm.Cond.methodLink "java/lang/AbstractStringBuilder" (3 : Nat) ({ cls := "java/lang/Object", name := "<init>", desc := "()V" } : Jvm.MethodName)).before a0 Z = true := hw _ (List.mem_of_getElem? (i := 59) rfl)
theorem w60 {Z : State} {a0 : Array Value} (hw : Wds Z a0) : (Jvm.Cond.fieldLink "java/lang/AbstractStringBuilder" (18 : Nat) "java/lang/String" "COMPACT_STRINGS" "Z").before a0 Z = true := hw _ (List.mem_of_getElem? (i := 60) rfl)
theorem w61 {Z : State} {a0 : Array Value} (hw : Wds Z a0) : (Jvm.Cond.fieldLink "java/lang/AbstractStringBuilder" (15 : Nat) "java/lang/AbstractStringBuilder" "value" "[B").before a0 Z = true := hw _ (List.mem_of_getElem? (i := 61) rfl)
theorem w62 {Z : State} {a0 : Array Value} (hw : Wds Z a0) : (Jvm.Cond.lays "java/lang/StringBuilder" "java/lang/AbstractStringBuilder" "value" "[B").before a0 Z = true := hw _ (List.mem_of_getElem? (i := 62) rfl)
theorem w63 {Z : State} {a0 : Array Value} (hw : Wds Z a0) : (Jvm.Cond.fieldLink "java/lang/AbstractStringBuilder" (22 : Nat) "java/lang/AbstractStringBuilder" "coder" "B").before a0 Z = true := hw _ (List.mem_of_getElem? (i := 63) rfl)
theorem w64 {Z : State} {a0 : Array Value} (hw : Wds Z a0) : (Jvm.Cond.lays "java/lang/StringBuilder" "java/lang/AbstractStringBuilder" "coder" "B").before a0 Z = true := hw _ (List.mem_of_getElem? (i := 64) rfl)
theorem w65 {Z : State} {a0 : Array Value} (hw : Wds Z a0) : (Jvm.Cond.methodLink "com/example/record_guard/recordguard/conflict/SerializationFailureException" (7 : Nat) ({ cls := "java/lang/StringBuilder", name := "append", desc := "(Ljava/lang/String;)Ljava/lang/StringBuilder;" } : Jvm.MethodName)).before a0 Z = true := hw _ (List.mem_of_getElem? (i := 65) rfl)
theorem w66 {Z : State} {a0 : Array Value} (hw : Wds Z a0) : (Jvm.Cond.declares ({ cls := "java/lang/StringBuilder", name := "append", desc := "(Ljava/lang/String;)Ljava/lang/StringBuilder;" } : Jvm.MethodName)).before a0 Z = true := hw _ (List.mem_of_getElem? (i := 66) rfl)
theorem w67 {Z : State} {a0 : Array Value} (hw : Wds Z a0) : (Jvm.Cond.instanceMethod ({ cls := "java/lang/StringBuilder", name := "append", desc := "(Ljava/lang/String;)Ljava/lang/StringBuilder;" } : Jvm.MethodName)).before a0 Z = true := hw _ (List.mem_of_getElem? (i := 67) rfl)
theorem w68 {Z : State} {a0 : Array Value} (hw : Wds Z a0) : (Jvm.Cond.selects "java/lang/StringBuilder" ({ cls := "java/lang/StringBuilder", name := "append", desc := "(Ljava/lang/String;)Ljava/lang/StringBuilder;" } : Jvm.MethodName) ({ cls := "java/lang/StringBuilder", name := "append", desc := "(Ljava/lang/String;)Ljava/lang/StringBuilder;" } : Jvm.MethodName)).before a0 Z = true := hw _ (List.mem_of_getElem? (i := 68) rfl)
theorem w69 {Z : State} {a0 : Array Value} (hw : Wds Z a0) : (Jvm.Cond.code ({ cls := "java/lang/StringBuilder", name := "append", desc := "(Ljava/lang/String;)Ljava/lang/StringBuilder;" } : Jvm.MethodName) jdk_67_method_7_code (2 : Nat) (Option.some (Jvm.ClassFile.FieldType.object "java/lang/StringBuilder"))).before a0 Z = true := hw _ (List.mem_of_getElem? (i := 69) rfl)
theorem w70 {Z : State} {a0 : Array Value} (hw : Wds Z a0) : (Jvm.Cond.methodLink "java/lang/StringBuilder" (29 : Nat) ({ cls := "java/lang/AbstractStringBuilder", name := "append", desc := "(Ljava/lang/String;)Ljava/lang/AbstractStringBuilder;" } : Jvm.MethodName)).before a0 Z = true := hw _ (List.mem_of_getElem? (i := 70) rfl)
theorem w71 {Z : State} {a0 : Array Value} (hw : Wds Z a0) : (Jvm.Cond.instanceMethod ({ cls := "java/lang/AbstractStringBuilder", name := "append", desc := "(Ljava/lang/String;)Ljava/lang/AbstractStringBuilder;" } : Jvm.MethodName)).before a0 Z = true := hw _ (List.mem_of_getElem? (i := 71) rfl)
theorem w72 {Z : State} {a0 : Array Value} (hw : Wds Z a0) : (Jvm.Cond.superclass "java/lang/StringBuilder" "java/lang/AbstractStringBuilder").before a0 Z = true := hw _ (List.mem_of_getElem? (i := 72) rfl)
theorem w73 {Z : State} {a0 : Array Value} (hw : Wds Z a0) : (Jvm.Cond.declares ({ cls := "java/lang/AbstractStringBuilder", name := "append", desc := "(Ljava/lang/String;)Ljava/lang/AbstractStringBuilder;" } : Jvm.MethodName)).before a0 Z = true := hw _ (List.mem_of_getElem? (i := 73) rfl)
theorem w74 {Z : State} {a0 : Array Value} (hw : Wds Z a0) : (Jvm.Cond.code ({ cls := "java/lang/AbstractStringBuilder", name := "append", desc := "(Ljava/lang/String;)Ljava/lang/AbstractStringBuilder;" } : Jvm.MethodName) jdk_68_method_22_code (3 : Nat) (Option.some (Jvm.ClassFile.FieldType.object "java/lang/AbstractStringBuilder"))).before a0 Z = true := hw _ (List.mem_of_getElem? (i := 74) rfl)
theorem w75 {Z : State} {a0 : Array Value} (hw : Wds Z a0) : (Jvm.Cond.methodLink "java/lang/AbstractStringBuilder" (32 : Nat) ({ cls := "java/lang/String", name := "length", desc := "()I" } : Jvm.MethodName)).before a0 Z = true := hw _ (List.mem_of_getElem? (i := 75) rfl)
theorem w76 {Z : State} {a0 : Array Value} (hw : Wds Z a0) : (Jvm.Cond.declares ({ cls := "java/lang/String", name := "length", desc := "()I" } : Jvm.MethodName)).before a0 Z = true := hw _ (List.mem_of_getElem? (i := 76) rfl)
theorem w77 {Z : State} {a0 : Array Value} (hw : Wds Z a0) : (Jvm.Cond.instanceMethod ({ cls := "java/lang/String", name := "length", desc := "()I" } : Jvm.MethodName)).before a0 Z = true := hw _ (List.mem_of_getElem? (i := 77) rfl)
theorem w78 {Z : State} {a0 : Array Value} (hw : Wds Z a0) : (Jvm.Cond.selects "java/lang/String" ({ cls := "java/lang/String", name := "length", desc := "()I" } : Jvm.MethodName) ({ cls := "java/lang/String", name := "length", desc := "()I" } : Jvm.MethodName)).before a0 Z = true := hw _ (List.mem_of_getElem? (i := 78) rfl)
theorem w79 {Z : State} {a0 : Array Value} (hw : Wds Z a0) : (Jvm.Cond.code ({ cls := "java/lang/String", name := "length", desc := "()I" } : Jvm.MethodName) jdk_42_method_54_code (1 : Nat) (Option.some Jvm.ClassFile.FieldType.int)).before a0 Z = true := hw _ (List.mem_of_getElem? (i := 79) rfl)
theorem w80 {Z : State} {a0 : Array Value} (hw : Wds Z a0) : (Jvm.Cond.methodLink "java/lang/String" (335 : Nat) ({ cls := "java/lang/String", name := "coder", desc := "()B" } : Jvm.MethodName)).before a0 Z = true := hw _ (List.mem_of_getElem? (i := 80) rfl)
theorem w81 {Z : State} {a0 : Array Value} (hw : Wds Z a0) : (Jvm.Cond.declares ({ cls := "java/lang/String", name := "coder", desc := "()B" } : Jvm.MethodName)).before a0 Z = true := hw _ (List.mem_of_getElem? (i := 81) rfl)
theorem w82 {Z : State} {a0 : Array Value} (hw : Wds Z a0) : (Jvm.Cond.instanceMethod ({ cls := "java/lang/String", name := "coder", desc := "()B" } : Jvm.MethodName)).before a0 Z = true := hw _ (List.mem_of_getElem? (i := 82) rfl)
theorem w83 {Z : State} {a0 : Array Value} (hw : Wds Z a0) : (Jvm.Cond.selects "java/lang/String" ({ cls := "java/lang/String", name := "coder", desc := "()B" } : Jvm.MethodName) ({ cls := "java/lang/String", name := "coder", desc := "()B" } : Jvm.MethodName)).before a0 Z = true := hw _ (List.mem_of_getElem? (i := 83) rfl)
theorem w84 {Z : State} {a0 : Array Value} (hw : Wds Z a0) : (Jvm.Cond.code ({ cls := "java/lang/String", name := "coder", desc := "()B" } : Jvm.MethodName) jdk_42_method_152_code (1 : Nat) (Option.some Jvm.ClassFile.FieldType.byte)).before a0 Z = true := hw _ (List.mem_of_getElem? (i := 84) rfl)
theorem w85 {Z : State} {a0 : Array Value} (hw : Wds Z a0) : (Jvm.Cond.fieldLink "java/lang/AbstractStringBuilder" (79 : Nat) "java/lang/AbstractStringBuilder" "count" "I").before a0 Z = true := hw _ (List.mem_of_getElem? (i := 85) rfl)
theorem w86 {Z : State} {a0 : Array Value} (hw : Wds Z a0) : (Jvm.Cond.lays "java/lang/StringBuilder" "java/lang/AbstractStringBuilder" "count" "I").before a0 Z = true := hw _ (List.mem_of_getElem? (i := 86) rfl)
theorem w87 {Z : State} {a0 : Array Value} (hw : Wds Z a0) : (Jvm.Cond.methodLink "java/lang/AbstractStringBuilder" (100 : Nat) ({ cls := "java/lang/AbstractStringBuilder", name := "ensureCapacityInternal", desc := "(I)V" } : Jvm.MethodName)).before a0 Z = true := hw _ (List.mem_of_getElem? (i := 87) rfl)
theorem w88 {Z : State} {a0 : Array Value} (hw : Wds Z a0) : (Jvm.Cond.instanceMethod ({ cls := "java/lang/AbstractStringBuilder", name := "ensureCapacityInternal", desc := "(I)V" } : Jvm.MethodName)).before a0 Z = true := hw _ (List.mem_of_getElem? (i := 88) rfl)
theorem w90 {Z : State} {a0 : Array Value} (hw : Wds Z a0) : (Jvm.Cond.selects "java/lang/StringBuilder" ({ cls := "java/lang/AbstractStringBuilder", name := "ensureCapacityInternal", desc := "(I)V" } : Jvm.MethodName) ({ cls := "java/lang/AbstractStringBuilder", name := "ensureCapacityInternal", desc := "(I)V" } : Jvm.MethodName)).before a0 Z = true := hw _ (List.mem_of_getElem? (i := 90) rfl)
theorem w91 {Z : State} {a0 : Array Value} (hw : Wds Z a0) : (Jvm.Cond.code ({ cls := "java/lang/AbstractStringBuilder", name := "ensureCapacityInternal", desc := "(I)V" } : Jvm.MethodName) jdk_68_method_9_code (3 : Nat) (Option.none : Option Jvm.ClassFile.FieldType)).before a0 Z = true := hw _ (List.mem_of_getElem? (i := 91) rfl)
theorem w92 {Z : State} {a0 : Array Value} (hw : Wds Z a0) : (Jvm.Cond.methodLink "java/lang/AbstractStringBuilder" (208 : Nat) ({ cls := "java/lang/AbstractStringBuilder", name := "putStringAt", desc := "(ILjava/lang/String;)V" } : Jvm.MethodName)).before a0 Z = true := hw _ (List.mem_of_getElem? (i := 92) rfl)
theorem w93 {Z : State} {a0 : Array Value} (hw : Wds Z a0) : (Jvm.Cond.instanceMethod ({ cls := "java/lang/AbstractStringBuilder", name := "putStringAt", desc := "(ILjava/lang/String;)V" } : Jvm.MethodName)).before a0 Z = true := hw _ (List.mem_of_getElem? (i := 93) rfl)
theorem w95 {Z : State} {a0 : Array Value} (hw : Wds Z a0) : (Jvm.Cond.selects "java/lang/StringBuilder" ({ cls := "java/lang/AbstractStringBuilder", name := "putStringAt", desc := "(ILjava/lang/String;)V" } : Jvm.MethodName) ({ cls := "java/lang/AbstractStringBuilder", name := "putStringAt", desc := "(ILjava/lang/String;)V" } : Jvm.MethodName)).before a0 Z = true := hw _ (List.mem_of_getElem? (i := 95) rfl)
theorem w96 {Z : State} {a0 : Array Value} (hw : Wds Z a0) : (Jvm.Cond.code ({ cls := "java/lang/AbstractStringBuilder", name := "putStringAt", desc := "(ILjava/lang/String;)V" } : Jvm.MethodName) jdk_68_method_73_code (3 : Nat) (Option.none : Option Jvm.ClassFile.FieldType)).before a0 Z = true := hw _ (List.mem_of_getElem? (i := 96) rfl)
theorem w97 {Z : State} {a0 : Array Value} (hw : Wds Z a0) : (Jvm.Cond.methodLink "java/lang/AbstractStringBuilder" (397 : Nat) ({ cls := "java/lang/AbstractStringBuilder", name := "inflateIfNeededFor", desc := "(Ljava/lang/String;)V" } : Jvm.MethodName)).before a0 Z = true := hw _ (List.mem_of_getElem? (i := 97) rfl)
theorem w98 {Z : State} {a0 : Array Value} (hw : Wds Z a0) : (Jvm.Cond.instanceMethod ({ cls := "java/lang/AbstractStringBuilder", name := "inflateIfNeededFor", desc := "(Ljava/lang/String;)V" } : Jvm.MethodName)).before a0 Z = true := hw _ (List.mem_of_getElem? (i := 98) rfl)
theorem w100 {Z : State} {a0 : Array Value} (hw : Wds Z a0) : (Jvm.Cond.selects "java/lang/StringBuilder" ({ cls := "java/lang/AbstractStringBuilder", name := "inflateIfNeededFor", desc := "(Ljava/lang/String;)V" } : Jvm.MethodName) ({ cls := "java/lang/AbstractStringBuilder", name := "inflateIfNeededFor", desc := "(Ljava/lang/String;)V" } : Jvm.MethodName)).before a0 Z = true := hw _ (List.mem_of_getElem? (i := 100) rfl)
theorem w101 {Z : State} {a0 : Array Value} (hw : Wds Z a0) : (Jvm.Cond.code ({ cls := "java/lang/AbstractStringBuilder", name := "inflateIfNeededFor", desc := "(Ljava/lang/String;)V" } : Jvm.MethodName) jdk_68_method_71_code (2 : Nat) (Option.none : Option Jvm.ClassFile.FieldType)).before a0 Z = true := hw _ (List.mem_of_getElem? (i := 101) rfl)
theorem w102 {Z : State} {a0 : Array Value} (hw : Wds Z a0) : (Jvm.Cond.methodLink "java/lang/AbstractStringBuilder" (40 : Nat) ({ cls := "java/lang/String", name := "coder", desc := "()B" } : Jvm.MethodName)).before a0 Z = true := hw _ (List.mem_of_getElem? (i := 102) rfl)
theorem w103 {Z : State} {a0 : Array Value} (hw : Wds Z a0) : (Jvm.Cond.methodLink "java/lang/AbstractStringBuilder" (399 : Nat) ({ cls := "java/lang/String", name := "getBytes", desc := "([BIB)V" } : Jvm.MethodName)).before a0 Z = true := hw _ (List.mem_of_getElem? (i := 103) rfl)
theorem w104 {Z : State} {a0 : Array Value} (hw : Wds Z a0) : (Jvm.Cond.declares ({ cls := "java/lang/String", name := "getBytes", desc := "([BIB)V" } : Jvm.MethodName)).before a0 Z = true := hw _ (List.mem_of_getElem? (i := 104) rfl)
theorem w105 {Z : State} {a0 : Array Value} (hw : Wds Z a0) : (Jvm.Cond.instanceMethod ({ cls := "java/lang/String", name := "getBytes", desc := "([BIB)V" } : Jvm.MethodName)).before a0 Z = true := hw _ (List.mem_of_getElem? (i := 105) rfl)
theorem w106 {Z : State} {a0 : Array Value} (hw : Wds Z a0) : (Jvm.Cond.selects "java/lang/String" ({ cls := "java/lang/String", name := "getBytes", desc := "([BIB)V" } : Jvm.MethodName) ({ cls := "java/lang/String", name := "getBytes", desc := "([BIB)V" } : Jvm.MethodName)).before a0 Z = true := hw _ (List.mem_of_getElem? (i := 106) rfl)
theorem w107 {Z : State} {a0 : Array Value} (hw : Wds Z a0) : (Jvm.Cond.code ({ cls := "java/lang/String", name := "getBytes", desc := "([BIB)V" } : Jvm.MethodName) jdk_42_method_147_code (4 : Nat) (Option.none : Option Jvm.ClassFile.FieldType)).before a0 Z = true := hw _ (List.mem_of_getElem? (i := 107) rfl)
theorem w108 {Z : State} {a0 : Array Value} (hw : Wds Z a0) : (Jvm.Cond.methodLink "java/lang/String" (212 : Nat) ({ cls := "java/lang/System", name := "arraycopy", desc := "(Ljava/lang/Object;ILjava/lang/Object;II)V" } : Jvm.MethodName)).before a0 Z = true := hw _ (List.mem_of_getElem? (i := 108) rfl)
theorem w109 {Z : State} {a0 : Array Value} (hw : Wds Z a0) : (Jvm.Cond.static ({ cls := "java/lang/System", name := "arraycopy", desc := "(Ljava/lang/Object;ILjava/lang/Object;II)V" } : Jvm.MethodName)).before a0 Z = true := hw _ (List.mem_of_getElem? (i := 109) rfl)
theorem w110 {Z : State} {a0 : Array Value} (hw : Wds Z a0) : (Jvm.Cond.initialized "java/lang/System").before a0 Z = true := hw _ (List.mem_of_getElem? (i := 110) rfl)
theorem w111 {Z : State} {a0 : Array Value} (hw : Wds Z a0) : (Jvm.Cond.native ({ cls := "java/lang/System", name := "arraycopy", desc := "(Ljava/lang/Object;ILjava/lang/Object;II)V" } : Jvm.MethodName)).before a0 Z = true := hw _ (List.mem_of_getElem? (i := 111) rfl)
theorem w113 {Z : State} {a0 : Array Value} (hw : Wds Z a0) : (Jvm.Cond.methodLink "java/lang/AbstractStringBuilder" (104 : Nat) ({ cls := "java/lang/AbstractStringBuilder", name := "newCapacity", desc := "(I)I" } : Jvm.MethodName)).before a0 Z = true := hw _ (List.mem_of_getElem? (i := 113) rfl)
theorem w114 {Z : State} {a0 : Array Value} (hw : Wds Z a0) : (Jvm.Cond.instanceMethod ({ cls := "java/lang/AbstractStringBuilder", name := "newCapacity", desc := "(I)I" } : Jvm.MethodName)).before a0 Z = true := hw _ (List.mem_of_getElem? (i := 114) rfl)
theorem w116 {Z : State} {a0 : Array Value} (hw : Wds Z a0) : (Jvm.Cond.selects "java/lang/StringBuilder" ({ cls := "java/lang/AbstractStringBuilder", name := "newCapacity", desc := "(I)I" } : Jvm.MethodName) ({ cls := "java/lang/AbstractStringBuilder", name := "newCapacity", desc := "(I)I" } : Jvm.MethodName)).before a0 Z = true := hw _ (List.mem_of_getElem? (i := 116) rfl)
theorem w117 {Z : State} {a0 : Array Value} (hw : Wds Z a0) : (Jvm.Cond.code ({ cls := "java/lang/AbstractStringBuilder", name := "newCapacity", desc := "(I)I" } : Jvm.MethodName) jdk_68_method_10_code (6 : Nat) (Option.some Jvm.ClassFile.FieldType.int)).before a0 Z = true := hw _ (List.mem_of_getElem? (i := 117) rfl)
theorem w118 {Z : State} {a0 : Array Value} (hw : Wds Z a0) : (Jvm.Cond.methodLink "java/lang/AbstractStringBuilder" (114 : Nat) ({ cls := "jdk/internal/util/ArraysSupport", name := "newLength", desc := "(III)I" } : Jvm.MethodName)).before a0 Z = true := hw _ (List.mem_of_getElem? (i := 118) rfl)
theorem w119 {Z : State} {a0 : Array Value} (hw : Wds Z a0) : (Jvm.Cond.static ({ cls := "jdk/internal/util/ArraysSupport", name := "newLength", desc := "(III)I" } : Jvm.MethodName)).before a0 Z = true := hw _ (List.mem_of_getElem? (i := 119) rfl)
theorem w120 {Z : State} {a0 : Array Value} (hw : Wds Z a0) : (Jvm.Cond.initialized "jdk/internal/util/ArraysSupport").before a0 Z = true := hw _ (List.mem_of_getElem? (i := 120) rfl)
theorem w121 {Z : State} {a0 : Array Value} (hw : Wds Z a0) : (Jvm.Cond.code ({ cls := "jdk/internal/util/ArraysSupport", name := "newLength", desc := "(III)I" } : Jvm.MethodName) jdk_48_method_27_code (4 : Nat) (Option.some Jvm.ClassFile.FieldType.int)).before a0 Z = true := hw _ (List.mem_of_getElem? (i := 121) rfl)
theorem w122 {Z : State} {a0 : Array Value} (hw : Wds Z a0) : (Jvm.Cond.methodLink "jdk/internal/util/ArraysSupport" (194 : Nat) ({ cls := "java/lang/Math", name := "max", desc := "(II)I" } : Jvm.MethodName)).before a0 Z = true := hw _ (List.mem_of_getElem? (i := 122) rfl)
theorem w123 {Z : State} {a0 : Array Value} (hw : Wds Z a0) : (Jvm.Cond.static ({ cls := "java/lang/Math", name := "max", desc := "(II)I" } : Jvm.MethodName)).before a0 Z = true := hw _ (List.mem_of_getElem? (i := 123) rfl)
theorem w124 {Z : State} {a0 : Array Value} (hw : Wds Z a0) : (Jvm.Cond.initialized "java/lang/Math").before a0 Z = true := hw _ (List.mem_of_getElem? (i := 124) rfl)
theorem w125 {Z : State} {a0 : Array Value} (hw : Wds Z a0) : (Jvm.Cond.code ({ cls := "java/lang/Math", name := "max", desc := "(II)I" } : Jvm.MethodName) jdk_29_method_65_code (2 : Nat) (Option.some Jvm.ClassFile.FieldType.int)).before a0 Z = true := hw _ (List.mem_of_getElem? (i := 125) rfl)
theorem w126 {Z : State} {a0 : Array Value} (hw : Wds Z a0) : (Jvm.Cond.constant "jdk/internal/util/ArraysSupport" (200 : Nat) (2147483639 : Int32)).before a0 Z = true := hw _ (List.mem_of_getElem? (i := 126) rfl)
theorem w127 {Z : State} {a0 : Array Value} (hw : Wds Z a0) : (Jvm.Cond.constant "java/lang/AbstractStringBuilder" (39 : Nat) (2147483647 : Int32)).before a0 Z = true := hw _ (List.mem_of_getElem? (i := 127) rfl)
theorem w128 {Z : State} {a0 : Array Value} (hw : Wds Z a0) : (Jvm.Cond.methodLink "java/lang/AbstractStringBuilder" (108 : Nat) ({ cls := "java/util/Arrays", name := "copyOf", desc := "([BI)[B" } : Jvm.MethodName)).before a0 Z = true := hw _ (List.mem_of_getElem? (i := 128) rfl)
theorem w129 {Z : State} {a0 : Array Value} (hw : Wds Z a0) : (Jvm.Cond.static ({ cls := "java/util/Arrays", name := "copyOf", desc := "([BI)[B" } : Jvm.MethodName)).before a0 Z = true := hw _ (List.mem_of_getElem? (i := 129) rfl)
theorem w130 {Z : State} {a0 : Array Value} (hw : Wds Z a0) : (Jvm.Cond.initialized "java/util/Arrays").before a0 Z = true := hw _ (List.mem_of_getElem? (i := 130) rfl)
theorem w131 {Z : State} {a0 : Array Value} (hw : Wds Z a0) : (Jvm.Cond.code ({ cls := "java/util/Arrays", name := "copyOf", desc := "([BI)[B" } : Jvm.MethodName) jdk_65_method_121_code (3 : Nat) (Option.some (Jvm.ClassFile.FieldType.array Jvm.ClassFile.FieldType.byte))).before a0 Z = true := hw _ (List.mem_of_getElem? (i := 131) rfl)
theorem w132 {Z : State} {a0 : Array Value} (hw : Wds Z a0) : (Jvm.Cond.methodLink "java/util/Arrays" (304 : Nat) ({ cls := "java/lang/Math", name := "min", desc := "(II)I" } : Jvm.MethodName)).before a0 Z = true := hw _ (List.mem_of_getElem? (i := 132) rfl)
theorem w133 {Z : State} {a0 : Array Value} (hw : Wds Z a0) : (Jvm.Cond.static ({ cls := "java/lang/Math", name := "min", desc := "(II)I" } : Jvm.MethodName)).before a0 Z = true := hw _ (List.mem_of_getElem? (i := 133) rfl)
theorem w134 {Z : State} {a0 : Array Value} (hw : Wds Z a0) : (Jvm.Cond.code ({ cls := "java/lang/Math", name := "min", desc := "(II)I" } : Jvm.MethodName) jdk_29_method_69_code (2 : Nat) (Option.some Jvm.ClassFile.FieldType.int)).before a0 Z = true := hw _ (List.mem_of_getElem? (i := 134) rfl)
theorem w135 {Z : State} {a0 : Array Value} (hw : Wds Z a0) : (Jvm.Cond.methodLink "java/util/Arrays" (150 : Nat) ({ cls := "java/lang/System", name := "arraycopy", desc := "(Ljava/lang/Object;ILjava/lang/Object;II)V" } : Jvm.MethodName)).before a0 Z = true := hw _ (List.mem_of_getElem? (i := 135) rfl)
theorem w136 {Z : State} {a0 : Array Value} (hw : Wds Z a0) : (Jvm.Cond.methodLink "com/example/record_guard/recordguard/conflict/SerializationFailureException" (13 : Nat) ({ cls := "java/lang/StringBuilder", name := "toString", desc := "()Ljava/lang/String;" } : Jvm.MethodName)).before a0 Z = true := hw _ (List.mem_of_getElem? (i := 136) rfl)
theorem w137 {Z : State} {a0 : Array Value} (hw : Wds Z a0) : (Jvm.Cond.declares ({ cls := "java/lang/StringBuilder", name := "toString", desc := "()Ljava/lang/String;" } : Jvm.MethodName)).before a0 Z = true := hw _ (List.mem_of_getElem? (i := 137) rfl)
theorem w138 {Z : State} {a0 : Array Value} (hw : Wds Z a0) : (Jvm.Cond.instanceMethod ({ cls := "java/lang/StringBuilder", name := "toString", desc := "()Ljava/lang/String;" } : Jvm.MethodName)).before a0 Z = true := hw _ (List.mem_of_getElem? (i := 138) rfl)
theorem w139 {Z : State} {a0 : Array Value} (hw : Wds Z a0) : (Jvm.Cond.selects "java/lang/StringBuilder" ({ cls := "java/lang/StringBuilder", name := "toString", desc := "()Ljava/lang/String;" } : Jvm.MethodName) ({ cls := "java/lang/StringBuilder", name := "toString", desc := "()Ljava/lang/String;" } : Jvm.MethodName)).before a0 Z = true := hw _ (List.mem_of_getElem? (i := 139) rfl)
theorem w140 {Z : State} {a0 : Array Value} (hw : Wds Z a0) : (Jvm.Cond.code ({ cls := "java/lang/StringBuilder", name := "toString", desc := "()Ljava/lang/String;" } : Jvm.MethodName) jdk_67_method_42_code (1 : Nat) (Option.some (Jvm.ClassFile.FieldType.object "java/lang/String"))).before a0 Z = true := hw _ (List.mem_of_getElem? (i := 140) rfl)
theorem w141 {Z : State} {a0 : Array Value} (hw : Wds Z a0) : (Jvm.Cond.classLink "java/lang/StringBuilder" (18 : Nat) "java/lang/String").before a0 Z = true := hw _ (List.mem_of_getElem? (i := 141) rfl)
theorem w142 {Z : State} {a0 : Array Value} (hw : Wds Z a0) : (Jvm.Cond.methodLink "java/lang/StringBuilder" (137 : Nat) ({ cls := "java/lang/String", name := "<init>", desc := "(Ljava/lang/StringBuilder;)V" } : Jvm.MethodName)).before a0 Z = true := hw _ (List.mem_of_getElem? (i := 142) rfl)
theorem w143 {Z : State} {a0 : Array Value} (hw : Wds Z a0) : (Jvm.Cond.instanceMethod ({ cls := "java/lang/String", name := "<init>", desc := "(Ljava/lang/StringBuilder;)V" } : Jvm.MethodName)).before a0 Z = true := hw _ (List.mem_of_getElem? (i := 143) rfl)
theorem w144 {Z : State} {a0 : Array Value} (hw : Wds Z a0) : (Jvm.Cond.code ({ cls := "java/lang/String", name := "<init>", desc := "(Ljava/lang/StringBuilder;)V" } : Jvm.MethodName) jdk_42_method_53_code (2 : Nat) (Option.none : Option Jvm.ClassFile.FieldType)).before a0 Z = true := hw _ (List.mem_of_getElem? (i := 144) rfl)
theorem w145 {Z : State} {a0 : Array Value} (hw : Wds Z a0) : (Jvm.Cond.methodLink "java/lang/String" (489 : Nat) ({ cls := "java/lang/String", name := "<init>", desc := "(Ljava/lang/AbstractStringBuilder;Ljava/lang/Void;)V" } : Jvm.MethodName)).before a0 Z = true := hw _ (List.mem_of_getElem? (i := 145) rfl)
theorem w146 {Z : State} {a0 : Array Value} (hw : Wds Z a0) : (Jvm.Cond.instanceMethod ({ cls := "java/lang/String", name := "<init>", desc := "(Ljava/lang/AbstractStringBuilder;Ljava/lang/Void;)V" } : Jvm.MethodName)).before a0 Z = true := hw _ (List.mem_of_getElem? (i := 146) rfl)
theorem w147 {Z : State} {a0 : Array Value} (hw : Wds Z a0) : (Jvm.Cond.code ({ cls := "java/lang/String", name := "<init>", desc := "(Ljava/lang/AbstractStringBuilder;Ljava/lang/Void;)V" } : Jvm.MethodName) jdk_42_method_150_code (5 : Nat) (Option.none : Option Jvm.ClassFile.FieldType)).before a0 Z = true := hw _ (List.mem_of_getElem? (i := 147) rfl)
theorem w148 {Z : State} {a0 : Array Value} (hw : Wds Z a0) : (Jvm.Cond.methodLink "java/lang/String" (552 : Nat) ({ cls := "java/lang/AbstractStringBuilder", name := "getValue", desc := "()[B" } : Jvm.MethodName)).before a0 Z = true := hw _ (List.mem_of_getElem? (i := 148) rfl)
theorem w149 {Z : State} {a0 : Array Value} (hw : Wds Z a0) : (Jvm.Cond.declares ({ cls := "java/lang/AbstractStringBuilder", name := "getValue", desc := "()[B" } : Jvm.MethodName)).before a0 Z = true := hw _ (List.mem_of_getElem? (i := 149) rfl)
theorem w150 {Z : State} {a0 : Array Value} (hw : Wds Z a0) : (Jvm.Cond.instanceMethod ({ cls := "java/lang/AbstractStringBuilder", name := "getValue", desc := "()[B" } : Jvm.MethodName)).before a0 Z = true := hw _ (List.mem_of_getElem? (i := 150) rfl)
theorem w151 {Z : State} {a0 : Array Value} (hw : Wds Z a0) : (Jvm.Cond.selects "java/lang/StringBuilder" ({ cls := "java/lang/AbstractStringBuilder", name := "getValue", desc := "()[B" } : Jvm.MethodName) ({ cls := "java/lang/AbstractStringBuilder", name := "getValue", desc := "()[B" } : Jvm.MethodName)).before a0 Z = true := hw _ (List.mem_of_getElem? (i := 151) rfl)
theorem w152 {Z : State} {a0 : Array Value} (hw : Wds Z a0) : (Jvm.Cond.code ({ cls := "java/lang/AbstractStringBuilder", name := "getValue", desc := "()[B" } : Jvm.MethodName) jdk_68_method_64_code (1 : Nat) (Option.some (Jvm.ClassFile.FieldType.array Jvm.ClassFile.FieldType.byte))).before a0 Z = true := hw _ (List.mem_of_getElem? (i := 152) rfl)
theorem w153 {Z : State} {a0 : Array Value} (hw : Wds Z a0) : (Jvm.Cond.methodLink "java/lang/String" (549 : Nat) ({ cls := "java/lang/AbstractStringBuilder", name := "length", desc := "()I" } : Jvm.MethodName)).before a0 Z = true := hw _ (List.mem_of_getElem? (i := 153) rfl)
theorem w154 {Z : State} {a0 : Array Value} (hw : Wds Z a0) : (Jvm.Cond.declares ({ cls := "java/lang/AbstractStringBuilder", name := "length", desc := "()I" } : Jvm.MethodName)).before a0 Z = true := hw _ (List.mem_of_getElem? (i := 154) rfl)
theorem w155 {Z : State} {a0 : Array Value} (hw : Wds Z a0) : (Jvm.Cond.instanceMethod ({ cls := "java/lang/AbstractStringBuilder", name := "length", desc := "()I" } : Jvm.MethodName)).before a0 Z = true := hw _ (List.mem_of_getElem? (i := 155) rfl)
theorem w156 {Z : State} {a0 : Array Value} (hw : Wds Z a0) : (Jvm.Cond.selects "java/lang/StringBuilder" ({ cls := "java/lang/AbstractStringBuilder", name := "length", desc := "()I" } : Jvm.MethodName) ({ cls := "java/lang/StringBuilder", name := "length", desc := "()I" } : Jvm.MethodName)).before a0 Z = true := hw _ (List.mem_of_getElem? (i := 156) rfl)
theorem w157 {Z : State} {a0 : Array Value} (hw : Wds Z a0) : (Jvm.Cond.instanceMethod ({ cls := "java/lang/StringBuilder", name := "length", desc := "()I" } : Jvm.MethodName)).before a0 Z = true := hw _ (List.mem_of_getElem? (i := 157) rfl)
theorem w158 {Z : State} {a0 : Array Value} (hw : Wds Z a0) : (Jvm.Cond.code ({ cls := "java/lang/StringBuilder", name := "length", desc := "()I" } : Jvm.MethodName) jdk_67_method_93_code (1 : Nat) (Option.some Jvm.ClassFile.FieldType.int)).before a0 Z = true := hw _ (List.mem_of_getElem? (i := 158) rfl)
theorem w159 {Z : State} {a0 : Array Value} (hw : Wds Z a0) : (Jvm.Cond.methodLink "java/lang/StringBuilder" (343 : Nat) ({ cls := "java/lang/AbstractStringBuilder", name := "length", desc := "()I" } : Jvm.MethodName)).before a0 Z = true := hw _ (List.mem_of_getElem? (i := 159) rfl)
theorem w160 {Z : State} {a0 : Array Value} (hw : Wds Z a0) : (Jvm.Cond.code ({ cls := "java/lang/AbstractStringBuilder", name := "length", desc := "()I" } : Jvm.MethodName) jdk_68_method_6_code (1 : Nat) (Option.some Jvm.ClassFile.FieldType.int)).before a0 Z = true := hw _ (List.mem_of_getElem? (i := 160) rfl)
theorem w161 {Z : State} {a0 : Array Value} (hw : Wds Z a0) : (Jvm.Cond.methodLink "java/lang/String" (1047 : Nat) ({ cls := "java/lang/AbstractStringBuilder", name := "isLatin1", desc := "()Z" } : Jvm.MethodName)).before a0 Z = true := hw _ (List.mem_of_getElem? (i := 161) rfl)
theorem w162 {Z : State} {a0 : Array Value} (hw : Wds Z a0) : (Jvm.Cond.declares ({ cls := "java/lang/AbstractStringBuilder", name := "isLatin1", desc := "()Z" } : Jvm.MethodName)).before a0 Z = true := hw _ (List.mem_of_getElem? (i := 162) rfl)
theorem w163 {Z : State} {a0 : Array Value} (hw : Wds Z a0) : (Jvm.Cond.instanceMethod ({ cls := "java/lang/AbstractStringBuilder", name := "isLatin1", desc := "()Z" } : Jvm.MethodName)).before a0 Z = true := hw _ (List.mem_of_getElem? (i := 163) rfl)
theorem w164 {Z : State} {a0 : Array Value} (hw : Wds Z a0) : (Jvm.Cond.selects "java/lang/StringBuilder" ({ cls := "java/lang/AbstractStringBuilder", name := "isLatin1", desc := "()Z" } : Jvm.MethodName) ({ cls := "java/lang/AbstractStringBuilder", name := "isLatin1", desc := "()Z" } : Jvm.MethodName)).before a0 Z = true := hw _ (List.mem_of_getElem? (i := 164) rfl)
theorem w165 {Z : State} {a0 : Array Value} (hw : Wds Z a0) : (Jvm.Cond.code ({ cls := "java/lang/AbstractStringBuilder", name := "isLatin1", desc := "()Z" } : Jvm.MethodName) jdk_68_method_68_code (1 : Nat) (Option.some Jvm.ClassFile.FieldType.boolean)).before a0 Z = true := hw _ (List.mem_of_getElem? (i := 165) rfl)
theorem w166 {Z : State} {a0 : Array Value} (hw : Wds Z a0) : (Jvm.Cond.methodLink "java/lang/String" (54 : Nat) ({ cls := "java/util/Arrays", name := "copyOfRange", desc := "([BII)[B" } : Jvm.MethodName)).before a0 Z = true := hw _ (List.mem_of_getElem? (i := 166) rfl)
theorem w167 {Z : State} {a0 : Array Value} (hw : Wds Z a0) : (Jvm.Cond.static ({ cls := "java/util/Arrays", name := "copyOfRange", desc := "([BII)[B" } : Jvm.MethodName)).before a0 Z = true := hw _ (List.mem_of_getElem? (i := 167) rfl)
theorem w168 {Z : State} {a0 : Array Value} (hw : Wds Z a0) : (Jvm.Cond.code ({ cls := "java/util/Arrays", name := "copyOfRange", desc := "([BII)[B" } : Jvm.MethodName) jdk_65_method_132_code (3 : Nat) (Option.some (Jvm.ClassFile.FieldType.array Jvm.ClassFile.FieldType.byte))).before a0 Z = true := hw _ (List.mem_of_getElem? (i := 168) rfl)
theorem w169 {Z : State} {a0 : Array Value} (hw : Wds Z a0) : (Jvm.Cond.methodLink "java/util/Arrays" (310 : Nat) ({ cls := "[B", name := "clone", desc := "()Ljava/lang/Object;" } : Jvm.MethodName)).before a0 Z = true := hw _ (List.mem_of_getElem? (i := 169) rfl)
theorem w170 {Z : State} {a0 : Array Value} (hw : Wds Z a0) : (Jvm.Cond.sameMethod "[B" "java/lang/Object" "clone" "()Ljava/lang/Object;").before a0 Z = true := hw _ (List.mem_of_getElem? (i := 170) rfl)
theorem w172 {Z : State} {a0 : Array Value} (hw : Wds Z a0) : (Jvm.Cond.instanceMethod ({ cls := "java/lang/Object", name := "clone", desc := "()Ljava/lang/Object;" } : Jvm.MethodName)).before a0 Z = true := hw _ (List.mem_of_getElem? (i := 172) rfl)
theorem w173 {Z : State} {a0 : Array Value} (hw : Wds Z a0) : (Jvm.Cond.selects "[B" ({ cls := "[B", name := "clone", desc := "()Ljava/lang/Object;" } : Jvm.MethodName) ({ cls := "java/lang/Object", name := "clone", desc := "()Ljava/lang/Object;" } : Jvm.MethodName)).before a0 Z = true := hw _ (List.mem_of_getElem? (i := 173) rfl)
theorem w174 {Z : State} {a0 : Array Value} (hw : Wds Z a0) : (Jvm.Cond.native ({ cls := "java/lang/Object", name := "clone", desc := "()Ljava/lang/Object;" } : Jvm.MethodName)).before a0 Z = true := hw _ (List.mem_of_getElem? (i := 174) rfl)
theorem w175 {Z : State} {a0 : Array Value} (hw : Wds Z a0) : (Jvm.Cond.castable "[B" "java/lang/Cloneable").before a0 Z = true := hw _ (List.mem_of_getElem? (i := 175) rfl)
theorem w176 {Z : State} {a0 : Array Value} (hw : Wds Z a0) : (Jvm.Cond.classLink "java/util/Arrays" (311 : Nat) "[B").before a0 Z = true := hw _ (List.mem_of_getElem? (i := 176) rfl)
theorem w178 {Z : State} {a0 : Array Value} (hw : Wds Z a0) : (Jvm.Cond.methodLink "com/example/record_guard/recordguard/conflict/SerializationFailureException" (29 : Nat) ({ cls := "com/example/record_guard/recordguard/conflict/SerializationFailureException", name := "<init>", desc := "(Ljava/lang/String;)V" } : Jvm.MethodName)).before a0 Z = true := hw _ (List.mem_of_getElem? (i := 178) rfl)
theorem w179 {Z : State} {a0 : Array Value} (hw : Wds Z a0) : (Jvm.Cond.instanceMethod ({ cls := "com/example/record_guard/recordguard/conflict/SerializationFailureException", name := "<init>", desc := "(Ljava/lang/String;)V" } : Jvm.MethodName)).before a0 Z = true := hw _ (List.mem_of_getElem? (i := 179) rfl)
theorem w180 {Z : State} {a0 : Array Value} (hw : Wds Z a0) : (Jvm.Cond.code ({ cls := "com/example/record_guard/recordguard/conflict/SerializationFailureException", name := "<init>", desc := "(Ljava/lang/String;)V" } : Jvm.MethodName) prog_64_method_2_code (2 : Nat) (Option.none : Option Jvm.ClassFile.FieldType)).before a0 Z = true := hw _ (List.mem_of_getElem? (i := 180) rfl)
theorem w181 {Z : State} {a0 : Array Value} (hw : Wds Z a0) : (Jvm.Cond.methodLink "com/example/record_guard/recordguard/conflict/SerializationFailureException" (22 : Nat) ({ cls := "com/example/record_guard/recordguard/conflict/ConcurrencyException", name := "<init>", desc := "(Ljava/lang/String;)V" } : Jvm.MethodName)).before a0 Z = true := hw _ (List.mem_of_getElem? (i := 181) rfl)
theorem w182 {Z : State} {a0 : Array Value} (hw : Wds Z a0) : (Jvm.Cond.instanceMethod ({ cls := "com/example/record_guard/recordguard/conflict/ConcurrencyException", name := "<init>", desc := "(Ljava/lang/String;)V" } : Jvm.MethodName)).before a0 Z = true := hw _ (List.mem_of_getElem? (i := 182) rfl)
theorem w184 {Z : State} {a0 : Array Value} (hw : Wds Z a0) : (Jvm.Cond.initialized "com/example/record_guard/recordguard/conflict/ConcurrencyException").before a0 Z = true := hw _ (List.mem_of_getElem? (i := 184) rfl)
theorem w185 {Z : State} {a0 : Array Value} (hw : Wds Z a0) : (Jvm.Cond.code ({ cls := "com/example/record_guard/recordguard/conflict/ConcurrencyException", name := "<init>", desc := "(Ljava/lang/String;)V" } : Jvm.MethodName) prog_58_method_1_code (2 : Nat) (Option.none : Option Jvm.ClassFile.FieldType)).before a0 Z = true := hw _ (List.mem_of_getElem? (i := 185) rfl)
theorem w186 {Z : State} {a0 : Array Value} (hw : Wds Z a0) : (Jvm.Cond.methodLink "com/example/record_guard/recordguard/conflict/ConcurrencyException" (1 : Nat) ({ cls := "java/lang/RuntimeException", name := "<init>", desc := "(Ljava/lang/String;)V" } : Jvm.MethodName)).before a0 Z = true := hw _ (List.mem_of_getElem? (i := 186) rfl)
theorem w187 {Z : State} {a0 : Array Value} (hw : Wds Z a0) : (Jvm.Cond.instanceMethod ({ cls := "java/lang/RuntimeException", name := "<init>", desc := "(Ljava/lang/String;)V" } : Jvm.MethodName)).before a0 Z = true := hw _ (List.mem_of_getElem? (i := 187) rfl)
theorem w189 {Z : State} {a0 : Array Value} (hw : Wds Z a0) : (Jvm.Cond.initialized "java/lang/RuntimeException").before a0 Z = true := hw _ (List.mem_of_getElem? (i := 189) rfl)
theorem w190 {Z : State} {a0 : Array Value} (hw : Wds Z a0) : (Jvm.Cond.code ({ cls := "java/lang/RuntimeException", name := "<init>", desc := "(Ljava/lang/String;)V" } : Jvm.MethodName) jdk_58_method_2_code (2 : Nat) (Option.none : Option Jvm.ClassFile.FieldType)).before a0 Z = true := hw _ (List.mem_of_getElem? (i := 190) rfl)
theorem w191 {Z : State} {a0 : Array Value} (hw : Wds Z a0) : (Jvm.Cond.methodLink "java/lang/RuntimeException" (7 : Nat) ({ cls := "java/lang/Exception", name := "<init>", desc := "(Ljava/lang/String;)V" } : Jvm.MethodName)).before a0 Z = true := hw _ (List.mem_of_getElem? (i := 191) rfl)
theorem w192 {Z : State} {a0 : Array Value} (hw : Wds Z a0) : (Jvm.Cond.instanceMethod ({ cls := "java/lang/Exception", name := "<init>", desc := "(Ljava/lang/String;)V" } : Jvm.MethodName)).before a0 Z = true := hw _ (List.mem_of_getElem? (i := 192) rfl)
theorem w195 {Z : State} {a0 : Array Value} (hw : Wds Z a0) : (Jvm.Cond.initialized "java/lang/Exception").before a0 Z = true := hw _ (List.mem_of_getElem? (i := 195) rfl)
theorem w196 {Z : State} {a0 : Array Value} (hw : Wds Z a0) : (Jvm.Cond.code ({ cls := "java/lang/Exception", name := "<init>", desc := "(Ljava/lang/String;)V" } : Jvm.MethodName) jdk_59_method_2_code (2 : Nat) (Option.none : Option Jvm.ClassFile.FieldType)).before a0 Z = true := hw _ (List.mem_of_getElem? (i := 196) rfl)
theorem w197 {Z : State} {a0 : Array Value} (hw : Wds Z a0) : (Jvm.Cond.methodLink "java/lang/Exception" (7 : Nat) ({ cls := "java/lang/Throwable", name := "<init>", desc := "(Ljava/lang/String;)V" } : Jvm.MethodName)).before a0 Z = true := hw _ (List.mem_of_getElem? (i := 197) rfl)
theorem w198 {Z : State} {a0 : Array Value} (hw : Wds Z a0) : (Jvm.Cond.instanceMethod ({ cls := "java/lang/Throwable", name := "<init>", desc := "(Ljava/lang/String;)V" } : Jvm.MethodName)).before a0 Z = true := hw _ (List.mem_of_getElem? (i := 198) rfl)
theorem w201 {Z : State} {a0 : Array Value} (hw : Wds Z a0) : (Jvm.Cond.initialized "java/lang/Throwable").before a0 Z = true := hw _ (List.mem_of_getElem? (i := 201) rfl)
theorem w202 {Z : State} {a0 : Array Value} (hw : Wds Z a0) : (Jvm.Cond.code ({ cls := "java/lang/Throwable", name := "<init>", desc := "(Ljava/lang/String;)V" } : Jvm.MethodName) jdk_78_method_2_code (2 : Nat) (Option.none : Option Jvm.ClassFile.FieldType)).before a0 Z = true := hw _ (List.mem_of_getElem? (i := 202) rfl)
theorem w203 {Z : State} {a0 : Array Value} (hw : Wds Z a0) : (Jvm.Cond.methodLink "java/lang/Throwable" (1 : Nat) ({ cls := "java/lang/Object", name := "<init>", desc := "()V" } : Jvm.MethodName)).before a0 Z = true := hw _ (List.mem_of_getElem? (i := 203) rfl)
theorem w204 {Z : State} {a0 : Array Value} (hw : Wds Z a0) : (Jvm.Cond.fieldLink "java/lang/Throwable" (7 : Nat) "java/lang/Throwable" "cause" "Ljava/lang/Throwable;").before a0 Z = true := hw _ (List.mem_of_getElem? (i := 204) rfl)
theorem w205 {Z : State} {a0 : Array Value} (hw : Wds Z a0) : (Jvm.Cond.lays "com/example/record_guard/recordguard/conflict/SerializationFailureException" "java/lang/Throwable" "cause" "Ljava/lang/Throwable;").before a0 Z = true := hw _ (List.mem_of_getElem? (i := 205) rfl)
theorem w206 {Z : State} {a0 : Array Value} (hw : Wds Z a0) : (Jvm.Cond.fieldLink "java/lang/Throwable" (13 : Nat) "java/lang/Throwable" "UNASSIGNED_STACK" "[Ljava/lang/StackTraceElement;").before a0 Z = true := hw _ (List.mem_of_getElem? (i := 206) rfl)
theorem w207 {Z : State} {a0 : Array Value} (hw : Wds Z a0) : (Jvm.Cond.fieldLink "java/lang/Throwable" (17 : Nat) "java/lang/Throwable" "stackTrace" "[Ljava/lang/StackTraceElement;").before a0 Z = true := hw _ (List.mem_of_getElem? (i := 207) rfl)
theorem w208 {Z : State} {a0 : Array Value} (hw : Wds Z a0) : (Jvm.Cond.lays "com/example/record_guard/recordguard/conflict/SerializationFailureException" "java/lang/Throwable" "stackTrace" "[Ljava/lang/StackTraceElement;").before a0 Z = true := hw _ (List.mem_of_getElem? (i := 208) rfl)
theorem w209 {Z : State} {a0 : Array Value} (hw : Wds Z a0) : (Jvm.Cond.fieldLink "java/lang/Throwable" (20 : Nat) "java/lang/Throwable" "SUPPRESSED_SENTINEL" "Ljava/util/List;").before a0 Z = true := hw _ (List.mem_of_getElem? (i := 209) rfl)
theorem w210 {Z : State} {a0 : Array Value} (hw : Wds Z a0) : (Jvm.Cond.fieldLink "java/lang/Throwable" (24 : Nat) "java/lang/Throwable" "suppressedExceptions" "Ljava/util/List;").before a0 Z = true := hw _ (List.mem_of_getElem? (i := 210) rfl)
theorem w211 {Z : State} {a0 : Array Value} (hw : Wds Z a0) : (Jvm.Cond.lays "com/example/record_guard/recordguard/conflict/SerializationFailureException" "java/lang/Throwable" "suppressedExceptions" "Ljava/util/List;").before a0 Z = true := hw _ (List.mem_of_getElem? (i := 211) rfl)
theorem w212 {Z : State} {a0 : Array Value} (hw : Wds Z a0) : (Jvm.Cond.methodLink "java/lang/Throwable" (27 : Nat) ({ cls := "java/lang/Throwable", name := "fillInStackTrace", desc := "()Ljava/lang/Throwable;" } : Jvm.MethodName)).before a0 Z = true := hw _ (List.mem_of_getElem? (i := 212) rfl)
theorem w213 {Z : State} {a0 : Array Value} (hw : Wds Z a0) : (Jvm.Cond.declares ({ cls := "java/lang/Throwable", name := "fillInStackTrace", desc := "()Ljava/lang/Throwable;" } : Jvm.MethodName)).before a0 Z = true := hw _ (List.mem_of_getElem? (i := 213) rfl)
theorem w214 {Z : State} {a0 : Array Value} (hw : Wds Z a0) : (Jvm.Cond.instanceMethod ({ cls := "java/lang/Throwable", name := "fillInStackTrace", desc := "()Ljava/lang/Throwable;" } : Jvm.MethodName)).before a0 Z = true := hw _ (List.mem_of_getElem? (i := 214) rfl)
theorem w215 {Z : State} {a0 : Array Value} (hw : Wds Z a0) : (Jvm.Cond.selects "com/example/record_guard/recordguard/conflict/SerializationFailureException" ({ cls := "java/lang/Throwable", name := "fillInStackTrace", desc := "()Ljava/lang/Throwable;" } : Jvm.MethodName) ({ cls := "java/lang/Throwable", name := "fillInStackTrace", desc := "()Ljava/lang/Throwable;" } : Jvm.MethodName)).before a0 Z = true := hw _ (List.mem_of_getElem? (i := 215) rfl)
theorem w216 {Z : State} {a0 : Array Value} (hw : Wds Z a0) : (Jvm.Cond.arrayOver (Jvm.ClassFile.FieldType.object "java/lang/Object")).before a0 Z = true := hw _ (List.mem_of_getElem? (i := 216) rfl)
theorem w217 {Z : State} {a0 : Array Value} (hw : Wds Z a0) : (Jvm.Cond.soleField "java/lang/Throwable" "backtrace").before a0 Z = true := hw _ (List.mem_of_getElem? (i := 217) rfl)
theorem w218 {Z : State} {a0 : Array Value} (hw : Wds Z a0) : (Jvm.Cond.soleField "java/lang/Throwable" "depth").before a0 Z = true := hw _ (List.mem_of_getElem? (i := 218) rfl)
theorem w219 {Z : State} {a0 : Array Value} (hw : Wds Z a0) : (Jvm.Cond.superclass "java/lang/Throwable" "java/lang/Object").before a0 Z = true := hw _ (List.mem_of_getElem? (i := 219) rfl)
theorem w220 {Z : State} {a0 : Array Value} (hw : Wds Z a0) : (Jvm.Cond.codeSync ({ cls := "java/lang/Throwable", name := "fillInStackTrace", desc := "()Ljava/lang/Throwable;" } : Jvm.MethodName) jdk_78_method_18_code (1 : Nat) (Option.some (Jvm.ClassFile.FieldType.object "java/lang/Throwable"))).before a0 Z = true := hw _ (List.mem_of_getElem? (i := 220) rfl)
theorem w221 {Z : State} {a0 : Array Value} (hw : Wds Z a0) : (Jvm.Cond.instanceMethod ({ cls := "java/lang/Throwable", name := "fillInStackTrace", desc := "(I)Ljava/lang/Throwable;" } : Jvm.MethodName)).before a0 Z = true := hw _ (List.mem_of_getElem? (i := 221) rfl)
theorem w222 {Z : State} {a0 : Array Value} (hw : Wds Z a0) : (Jvm.Cond.native ({ cls := "java/lang/Throwable", name := "fillInStackTrace", desc := "(I)Ljava/lang/Throwable;" } : Jvm.MethodName)).before a0 Z = true := hw _ (List.mem_of_getElem? (i := 222) rfl)
theorem w225 {Z : State} {a0 : Array Value} (hw : Wds Z a0) : (Jvm.Cond.methodLink "java/lang/Throwable" (202 : Nat) ({ cls := "java/lang/Throwable", name := "fillInStackTrace", desc := "(I)Ljava/lang/Throwable;" } : Jvm.MethodName)).before a0 Z = true := hw _ (List.mem_of_getElem? (i := 225) rfl)
theorem w230 {Z : State} {a0 : Array Value} (hw : Wds Z a0) : (Jvm.Cond.fieldLink "java/lang/Throwable" (198 : Nat) "java/lang/Throwable" "backtrace" "Ljava/lang/Object;").before a0 Z = true := hw _ (List.mem_of_getElem? (i := 230) rfl)
theorem w232 {Z : State} {a0 : Array Value} (hw : Wds Z a0) : (Jvm.Cond.laysStatic "java/lang/Throwable" "UNASSIGNED_STACK" "[Ljava/lang/StackTraceElement;").before a0 Z = true := hw _ (List.mem_of_getElem? (i := 232) rfl)
theorem w233 {Z : State} {a0 : Array Value} (hw : Wds Z a0) : (Jvm.Cond.laysStatic "java/lang/Throwable" "SUPPRESSED_SENTINEL" "Ljava/util/List;").before a0 Z = true := hw _ (List.mem_of_getElem? (i := 233) rfl)
theorem w234 {Z : State} {a0 : Array Value} (hw : Wds Z a0) : (Jvm.Cond.selects "com/example/record_guard/recordguard/conflict/SerializationFailureException" ({ cls := "java/lang/Throwable", name := "fillInStackTrace", desc := "(I)Ljava/lang/Throwable;" } : Jvm.MethodName) ({ cls := "java/lang/Throwable", name := "fillInStackTrace", desc := "(I)Ljava/lang/Throwable;" } : Jvm.MethodName)).before a0 Z = true := hw _ (List.mem_of_getElem? (i := 234) rfl)
theorem w235 {Z : State} {a0 : Array Value} (hw : Wds Z a0) : (Jvm.Cond.lays "com/example/record_guard/recordguard/conflict/SerializationFailureException" "java/lang/Throwable" "detailMessage" "Ljava/lang/String;").before a0 Z = true := hw _ (List.mem_of_getElem? (i := 235) rfl)
theorem w236 {Z : State} {a0 : Array Value} (hw : Wds Z a0) : (Jvm.Cond.lays "com/example/record_guard/recordguard/conflict/SerializationFailureException" "java/lang/Throwable" "backtrace" "Ljava/lang/Object;").before a0 Z = true := hw _ (List.mem_of_getElem? (i := 236) rfl)
theorem w237 {Z : State} {a0 : Array Value} (hw : Wds Z a0) : (Jvm.Cond.lays "com/example/record_guard/recordguard/conflict/SerializationFailureException" "java/lang/Throwable" "depth" "I").before a0 Z = true := hw _ (List.mem_of_getElem? (i := 237) rfl)
theorem w239 {Z : State} {a0 : Array Value} (hw : Wds Z a0) : (Jvm.Cond.fieldLink "java/lang/Throwable" (31 : Nat) "java/lang/Throwable" "detailMessage" "Ljava/lang/String;").before a0 Z = true := hw _ (List.mem_of_getElem? (i := 239) rfl)
theorem w240 {Z : State} {a0 : Array Value} (hw : Wds Z a0) : (Jvm.Cond.methodLink "com/example/record_guard/recordguard/conflict/SerializationFailureExceptionNotInCallersSnapshotPinLaw" (28 : Nat) ({ cls := "com/example/record_guard/recordguard/conflict/SerializationFailureException", name := "notInSnapshot", desc := "(Ljava/lang/String;)Lcom/example/record_guard/recordguard/conflict/SerializationFailureException;" } : Jvm.MethodName)).before a0 Z = true := hw _ (List.mem_of_getElem? (i := 240) rfl)
theorem w241 {Z : State} {a0 : Array Value} (hw : Wds Z a0) : (Jvm.Cond.static ({ cls := "com/example/record_guard/recordguard/conflict/SerializationFailureException", name := "notInSnapshot", desc := "(Ljava/lang/String;)Lcom/example/record_guard/recordguard/conflict/SerializationFailureException;" } : Jvm.MethodName)).before a0 Z = true := hw _ (List.mem_of_getElem? (i := 241) rfl)
theorem w242 {Z : State} {a0 : Array Value} (hw : Wds Z a0) : (Jvm.Cond.code ({ cls := "com/example/record_guard/recordguard/conflict/SerializationFailureException", name := "notInSnapshot", desc := "(Ljava/lang/String;)Lcom/example/record_guard/recordguard/conflict/SerializationFailureException;" } : Jvm.MethodName) prog_64_method_3_code (1 : Nat) (Option.some (Jvm.ClassFile.FieldType.object "com/example/record_guard/recordguard/conflict/SerializationFailureException"))).before a0 Z = true := hw _ (List.mem_of_getElem? (i := 242) rfl)
theorem w244 {Z : State} {a0 : Array Value} (hw : Wds Z a0) : (Jvm.Cond.methodLink "com/example/record_guard/recordguard/conflict/SerializationFailureExceptionNotInCallersSnapshotPinLaw" (31 : Nat) ({ cls := "com/example/record_guard/recordguard/conflict/SerializationFailureException", name := "getCause", desc := "()Ljava/lang/Throwable;" } : Jvm.MethodName)).before a0 Z = true := hw _ (List.mem_of_getElem? (i := 244) rfl)
theorem w245 {Z : State} {a0 : Array Value} (hw : Wds Z a0) : (Jvm.Cond.sameMethod "com/example/record_guard/recordguard/conflict/SerializationFailureException" "java/lang/Throwable" "getCause" "()Ljava/lang/Throwable;").before a0 Z = true := hw _ (List.mem_of_getElem? (i := 245) rfl)
theorem w246 {Z : State} {a0 : Array Value} (hw : Wds Z a0) : (Jvm.Cond.declares ({ cls := "java/lang/Throwable", name := "getCause", desc := "()Ljava/lang/Throwable;" } : Jvm.MethodName)).before a0 Z = true := hw _ (List.mem_of_getElem? (i := 246) rfl)
theorem w247 {Z : State} {a0 : Array Value} (hw : Wds Z a0) : (Jvm.Cond.instanceMethod ({ cls := "java/lang/Throwable", name := "getCause", desc := "()Ljava/lang/Throwable;" } : Jvm.MethodName)).before a0 Z = true := hw _ (List.mem_of_getElem? (i := 247) rfl)
theorem w248 {Z : State} {a0 : Array Value} (hw : Wds Z a0) : (Jvm.Cond.selects "com/example/record_guard/recordguard/conflict/SerializationFailureException" ({ cls := "com/example/record_guard/recordguard/conflict/SerializationFailureException", name := "getCause", desc := "()Ljava/lang/Throwable;" } : Jvm.MethodName) ({ cls := "java/lang/Throwable", name := "getCause", desc := "()Ljava/lang/Throwable;" } : Jvm.MethodName)).before a0 Z = true := hw _ (List.mem_of_getElem? (i := 248) rfl)
theorem w249 {Z : State} {a0 : Array Value} (hw : Wds Z a0) : (Jvm.Cond.codeSync ({ cls := "java/lang/Throwable", name := "getCause", desc := "()Ljava/lang/Throwable;" } : Jvm.MethodName) jdk_78_method_8_code (1 : Nat) (Option.some (Jvm.ClassFile.FieldType.object "java/lang/Throwable"))).before a0 Z = true := hw _ (List.mem_of_getElem? (i := 249) rfl)
theorem w250 {Z : State} {a0 : Array Value} (hw : Wds Z a0) : (Jvm.Cond.methodLink "com/example/record_guard/recordguard/conflict/SerializationFailureExceptionNotInCallersSnapshotPinLaw" (35 : Nat) ({ cls := "com/example/record_guard/recordguard/conflict/SerializationFailureException", name := "getMessage", desc := "()Ljava/lang/String;" } : Jvm.MethodName)).before a0 Z = true := hw _ (List.mem_of_getElem? (i := 250) rfl)
theorem w251 {Z : State} {a0 : Array Value} (hw : Wds Z a0) : (Jvm.Cond.sameMethod "com/example/record_guard/recordguard/conflict/SerializationFailureException" "java/lang/Throwable" "getMessage" "()Ljava/lang/String;").before a0 Z = true := hw _ (List.mem_of_getElem? (i := 251) rfl)
theorem w252 {Z : State} {a0 : Array Value} (hw : Wds Z a0) : (Jvm.Cond.declares ({ cls := "java/lang/Throwable", name := "getMessage", desc := "()Ljava/lang/String;" } : Jvm.MethodName)).before a0 Z = true := hw _ (List.mem_of_getElem? (i := 252) rfl)
theorem w253 {Z : State} {a0 : Array Value} (hw : Wds Z a0) : (Jvm.Cond.instanceMethod ({ cls := "java/lang/Throwable", name := "getMessage", desc := "()Ljava/lang/String;" } : Jvm.MethodName)).before a0 Z = true := hw _ (List.mem_of_getElem? (i := 253) rfl)
theorem w254 {Z : State} {a0 : Array Value} (hw : Wds Z a0) : (Jvm.Cond.selects "com/example/record_guard/recordguard/conflict/SerializationFailureException" ({ cls := "com/example/record_guard/recordguard/conflict/SerializationFailureException", name := "getMessage", desc := "()Ljava/lang/String;" } : Jvm.MethodName) ({ cls := "java/lang/Throwable", name := "getMessage", desc := "()Ljava/lang/String;" } : Jvm.MethodName)).before a0 Z = true := hw _ (List.mem_of_getElem? (i := 254) rfl)
theorem w255 {Z : State} {a0 : Array Value} (hw : Wds Z a0) : (Jvm.Cond.code ({ cls := "java/lang/Throwable", name := "getMessage", desc := "()Ljava/lang/String;" } : Jvm.MethodName) jdk_78_method_6_code (1 : Nat) (Option.some (Jvm.ClassFile.FieldType.object "java/lang/String"))).before a0 Z = true := hw _ (List.mem_of_getElem? (i := 255) rfl)
theorem w256 {Z : State} {a0 : Array Value} (hw : Wds Z a0) : (Jvm.Cond.methodLink "com/example/record_guard/recordguard/conflict/SerializationFailureExceptionNotInCallersSnapshotPinLaw" (39 : Nat) ({ cls := "java/lang/String", name := "length", desc := "()I" } : Jvm.MethodName)).before a0 Z = true := hw _ (List.mem_of_getElem? (i := 256) rfl)
theorem w257 {Z : State} {a0 : Array Value} (hw : Wds Z a0) : (Jvm.Cond.methodLink "com/example/record_guard/recordguard/conflict/SerializationFailureExceptionNotInCallersSnapshotPinLaw" (43 : Nat) ({ cls := "java/lang/String", name := "charAt", desc := "(I)C" } : Jvm.MethodName)).before a0 Z = true := hw _ (List.mem_of_getElem? (i := 257) rfl)
theorem w258 {Z : State} {a0 : Array Value} (hw : Wds Z a0) : (Jvm.Cond.declares ({ cls := "java/lang/String", name := "charAt", desc := "(I)C" } : Jvm.MethodName)).before a0 Z = true := hw _ (List.mem_of_getElem? (i := 258) rfl)
theorem w259 {Z : State} {a0 : Array Value} (hw : Wds Z a0) : (Jvm.Cond.instanceMethod ({ cls := "java/lang/String", name := "charAt", desc := "(I)C" } : Jvm.MethodName)).before a0 Z = true := hw _ (List.mem_of_getElem? (i := 259) rfl)
theorem w260 {Z : State} {a0 : Array Value} (hw : Wds Z a0) : (Jvm.Cond.selects "java/lang/String" ({ cls := "java/lang/String", name := "charAt", desc := "(I)C" } : Jvm.MethodName) ({ cls := "java/lang/String", name := "charAt", desc := "(I)C" } : Jvm.MethodName)).before a0 Z = true := hw _ (List.mem_of_getElem? (i := 260) rfl)
theorem w261 {Z : State} {a0 : Array Value} (hw : Wds Z a0) : (Jvm.Cond.code ({ cls := "java/lang/String", name := "charAt", desc := "(I)C" } : Jvm.MethodName) jdk_42_method_56_code (2 : Nat) (Option.some Jvm.ClassFile.FieldType.char)).before a0 Z = true := hw _ (List.mem_of_getElem? (i := 261) rfl)
theorem w262 {Z : State} {a0 : Array Value} (hw : Wds Z a0) : (Jvm.Cond.methodLink "java/lang/String" (492 : Nat) ({ cls := "java/lang/String", name := "isLatin1", desc := "()Z" } : Jvm.MethodName)).before a0 Z = true := hw _ (List.mem_of_getElem? (i := 262) rfl)
theorem w263 {Z : State} {a0 : Array Value} (hw : Wds Z a0) : (Jvm.Cond.declares ({ cls := "java/lang/String", name := "isLatin1", desc := "()Z" } : Jvm.MethodName)).before a0 Z = true := hw _ (List.mem_of_getElem? (i := 263) rfl)
theorem w264 {Z : State} {a0 : Array Value} (hw : Wds Z a0) : (Jvm.Cond.instanceMethod ({ cls := "java/lang/String", name := "isLatin1", desc := "()Z" } : Jvm.MethodName)).before a0 Z = true := hw _ (List.mem_of_getElem? (i := 264) rfl)
theorem w265 {Z : State} {a0 : Array Value} (hw : Wds Z a0) : (Jvm.Cond.selects "java/lang/String" ({ cls := "java/lang/String", name := "isLatin1", desc := "()Z" } : Jvm.MethodName) ({ cls := "java/lang/String", name := "isLatin1", desc := "()Z" } : Jvm.MethodName)).before a0 Z = true := hw _ (List.mem_of_getElem? (i := 265) rfl)
theorem w266 {Z : State} {a0 : Array Value} (hw : Wds Z a0) : (Jvm.Cond.code ({ cls := "java/lang/String", name := "isLatin1", desc := "()Z" } : Jvm.MethodName) jdk_42_method_154_code (1 : Nat) (Option.some Jvm.ClassFile.FieldType.boolean)).before a0 Z = true := hw _ (List.mem_of_getElem? (i := 266) rfl)
theorem w267 {Z : State} {a0 : Array Value} (hw : Wds Z a0) : (Jvm.Cond.methodLink "java/lang/String" (495 : Nat) ({ cls := "java/lang/StringLatin1", name := "charAt", desc := "([BI)C" } : Jvm.MethodName)).before a0 Z = true := hw _ (List.mem_of_getElem? (i := 267) rfl)
theorem w268 {Z : State} {a0 : Array Value} (hw : Wds Z a0) : (Jvm.Cond.static ({ cls := "java/lang/StringLatin1", name := "charAt", desc := "([BI)C" } : Jvm.MethodName)).before a0 Z = true := hw _ (List.mem_of_getElem? (i := 268) rfl)
theorem w269 {Z : State} {a0 : Array Value} (hw : Wds Z a0) : (Jvm.Cond.code ({ cls := "java/lang/StringLatin1", name := "charAt", desc := "([BI)C" } : Jvm.MethodName) jdk_43_method_2_code (2 : Nat) (Option.some Jvm.ClassFile.FieldType.char)).before a0 Z = true := hw _ (List.mem_of_getElem? (i := 269) rfl)
theorem w270 {Z : State} {a0 : Array Value} (hw : Wds Z a0) : (Jvm.Cond.methodLink "java/lang/StringLatin1" (9 : Nat) ({ cls := "java/lang/String", name := "checkIndex", desc := "(II)V" } : Jvm.MethodName)).before a0 Z = true := hw _ (List.mem_of_getElem? (i := 270) rfl)
theorem w271 {Z : State} {a0 : Array Value} (hw : Wds Z a0) : (Jvm.Cond.static ({ cls := "java/lang/String", name := "checkIndex", desc := "(II)V" } : Jvm.MethodName)).before a0 Z = true := hw _ (List.mem_of_getElem? (i := 271) rfl)
theorem w272 {Z : State} {a0 : Array Value} (hw : Wds Z a0) : (Jvm.Cond.code ({ cls := "java/lang/String", name := "checkIndex", desc := "(II)V" } : Jvm.MethodName) jdk_42_method_155_code (2 : Nat) (Option.none : Option Jvm.ClassFile.FieldType)).before a0 Z = true := hw _ (List.mem_of_getElem? (i := 272) rfl)
theorem w273 {Z : State} {a0 : Array Value} (hw : Wds Z a0) : (Jvm.Cond.fieldLink "java/lang/String" (1053 : Nat) "jdk/internal/util/Preconditions" "SIOOBE_FORMATTER" "Ljava/util/function/BiFunction;").before a0 Z = true := hw _ (List.mem_of_getElem? (i := 273) rfl)
theorem w274 {Z : State} {a0 : Array Value} (hw : Wds Z a0) : (Jvm.Cond.initialized "jdk/internal/util/Preconditions").before a0 Z = true := hw _ (List.mem_of_getElem? (i := 274) rfl)
theorem w275 {Z : State} {a0 : Array Value} (hw : Wds Z a0) : (Jvm.Cond.methodLink "java/lang/String" (1059 : Nat) ({ cls := "jdk/internal/util/Preconditions", name := "checkIndex", desc := "(IILjava/util/function/BiFunction;)I" } : Jvm.MethodName)).before a0 Z = true := hw _ (List.mem_of_getElem? (i := 275) rfl)
theorem w276 {Z : State} {a0 : Array Value} (hw : Wds Z a0) : (Jvm.Cond.static ({ cls := "jdk/internal/util/Preconditions", name := "checkIndex", desc := "(IILjava/util/function/BiFunction;)I" } : Jvm.MethodName)).before a0 Z = true := hw _ (List.mem_of_getElem? (i := 276) rfl)
theorem w277 {Z : State} {a0 : Array Value} (hw : Wds Z a0) : (Jvm.Cond.code ({ cls := "jdk/internal/util/Preconditions", name := "checkIndex", desc := "(IILjava/util/function/BiFunction;)I" } : Jvm.MethodName) jdk_41_method_11_code (3 : Nat) (Option.some Jvm.ClassFile.FieldType.int)).before a0 Z = true := hw _ (List.mem_of_getElem? (i := 277) rfl)
theorem w278 {Z : State} {a0 : Array Value} (hw : Wds Z a0) : (Jvm.Cond.methodLink "com/example/record_guard/recordguard/conflict/SerializationFailureExceptionNotInCallersSnapshotPinLaw" (47 : Nat) ({ cls := "java/lang/String", name := "equals", desc := "(Ljava/lang/Object;)Z" } : Jvm.MethodName)).before a0 Z = true := hw _ (List.mem_of_getElem? (i := 278) rfl)
theorem w279 {Z : State} {a0 : Array Value} (hw : Wds Z a0) : (Jvm.Cond.declares ({ cls := "java/lang/String", name := "equals", desc := "(Ljava/lang/Object;)Z" } : Jvm.MethodName)).before a0 Z = true := hw _ (List.mem_of_getElem? (i := 279) rfl)
theorem w280 {Z : State} {a0 : Array Value} (hw : Wds Z a0) : (Jvm.Cond.instanceMethod ({ cls := "java/lang/String", name := "equals", desc := "(Ljava/lang/Object;)Z" } : Jvm.MethodName)).before a0 Z = true := hw _ (List.mem_of_getElem? (i := 280) rfl)
theorem w281 {Z : State} {a0 : Array Value} (hw : Wds Z a0) : (Jvm.Cond.selects "java/lang/String" ({ cls := "java/lang/String", name := "equals", desc := "(Ljava/lang/Object;)Z" } : Jvm.MethodName) ({ cls := "java/lang/String", name := "equals", desc := "(Ljava/lang/Object;)Z" } : Jvm.MethodName)).before a0 Z = true := hw _ (List.mem_of_getElem? (i := 281) rfl)
theorem w282 {Z : State} {a0 : Array Value} (hw : Wds Z a0) : (Jvm.Cond.code ({ cls := "java/lang/String", name := "equals", desc := "(Ljava/lang/Object;)Z" } : Jvm.MethodName) jdk_42_method_66_code (3 : Nat) (Option.some Jvm.ClassFile.FieldType.boolean)).before a0 Z = true := hw _ (List.mem_of_getElem? (i := 282) rfl)
theorem w283 {Z : State} {a0 : Array Value} (hw : Wds Z a0) : (Jvm.Cond.methodLink "java/lang/String" (541 : Nat) ({ cls := "java/lang/StringLatin1", name := "equals", desc := "([B[B)Z" } : Jvm.MethodName)).before a0 Z = true := hw _ (List.mem_of_getElem? (i := 283) rfl)
theorem w284 {Z : State} {a0 : Array Value} (hw : Wds Z a0) : (Jvm.Cond.static ({ cls := "java/lang/StringLatin1", name := "equals", desc := "([B[B)Z" } : Jvm.MethodName)).before a0 Z = true := hw _ (List.mem_of_getElem? (i := 284) rfl)
theorem w285 {Z : State} {a0 : Array Value} (hw : Wds Z a0) : (Jvm.Cond.code ({ cls := "java/lang/StringLatin1", name := "equals", desc := "([B[B)Z" } : Jvm.MethodName) jdk_43_method_13_code (3 : Nat) (Option.some Jvm.ClassFile.FieldType.boolean)).before a0 Z = true := hw _ (List.mem_of_getElem? (i := 285) rfl)
theorem w286 {Z : State} {a0 : Array Value} (hw : Wds Z a0) : (Jvm.Cond.methodLink "java/lang/String" (177 : Nat) ({ cls := "java/lang/StringUTF16", name := "compress", desc := "([CII)[B" } : Jvm.MethodName)).before a0 Z = true := hw _ (List.mem_of_getElem? (i := 286) rfl)
theorem w287 {Z : State} {a0 : Array Value} (hw : Wds Z a0) : (Jvm.Cond.static ({ cls := "java/lang/StringUTF16", name := "compress", desc := "([CII)[B" } : Jvm.MethodName)).before a0 Z = true := hw _ (List.mem_of_getElem? (i := 287) rfl)
theorem w288 {Z : State} {a0 : Array Value} (hw : Wds Z a0) : (Jvm.Cond.initialized "java/lang/StringUTF16").before a0 Z = true := hw _ (List.mem_of_getElem? (i := 288) rfl)
theorem w289 {Z : State} {a0 : Array Value} (hw : Wds Z a0) : (Jvm.Cond.code ({ cls := "java/lang/StringUTF16", name := "compress", desc := "([CII)[B" } : Jvm.MethodName) jdk_52_method_16_code (6 : Nat) (Option.some (Jvm.ClassFile.FieldType.array Jvm.ClassFile.FieldType.byte))).before a0 Z = true := hw _ (List.mem_of_getElem? (i := 289) rfl)
theorem w290 {Z : State} {a0 : Array Value} (hw : Wds Z a0) : (Jvm.Cond.methodLink "java/lang/StringUTF16" (115 : Nat) ({ cls := "java/lang/StringUTF16", name := "compress", desc := "([CI[BII)I" } : Jvm.MethodName)).before a0 Z = true := hw _ (List.mem_of_getElem? (i := 290) rfl)
theorem w291 {Z : State} {a0 : Array Value} (hw : Wds Z a0) : (Jvm.Cond.static ({ cls := "java/lang/StringUTF16", name := "compress", desc := "([CI[BII)I" } : Jvm.MethodName)).before a0 Z = true := hw _ (List.mem_of_getElem? (i := 291) rfl)
theorem w292 {Z : State} {a0 : Array Value} (hw : Wds Z a0) : (Jvm.Cond.code ({ cls := "java/lang/StringUTF16", name := "compress", desc := "([CI[BII)I" } : Jvm.MethodName) jdk_52_method_21_code (7 : Nat) (Option.some Jvm.ClassFile.FieldType.int)).before a0 Z = true := hw _ (List.mem_of_getElem? (i := 292) rfl)
theorem w293 {Z : State} {a0 : Array Value} (hw : Wds Z a0) : (Jvm.Cond.methodLink "java/lang/String" (47 : Nat) ({ cls := "java/lang/StringUTF16", name := "coderFromArrayLen", desc := "([BI)B" } : Jvm.MethodName)).before a0 Z = true := hw _ (List.mem_of_getElem? (i := 293) rfl)
theorem w294 {Z : State} {a0 : Array Value} (hw : Wds Z a0) : (Jvm.Cond.static ({ cls := "java/lang/StringUTF16", name := "coderFromArrayLen", desc := "([BI)B" } : Jvm.MethodName)).before a0 Z = true := hw _ (List.mem_of_getElem? (i := 294) rfl)
theorem w295 {Z : State} {a0 : Array Value} (hw : Wds Z a0) : (Jvm.Cond.code ({ cls := "java/lang/StringUTF16", name := "coderFromArrayLen", desc := "([BI)B" } : Jvm.MethodName) jdk_52_method_15_code (2 : Nat) (Option.some Jvm.ClassFile.FieldType.byte)).before a0 Z = true := hw _ (List.mem_of_getElem? (i := 295) rfl)
theorem lay_0 {Z : State} {a0 : Array Value} (hw : Wds Z a0) : LayD Z a0 "com/example/record_guard/recordguard/conflict/SerializationFailureException" [("java/lang/Throwable", "cause", "Ljava/lang/Throwable;", .null), ("java/lang/Throwable", "stackTrace", "[Ljava/lang/StackTraceElement;", .null), ("java/lang/Throwable", "suppressedExceptions", "Ljava/util/List;", .null), ("java/lang/Throwable", "detailMessage", "Ljava/lang/String;", .null), ("java/lang/Throwable", "backtrace", "Ljava/lang/Object;", .null), ("java/lang/Throwable", "depth", "I", (.int (0 : Int32)))] := ⟨fun f hf => by
  simp only [List.mem_cons, List.not_mem_nil, or_false] at hf
  rcases hf with rfl | rfl | rfl | rfl | rfl | rfl
  · exact ⟨Or.inl (w205 hw), (.object "java/lang/Throwable"), by decide, rfl⟩
  · exact ⟨Or.inl (w208 hw), (.array (.object "java/lang/StackTraceElement")), by decide, rfl⟩
  · exact ⟨Or.inl (w211 hw), (.object "java/util/List"), by decide, rfl⟩
  · exact ⟨Or.inl (w235 hw), (.object "java/lang/String"), by decide, rfl⟩
  · exact ⟨Or.inl (w236 hw), (.object "java/lang/Object"), by decide, rfl⟩
  · exact ⟨Or.inl (w237 hw), .int, by decide, rfl⟩, by decide⟩
theorem lay_1 {Z : State} {a0 : Array Value} (hw : Wds Z a0) : LayD Z a0 "java/lang/String" [("java/lang/String", "value", "[B", .null), ("java/lang/String", "coder", "B", (.int (0 : Int32)))] := ⟨fun f hf => by
  simp only [List.mem_cons, List.not_mem_nil, or_false] at hf
  rcases hf with rfl | rfl
  · exact ⟨Or.inr (w20 hw), (.array .byte), by decide, rfl⟩
  · exact ⟨Or.inr (w21 hw), .byte, by decide, rfl⟩, by decide⟩
theorem lay_2 {Z : State} {a0 : Array Value} (hw : Wds Z a0) : LayD Z a0 "java/lang/StringBuilder" [("java/lang/AbstractStringBuilder", "value", "[B", .null), ("java/lang/AbstractStringBuilder", "coder", "B", (.int (0 : Int32))), ("java/lang/AbstractStringBuilder", "count", "I", (.int (0 : Int32)))] := ⟨fun f hf => by
  simp only [List.mem_cons, List.not_mem_nil, or_false] at hf
  rcases hf with rfl | rfl | rfl
  · exact ⟨Or.inl (w62 hw), (.array .byte), by decide, rfl⟩
  · exact ⟨Or.inl (w64 hw), .byte, by decide, rfl⟩
  · exact ⟨Or.inl (w86 hw), .int, by decide, rfl⟩, by decide⟩
theorem i0_0 : Ins code 0 (.iload_n 0) 1 1 := ⟨at_0, rfl⟩
theorem i0_1 : Ins code 1 (.iconst 3) 1 2 := ⟨at_1, rfl⟩
theorem i0_2 : Ins code 2 (.iand) 1 3 := ⟨at_2, rfl⟩
theorem i0_3 : Ins code 3 (.istore 5) 2 5 := ⟨at_3, rfl⟩
theorem i0_5 : Ins code 5 (.iload_n 1) 1 6 := ⟨at_5, rfl⟩
theorem i0_6 : Ins code 6 (.sipush 255) 3 9 := ⟨at_6, rfl⟩
theorem i0_9 : Ins code 9 (.iand) 1 10 := ⟨at_9, rfl⟩
theorem i0_10 : Ins code 10 (.i2c) 1 11 := ⟨at_10, rfl⟩
theorem i0_11 : Ins code 11 (.istore 6) 2 13 := ⟨at_11, rfl⟩
theorem i0_13 : Ins code 13 (.iload_n 2) 1 14 := ⟨at_13, rfl⟩
theorem i0_14 : Ins code 14 (.sipush 255) 3 17 := ⟨at_14, rfl⟩
theorem i0_17 : Ins code 17 (.iand) 1 18 := ⟨at_17, rfl⟩
theorem i0_18 : Ins code 18 (.i2c) 1 19 := ⟨at_18, rfl⟩
theorem i0_19 : Ins code 19 (.istore 7) 2 21 := ⟨at_19, rfl⟩
theorem i0_21 : Ins code 21 (.iload_n 3) 1 22 := ⟨at_21, rfl⟩
theorem i0_22 : Ins code 22 (.sipush 255) 3 25 := ⟨at_22, rfl⟩
theorem i0_25 : Ins code 25 (.iand) 1 26 := ⟨at_25, rfl⟩
theorem i0_26 : Ins code 26 (.i2c) 1 27 := ⟨at_26, rfl⟩
theorem i0_27 : Ins code 27 (.istore 8) 2 29 := ⟨at_27, rfl⟩
theorem i0_29 : Ins code 29 (.iload 5) 2 31 := ⟨at_29, rfl⟩
theorem i0_31 : Ins code 31 (.iload 6) 2 33 := ⟨at_31, rfl⟩
theorem i0_33 : Ins code 33 (.iload 7) 2 35 := ⟨at_33, rfl⟩
theorem i0_35 : Ins code 35 (.iload 8) 2 37 := ⟨at_35, rfl⟩
theorem i0_37 : Ins code 37 (.invokestatic 12) 3 40 := ⟨at_37, rfl⟩
theorem i0_40 : Ins code 40 (.astore 9) 2 42 := ⟨at_40, rfl⟩
theorem i0_42 : Ins code 42 (.iload 4) 2 44 := ⟨at_42, rfl⟩
theorem i0_44 : Ins code 44 (.sipush 255) 3 47 := ⟨at_44, rfl⟩
theorem i0_47 : Ins code 47 (.iand) 1 48 := ⟨at_47, rfl⟩
theorem i0_48 : Ins code 48 (.i2c) 1 49 := ⟨at_48, rfl⟩
theorem i0_49 : Ins code 49 (.invokestatic 18) 3 52 := ⟨at_49, rfl⟩
theorem i0_52 : Ins code 52 (.astore 10) 2 54 := ⟨at_52, rfl⟩
theorem i0_54 : Ins code 54 (.aload 9) 2 56 := ⟨at_54, rfl⟩
theorem i0_56 : Ins code 56 (.invokestatic 22) 3 59 := ⟨at_56, rfl⟩
theorem i0_59 : Ins code 59 (.astore 11) 2 61 := ⟨at_59, rfl⟩
theorem i0_61 : Ins code 61 (.aload 10) 2 63 := ⟨at_61, rfl⟩
theorem i0_63 : Ins code 63 (.invokestatic 22) 3 66 := ⟨at_63, rfl⟩
theorem i0_66 : Ins code 66 (.astore 12) 2 68 := ⟨at_66, rfl⟩
theorem i0_68 : Ins code 68 (.aload 9) 2 70 := ⟨at_68, rfl⟩
theorem i0_70 : Ins code 70 (.invokestatic 28) 3 73 := ⟨at_70, rfl⟩
theorem i0_73 : Ins code 73 (.astore 13) 2 75 := ⟨at_73, rfl⟩
theorem i0_75 : Ins code 75 (.aload 11) 2 77 := ⟨at_75, rfl⟩
theorem i0_77 : Ins code 77 (.ifnull 13) 3 80 := ⟨at_77, rfl⟩
theorem i0_80 : Ins code 80 (.aload 12) 2 82 := ⟨at_80, rfl⟩
theorem i0_82 : Ins code 82 (.ifnull 8) 3 85 := ⟨at_82, rfl⟩
theorem i0_85 : Ins code 85 (.aload 13) 2 87 := ⟨at_85, rfl⟩
theorem i0_87 : Ins code 87 (.ifnonnull 5) 3 90 := ⟨at_87, rfl⟩
theorem i0_92 : Ins code 92 (.aload 11) 2 94 := ⟨at_92, rfl⟩
theorem i0_94 : Ins code 94 (.invokevirtual 31) 3 97 := ⟨at_94, rfl⟩
theorem i0_97 : Ins code 97 (.ifnull 5) 3 100 := ⟨at_97, rfl⟩
theorem i0_102 : Ins code 102 (.aload 11) 2 104 := ⟨at_102, rfl⟩
theorem i0_104 : Ins code 104 (.invokevirtual 35) 3 107 := ⟨at_104, rfl⟩
theorem i0_107 : Ins code 107 (.astore 14) 2 109 := ⟨at_107, rfl⟩
theorem i0_109 : Ins code 109 (.aload 12) 2 111 := ⟨at_109, rfl⟩
theorem i0_111 : Ins code 111 (.invokevirtual 35) 3 114 := ⟨at_111, rfl⟩
theorem i0_114 : Ins code 114 (.astore 15) 2 116 := ⟨at_114, rfl⟩
theorem i0_116 : Ins code 116 (.aload 13) 2 118 := ⟨at_116, rfl⟩
theorem i0_118 : Ins code 118 (.invokevirtual 35) 3 121 := ⟨at_118, rfl⟩
theorem i0_121 : Ins code 121 (.astore 16) 2 123 := ⟨at_121, rfl⟩
theorem i0_123 : Ins code 123 (.aload 14) 2 125 := ⟨at_123, rfl⟩
theorem i0_125 : Ins code 125 (.ifnull 13) 3 128 := ⟨at_125, rfl⟩
theorem i0_128 : Ins code 128 (.aload 15) 2 130 := ⟨at_128, rfl⟩
theorem i0_130 : Ins code 130 (.ifnull 8) 3 133 := ⟨at_130, rfl⟩
theorem i0_133 : Ins code 133 (.aload 16) 2 135 := ⟨at_133, rfl⟩
theorem i0_135 : Ins code 135 (.ifnonnull 5) 3 138 := ⟨at_135, rfl⟩
theorem i0_140 : Ins code 140 (.aload 14) 2 142 := ⟨at_140, rfl⟩
theorem i0_142 : Ins code 142 (.invokevirtual 39) 3 145 := ⟨at_142, rfl⟩
theorem i0_145 : Ins code 145 (.iload 5) 2 147 := ⟨at_145, rfl⟩
theorem i0_147 : Ins code 147 (.iconst 4) 1 148 := ⟨at_147, rfl⟩
theorem i0_148 : Ins code 148 (.iadd) 1 149 := ⟨at_148, rfl⟩
theorem i0_149 : Ins code 149 (.if_icmp .lt 12) 3 152 := ⟨at_149, rfl⟩
theorem i0_152 : Ins code 152 (.aload 15) 2 154 := ⟨at_152, rfl⟩
theorem i0_154 : Ins code 154 (.invokevirtual 39) 3 157 := ⟨at_154, rfl⟩
theorem i0_157 : Ins code 157 (.iconst 5) 1 158 := ⟨at_157, rfl⟩
theorem i0_158 : Ins code 158 (.if_icmp .ge 5) 3 161 := ⟨at_158, rfl⟩
theorem i0_163 : Ins code 163 (.aload 14) 2 165 := ⟨at_163, rfl⟩
theorem i0_165 : Ins code 165 (.invokevirtual 39) 3 168 := ⟨at_165, rfl⟩
theorem i0_168 : Ins code 168 (.iload 5) 2 170 := ⟨at_168, rfl⟩
theorem i0_170 : Ins code 170 (.isub) 1 171 := ⟨at_170, rfl⟩
theorem i0_171 : Ins code 171 (.aload 15) 2 173 := ⟨at_171, rfl⟩
theorem i0_173 : Ins code 173 (.invokevirtual 39) 3 176 := ⟨at_173, rfl⟩
theorem i0_176 : Ins code 176 (.iconst 1) 1 177 := ⟨at_176, rfl⟩
theorem i0_177 : Ins code 177 (.isub) 1 178 := ⟨at_177, rfl⟩
theorem i0_178 : Ins code 178 (.if_icmp .eq 5) 3 181 := ⟨at_178, rfl⟩
theorem i0_183 : Ins code 183 (.iload 5) 2 185 := ⟨at_183, rfl⟩
theorem i0_185 : Ins code 185 (.ifCond .le 16) 3 188 := ⟨at_185, rfl⟩
theorem i0_188 : Ins code 188 (.aload 14) 2 190 := ⟨at_188, rfl⟩
theorem i0_190 : Ins code 190 (.iconst 0) 1 191 := ⟨at_190, rfl⟩
theorem i0_191 : Ins code 191 (.invokevirtual 43) 3 194 := ⟨at_191, rfl⟩
theorem i0_194 : Ins code 194 (.iload 6) 2 196 := ⟨at_194, rfl⟩
theorem i0_196 : Ins code 196 (.if_icmp .eq 5) 3 199 := ⟨at_196, rfl⟩
theorem i0_201 : Ins code 201 (.iload 5) 2 203 := ⟨at_201, rfl⟩
theorem i0_203 : Ins code 203 (.iconst 1) 1 204 := ⟨at_203, rfl⟩
theorem i0_204 : Ins code 204 (.if_icmp .le 16) 3 207 := ⟨at_204, rfl⟩
theorem i0_207 : Ins code 207 (.aload 14) 2 209 := ⟨at_207, rfl⟩
theorem i0_209 : Ins code 209 (.iconst 1) 1 210 := ⟨at_209, rfl⟩
theorem i0_210 : Ins code 210 (.invokevirtual 43) 3 213 := ⟨at_210, rfl⟩
theorem i0_213 : Ins code 213 (.iload 7) 2 215 := ⟨at_213, rfl⟩
theorem i0_215 : Ins code 215 (.if_icmp .eq 5) 3 218 := ⟨at_215, rfl⟩
theorem i0_220 : Ins code 220 (.iload 5) 2 222 := ⟨at_220, rfl⟩
theorem i0_222 : Ins code 222 (.iconst 2) 1 223 := ⟨at_222, rfl⟩
theorem i0_223 : Ins code 223 (.if_icmp .le 16) 3 226 := ⟨at_223, rfl⟩
theorem i0_226 : Ins code 226 (.aload 14) 2 228 := ⟨at_226, rfl⟩
theorem i0_228 : Ins code 228 (.iconst 2) 1 229 := ⟨at_228, rfl⟩
theorem i0_229 : Ins code 229 (.invokevirtual 43) 3 232 := ⟨at_229, rfl⟩
theorem i0_232 : Ins code 232 (.iload 8) 2 234 := ⟨at_232, rfl⟩
theorem i0_234 : Ins code 234 (.if_icmp .eq 5) 3 237 := ⟨at_234, rfl⟩
theorem i0_239 : Ins code 239 (.aload 14) 2 241 := ⟨at_239, rfl⟩
theorem i0_241 : Ins code 241 (.iload 5) 2 243 := ⟨at_241, rfl⟩
theorem i0_243 : Ins code 243 (.invokevirtual 43) 3 246 := ⟨at_243, rfl⟩
theorem i0_246 : Ins code 246 (.bipush 58) 2 248 := ⟨at_246, rfl⟩
theorem i0_248 : Ins code 248 (.if_icmp .ne 17) 3 251 := ⟨at_248, rfl⟩
theorem i0_251 : Ins code 251 (.aload 14) 2 253 := ⟨at_251, rfl⟩
theorem i0_253 : Ins code 253 (.iload 5) 2 255 := ⟨at_253, rfl⟩
theorem i0_255 : Ins code 255 (.iconst 1) 1 256 := ⟨at_255, rfl⟩
theorem i0_256 : Ins code 256 (.iadd) 1 257 := ⟨at_256, rfl⟩
theorem i0_257 : Ins code 257 (.invokevirtual 43) 3 260 := ⟨at_257, rfl⟩
theorem i0_260 : Ins code 260 (.bipush 32) 2 262 := ⟨at_260, rfl⟩
theorem i0_262 : Ins code 262 (.if_icmp .eq 5) 3 265 := ⟨at_262, rfl⟩
theorem i0_267 : Ins code 267 (.aload 15) 2 269 := ⟨at_267, rfl⟩
theorem i0_269 : Ins code 269 (.iconst 0) 1 270 := ⟨at_269, rfl⟩
theorem i0_270 : Ins code 270 (.invokevirtual 43) 3 273 := ⟨at_270, rfl⟩
theorem i0_273 : Ins code 273 (.iload 4) 2 275 := ⟨at_273, rfl⟩
theorem i0_275 : Ins code 275 (.sipush 255) 3 278 := ⟨at_275, rfl⟩
theorem i0_278 : Ins code 278 (.iand) 1 279 := ⟨at_278, rfl⟩
theorem i0_279 : Ins code 279 (.i2c) 1 280 := ⟨at_279, rfl⟩
theorem i0_280 : Ins code 280 (.if_icmp .eq 5) 3 283 := ⟨at_280, rfl⟩
theorem i0_285 : Ins code 285 (.aload 14) 2 287 := ⟨at_285, rfl⟩
theorem i0_287 : Ins code 287 (.iload 5) 2 289 := ⟨at_287, rfl⟩
theorem i0_289 : Ins code 289 (.iconst 2) 1 290 := ⟨at_289, rfl⟩
theorem i0_290 : Ins code 290 (.iadd) 1 291 := ⟨at_290, rfl⟩
theorem i0_291 : Ins code 291 (.invokevirtual 43) 3 294 := ⟨at_291, rfl⟩
theorem i0_294 : Ins code 294 (.aload 15) 2 296 := ⟨at_294, rfl⟩
theorem i0_296 : Ins code 296 (.iconst 3) 1 297 := ⟨at_296, rfl⟩
theorem i0_297 : Ins code 297 (.invokevirtual 43) 3 300 := ⟨at_297, rfl⟩
theorem i0_300 : Ins code 300 (.if_icmp .eq 5) 3 303 := ⟨at_300, rfl⟩
theorem i0_305 : Ins code 305 (.aload 14) 2 307 := ⟨at_305, rfl⟩
theorem i0_307 : Ins code 307 (.iload 5) 2 309 := ⟨at_307, rfl⟩
theorem i0_309 : Ins code 309 (.iconst 3) 1 310 := ⟨at_309, rfl⟩
theorem i0_310 : Ins code 310 (.iadd) 1 311 := ⟨at_310, rfl⟩
theorem i0_311 : Ins code 311 (.invokevirtual 43) 3 314 := ⟨at_311, rfl⟩
theorem i0_314 : Ins code 314 (.aload 15) 2 316 := ⟨at_314, rfl⟩
theorem i0_316 : Ins code 316 (.iconst 4) 1 317 := ⟨at_316, rfl⟩
theorem i0_317 : Ins code 317 (.invokevirtual 43) 3 320 := ⟨at_317, rfl⟩
theorem i0_320 : Ins code 320 (.if_icmp .eq 5) 3 323 := ⟨at_320, rfl⟩
theorem i0_325 : Ins code 325 (.aload 14) 2 327 := ⟨at_325, rfl⟩
theorem i0_327 : Ins code 327 (.aload 14) 2 329 := ⟨at_327, rfl⟩
theorem i0_329 : Ins code 329 (.invokevirtual 39) 3 332 := ⟨at_329, rfl⟩
theorem i0_332 : Ins code 332 (.iconst 1) 1 333 := ⟨at_332, rfl⟩
theorem i0_333 : Ins code 333 (.isub) 1 334 := ⟨at_333, rfl⟩
theorem i0_334 : Ins code 334 (.invokevirtual 43) 3 337 := ⟨at_334, rfl⟩
theorem i0_337 : Ins code 337 (.aload 15) 2 339 := ⟨at_337, rfl⟩
theorem i0_339 : Ins code 339 (.aload 15) 2 341 := ⟨at_339, rfl⟩
theorem i0_341 : Ins code 341 (.invokevirtual 39) 3 344 := ⟨at_341, rfl⟩
theorem i0_344 : Ins code 344 (.iconst 1) 1 345 := ⟨at_344, rfl⟩
theorem i0_345 : Ins code 345 (.isub) 1 346 := ⟨at_345, rfl⟩
theorem i0_346 : Ins code 346 (.invokevirtual 43) 3 349 := ⟨at_346, rfl⟩
theorem i0_349 : Ins code 349 (.if_icmp .eq 5) 3 352 := ⟨at_349, rfl⟩
theorem i0_354 : Ins code 354 (.aload 14) 2 356 := ⟨at_354, rfl⟩
theorem i0_356 : Ins code 356 (.aload 16) 2 358 := ⟨at_356, rfl⟩
theorem i0_358 : Ins code 358 (.invokevirtual 47) 3 361 := ⟨at_358, rfl⟩
theorem i0_361 : Ins code 361 (.ifCond .ne 7) 3 364 := ⟨at_361, rfl⟩
theorem i0_364 : Ins code 364 (.iconst 1) 1 365 := ⟨at_364, rfl⟩
theorem i0_365 : Ins code 365 (.goto 4) 3 368 := ⟨at_365, rfl⟩
theorem i0_369 : Ins code 369 (.ireturn) 1 370 := ⟨at_369, rfl⟩
theorem i1_0 : Ins method_2_code 0 (.iload_n 0) 1 1 := ⟨by decide +kernel, rfl⟩
theorem i1_1 : Ins method_2_code 1 (.ifCond .ne 14) 3 4 := ⟨by decide +kernel, rfl⟩
theorem i1_4 : Ins method_2_code 4 (.new 7) 3 7 := ⟨by decide +kernel, rfl⟩
theorem i1_7 : Ins method_2_code 7 (.dup) 1 8 := ⟨by decide +kernel, rfl⟩
theorem i1_8 : Ins method_2_code 8 (.iconst 0) 1 9 := ⟨by decide +kernel, rfl⟩
theorem i1_9 : Ins method_2_code 9 (.newarray .char) 2 11 := ⟨by decide +kernel, rfl⟩
theorem i1_11 : Ins method_2_code 11 (.invokespecial 9) 3 14 := ⟨by decide +kernel, rfl⟩
theorem i1_14 : Ins method_2_code 14 (.areturn) 1 15 := ⟨by decide +kernel, rfl⟩
theorem i1_15 : Ins method_2_code 15 (.iload_n 0) 1 16 := ⟨by decide +kernel, rfl⟩
theorem i1_16 : Ins method_2_code 16 (.iconst 1) 1 17 := ⟨by decide +kernel, rfl⟩
theorem i1_17 : Ins method_2_code 17 (.if_icmp .ne 18) 3 20 := ⟨by decide +kernel, rfl⟩
theorem i1_20 : Ins method_2_code 20 (.new 7) 3 23 := ⟨by decide +kernel, rfl⟩
theorem i1_23 : Ins method_2_code 23 (.dup) 1 24 := ⟨by decide +kernel, rfl⟩
theorem i1_24 : Ins method_2_code 24 (.iconst 1) 1 25 := ⟨by decide +kernel, rfl⟩
theorem i1_25 : Ins method_2_code 25 (.newarray .char) 2 27 := ⟨by decide +kernel, rfl⟩
theorem i1_27 : Ins method_2_code 27 (.dup) 1 28 := ⟨by decide +kernel, rfl⟩
theorem i1_28 : Ins method_2_code 28 (.iconst 0) 1 29 := ⟨by decide +kernel, rfl⟩
theorem i1_29 : Ins method_2_code 29 (.iload_n 1) 1 30 := ⟨by decide +kernel, rfl⟩
theorem i1_30 : Ins method_2_code 30 (.castore) 1 31 := ⟨by decide +kernel, rfl⟩
theorem i1_31 : Ins method_2_code 31 (.invokespecial 9) 3 34 := ⟨by decide +kernel, rfl⟩
theorem i1_34 : Ins method_2_code 34 (.areturn) 1 35 := ⟨by decide +kernel, rfl⟩
theorem i1_35 : Ins method_2_code 35 (.iload_n 0) 1 36 := ⟨by decide +kernel, rfl⟩
theorem i1_36 : Ins method_2_code 36 (.iconst 2) 1 37 := ⟨by decide +kernel, rfl⟩
theorem i1_37 : Ins method_2_code 37 (.if_icmp .ne 22) 3 40 := ⟨by decide +kernel, rfl⟩
theorem i1_40 : Ins method_2_code 40 (.new 7) 3 43 := ⟨by decide +kernel, rfl⟩
theorem i1_43 : Ins method_2_code 43 (.dup) 1 44 := ⟨by decide +kernel, rfl⟩
theorem i1_44 : Ins method_2_code 44 (.iconst 2) 1 45 := ⟨by decide +kernel, rfl⟩
theorem i1_45 : Ins method_2_code 45 (.newarray .char) 2 47 := ⟨by decide +kernel, rfl⟩
theorem i1_47 : Ins method_2_code 47 (.dup) 1 48 := ⟨by decide +kernel, rfl⟩
theorem i1_48 : Ins method_2_code 48 (.iconst 0) 1 49 := ⟨by decide +kernel, rfl⟩
theorem i1_49 : Ins method_2_code 49 (.iload_n 1) 1 50 := ⟨by decide +kernel, rfl⟩
theorem i1_50 : Ins method_2_code 50 (.castore) 1 51 := ⟨by decide +kernel, rfl⟩
theorem i1_51 : Ins method_2_code 51 (.dup) 1 52 := ⟨by decide +kernel, rfl⟩
theorem i1_52 : Ins method_2_code 52 (.iconst 1) 1 53 := ⟨by decide +kernel, rfl⟩
theorem i1_53 : Ins method_2_code 53 (.iload_n 2) 1 54 := ⟨by decide +kernel, rfl⟩
theorem i1_54 : Ins method_2_code 54 (.castore) 1 55 := ⟨by decide +kernel, rfl⟩
theorem i1_55 : Ins method_2_code 55 (.invokespecial 9) 3 58 := ⟨by decide +kernel, rfl⟩
theorem i1_58 : Ins method_2_code 58 (.areturn) 1 59 := ⟨by decide +kernel, rfl⟩
theorem i1_59 : Ins method_2_code 59 (.new 7) 3 62 := ⟨by decide +kernel, rfl⟩
theorem i1_62 : Ins method_2_code 62 (.dup) 1 63 := ⟨by decide +kernel, rfl⟩
theorem i1_63 : Ins method_2_code 63 (.iconst 3) 1 64 := ⟨by decide +kernel, rfl⟩
theorem i1_64 : Ins method_2_code 64 (.newarray .char) 2 66 := ⟨by decide +kernel, rfl⟩
theorem i1_66 : Ins method_2_code 66 (.dup) 1 67 := ⟨by decide +kernel, rfl⟩
theorem i1_67 : Ins method_2_code 67 (.iconst 0) 1 68 := ⟨by decide +kernel, rfl⟩
theorem i1_68 : Ins method_2_code 68 (.iload_n 1) 1 69 := ⟨by decide +kernel, rfl⟩
theorem i1_69 : Ins method_2_code 69 (.castore) 1 70 := ⟨by decide +kernel, rfl⟩
theorem i1_70 : Ins method_2_code 70 (.dup) 1 71 := ⟨by decide +kernel, rfl⟩
theorem i1_71 : Ins method_2_code 71 (.iconst 1) 1 72 := ⟨by decide +kernel, rfl⟩
theorem i1_72 : Ins method_2_code 72 (.iload_n 2) 1 73 := ⟨by decide +kernel, rfl⟩
theorem i1_73 : Ins method_2_code 73 (.castore) 1 74 := ⟨by decide +kernel, rfl⟩
theorem i1_74 : Ins method_2_code 74 (.dup) 1 75 := ⟨by decide +kernel, rfl⟩
theorem i1_75 : Ins method_2_code 75 (.iconst 2) 1 76 := ⟨by decide +kernel, rfl⟩
theorem i1_76 : Ins method_2_code 76 (.iload_n 3) 1 77 := ⟨by decide +kernel, rfl⟩
theorem i1_77 : Ins method_2_code 77 (.castore) 1 78 := ⟨by decide +kernel, rfl⟩
theorem i1_78 : Ins method_2_code 78 (.invokespecial 9) 3 81 := ⟨by decide +kernel, rfl⟩
theorem i1_81 : Ins method_2_code 81 (.areturn) 1 82 := ⟨by decide +kernel, rfl⟩
theorem i2_0 : Ins jdk_42_method_3_code 0 (.aload_n 0) 1 1 := ⟨by decide +kernel, rfl⟩
theorem i2_1 : Ins jdk_42_method_3_code 1 (.aload_n 1) 1 2 := ⟨by decide +kernel, rfl⟩
theorem i2_2 : Ins jdk_42_method_3_code 2 (.iconst 0) 1 3 := ⟨by decide +kernel, rfl⟩
theorem i2_3 : Ins jdk_42_method_3_code 3 (.aload_n 1) 1 4 := ⟨by decide +kernel, rfl⟩
theorem i2_4 : Ins jdk_42_method_3_code 4 (.arraylength) 1 5 := ⟨by decide +kernel, rfl⟩
theorem i2_5 : Ins jdk_42_method_3_code 5 (.aconst_null) 1 6 := ⟨by decide +kernel, rfl⟩
theorem i2_6 : Ins jdk_42_method_3_code 6 (.invokespecial 27) 3 9 := ⟨by decide +kernel, rfl⟩
theorem i2_9 : Ins jdk_42_method_3_code 9 (.return_) 1 10 := ⟨by decide +kernel, rfl⟩
theorem i3_0 : Ins jdk_42_method_149_code 0 (.aload_n 0) 1 1 := ⟨by decide +kernel, rfl⟩
theorem i3_1 : Ins jdk_42_method_149_code 1 (.invokespecial 1) 3 4 := ⟨by decide +kernel, rfl⟩
theorem i3_4 : Ins jdk_42_method_149_code 4 (.iload_n 3) 1 5 := ⟨by decide +kernel, rfl⟩
theorem i3_5 : Ins jdk_42_method_149_code 5 (.ifCond .ne 22) 3 8 := ⟨by decide +kernel, rfl⟩
theorem i3_8 : Ins jdk_42_method_149_code 8 (.aload_n 0) 1 9 := ⟨by decide +kernel, rfl⟩
theorem i3_9 : Ins jdk_42_method_149_code 9 (.ldc 7) 2 11 := ⟨by decide +kernel, rfl⟩
theorem i3_11 : Ins jdk_42_method_149_code 11 (.getfield 9) 3 14 := ⟨by decide +kernel, rfl⟩
theorem i3_14 : Ins jdk_42_method_149_code 14 (.putfield 9) 3 17 := ⟨by decide +kernel, rfl⟩
theorem i3_17 : Ins jdk_42_method_149_code 17 (.aload_n 0) 1 18 := ⟨by decide +kernel, rfl⟩
theorem i3_18 : Ins jdk_42_method_149_code 18 (.ldc 7) 2 20 := ⟨by decide +kernel, rfl⟩
theorem i3_20 : Ins jdk_42_method_149_code 20 (.getfield 15) 3 23 := ⟨by decide +kernel, rfl⟩
theorem i3_23 : Ins jdk_42_method_149_code 23 (.putfield 15) 3 26 := ⟨by decide +kernel, rfl⟩
theorem i3_26 : Ins jdk_42_method_149_code 26 (.return_) 1 27 := ⟨by decide +kernel, rfl⟩
theorem i3_27 : Ins jdk_42_method_149_code 27 (.getstatic 38) 3 30 := ⟨by decide +kernel, rfl⟩
theorem i3_30 : Ins jdk_42_method_149_code 30 (.ifCond .eq 28) 3 33 := ⟨by decide +kernel, rfl⟩
theorem i3_33 : Ins jdk_42_method_149_code 33 (.aload_n 1) 1 34 := ⟨by decide +kernel, rfl⟩
theorem i3_34 : Ins jdk_42_method_149_code 34 (.iload_n 2) 1 35 := ⟨by decide +kernel, rfl⟩
theorem i3_35 : Ins jdk_42_method_149_code 35 (.iload_n 3) 1 36 := ⟨by decide +kernel, rfl⟩
theorem i3_36 : Ins jdk_42_method_149_code 36 (.invokestatic 177) 3 39 := ⟨by decide +kernel, rfl⟩
theorem i3_39 : Ins jdk_42_method_149_code 39 (.astore 5) 2 41 := ⟨by decide +kernel, rfl⟩
theorem i3_41 : Ins jdk_42_method_149_code 41 (.aload_n 0) 1 42 := ⟨by decide +kernel, rfl⟩
theorem i3_42 : Ins jdk_42_method_149_code 42 (.aload 5) 2 44 := ⟨by decide +kernel, rfl⟩
theorem i3_44 : Ins jdk_42_method_149_code 44 (.iload_n 3) 1 45 := ⟨by decide +kernel, rfl⟩
theorem i3_45 : Ins jdk_42_method_149_code 45 (.invokestatic 47) 3 48 := ⟨by decide +kernel, rfl⟩
theorem i3_48 : Ins jdk_42_method_149_code 48 (.putfield 15) 3 51 := ⟨by decide +kernel, rfl⟩
theorem i3_51 : Ins jdk_42_method_149_code 51 (.aload_n 0) 1 52 := ⟨by decide +kernel, rfl⟩
theorem i3_52 : Ins jdk_42_method_149_code 52 (.aload 5) 2 54 := ⟨by decide +kernel, rfl⟩
theorem i3_54 : Ins jdk_42_method_149_code 54 (.putfield 9) 3 57 := ⟨by decide +kernel, rfl⟩
theorem i3_57 : Ins jdk_42_method_149_code 57 (.return_) 1 58 := ⟨by decide +kernel, rfl⟩
theorem i5_0 : Ins jdk_42_method_139_code 0 (.getstatic 38) 3 3 := ⟨by decide +kernel, rfl⟩
theorem i5_3 : Ins jdk_42_method_139_code 3 (.ifCond .eq 23) 3 6 := ⟨by decide +kernel, rfl⟩
theorem i5_6 : Ins jdk_42_method_139_code 6 (.iload_n 0) 1 7 := ⟨by decide +kernel, rfl⟩
theorem i5_7 : Ins jdk_42_method_139_code 7 (.invokestatic 1015) 3 10 := ⟨by decide +kernel, rfl⟩
theorem i5_10 : Ins jdk_42_method_139_code 10 (.ifCond .eq 16) 3 13 := ⟨by decide +kernel, rfl⟩
theorem i5_13 : Ins jdk_42_method_139_code 13 (.new 10) 3 16 := ⟨by decide +kernel, rfl⟩
theorem i5_16 : Ins jdk_42_method_139_code 16 (.dup) 1 17 := ⟨by decide +kernel, rfl⟩
theorem i5_17 : Ins jdk_42_method_139_code 17 (.iload_n 0) 1 18 := ⟨by decide +kernel, rfl⟩
theorem i5_18 : Ins jdk_42_method_139_code 18 (.invokestatic 1018) 3 21 := ⟨by decide +kernel, rfl⟩
theorem i5_21 : Ins jdk_42_method_139_code 21 (.iconst 0) 1 22 := ⟨by decide +kernel, rfl⟩
theorem i5_22 : Ins jdk_42_method_139_code 22 (.invokespecial 209) 3 25 := ⟨by decide +kernel, rfl⟩
theorem i5_25 : Ins jdk_42_method_139_code 25 (.areturn) 1 26 := ⟨by decide +kernel, rfl⟩
theorem i6_0 : Ins jdk_43_method_3_code 0 (.iload_n 0) 1 1 := ⟨by decide +kernel, rfl⟩
theorem i6_1 : Ins jdk_43_method_3_code 1 (.sipush 255) 3 4 := ⟨by decide +kernel, rfl⟩
theorem i6_4 : Ins jdk_43_method_3_code 4 (.if_icmp .gt 7) 3 7 := ⟨by decide +kernel, rfl⟩
theorem i6_7 : Ins jdk_43_method_3_code 7 (.iconst 1) 1 8 := ⟨by decide +kernel, rfl⟩
theorem i6_8 : Ins jdk_43_method_3_code 8 (.goto 4) 3 11 := ⟨by decide +kernel, rfl⟩
theorem i6_12 : Ins jdk_43_method_3_code 12 (.ireturn) 1 13 := ⟨by decide +kernel, rfl⟩
theorem i7_0 : Ins jdk_43_method_46_code 0 (.iconst 1) 1 1 := ⟨by decide +kernel, rfl⟩
theorem i7_1 : Ins jdk_43_method_46_code 1 (.newarray .byte) 2 3 := ⟨by decide +kernel, rfl⟩
theorem i7_3 : Ins jdk_43_method_46_code 3 (.dup) 1 4 := ⟨by decide +kernel, rfl⟩
theorem i7_4 : Ins jdk_43_method_46_code 4 (.iconst 0) 1 5 := ⟨by decide +kernel, rfl⟩
theorem i7_5 : Ins jdk_43_method_46_code 5 (.iload_n 0) 1 6 := ⟨by decide +kernel, rfl⟩
theorem i7_6 : Ins jdk_43_method_46_code 6 (.i2b) 1 7 := ⟨by decide +kernel, rfl⟩
theorem i7_7 : Ins jdk_43_method_46_code 7 (.bastore) 1 8 := ⟨by decide +kernel, rfl⟩
theorem i7_8 : Ins jdk_43_method_46_code 8 (.areturn) 1 9 := ⟨by decide +kernel, rfl⟩
theorem i8_0 : Ins jdk_42_method_151_code 0 (.aload_n 0) 1 1 := ⟨by decide +kernel, rfl⟩
theorem i8_1 : Ins jdk_42_method_151_code 1 (.invokespecial 1) 3 4 := ⟨by decide +kernel, rfl⟩
theorem i8_4 : Ins jdk_42_method_151_code 4 (.aload_n 0) 1 5 := ⟨by decide +kernel, rfl⟩
theorem i8_5 : Ins jdk_42_method_151_code 5 (.aload_n 1) 1 6 := ⟨by decide +kernel, rfl⟩
theorem i8_6 : Ins jdk_42_method_151_code 6 (.putfield 9) 3 9 := ⟨by decide +kernel, rfl⟩
theorem i8_9 : Ins jdk_42_method_151_code 9 (.aload_n 0) 1 10 := ⟨by decide +kernel, rfl⟩
theorem i8_10 : Ins jdk_42_method_151_code 10 (.iload_n 2) 1 11 := ⟨by decide +kernel, rfl⟩
theorem i8_11 : Ins jdk_42_method_151_code 11 (.putfield 15) 3 14 := ⟨by decide +kernel, rfl⟩
theorem i8_14 : Ins jdk_42_method_151_code 14 (.return_) 1 15 := ⟨by decide +kernel, rfl⟩
theorem i9_0 : Ins prog_64_method_4_code 0 (.new 25) 3 3 := ⟨by decide +kernel, rfl⟩
theorem i9_3 : Ins prog_64_method_4_code 3 (.dup) 1 4 := ⟨by decide +kernel, rfl⟩
theorem i9_4 : Ins prog_64_method_4_code 4 (.new 1) 3 7 := ⟨by decide +kernel, rfl⟩
theorem i9_7 : Ins prog_64_method_4_code 7 (.dup) 1 8 := ⟨by decide +kernel, rfl⟩
theorem i9_8 : Ins prog_64_method_4_code 8 (.invokespecial 3) 3 11 := ⟨by decide +kernel, rfl⟩
theorem i9_11 : Ins prog_64_method_4_code 11 (.aload_n 0) 1 12 := ⟨by decide +kernel, rfl⟩
theorem i9_12 : Ins prog_64_method_4_code 12 (.invokevirtual 7) 3 15 := ⟨by decide +kernel, rfl⟩
theorem i9_15 : Ins prog_64_method_4_code 15 (.ldc 30) 2 17 := ⟨by decide +kernel, rfl⟩
theorem i9_17 : Ins prog_64_method_4_code 17 (.invokevirtual 7) 3 20 := ⟨by decide +kernel, rfl⟩
theorem i9_20 : Ins prog_64_method_4_code 20 (.invokevirtual 13) 3 23 := ⟨by decide +kernel, rfl⟩
theorem i9_23 : Ins prog_64_method_4_code 23 (.invokespecial 29) 3 26 := ⟨by decide +kernel, rfl⟩
theorem i9_26 : Ins prog_64_method_4_code 26 (.areturn) 1 27 := ⟨by decide +kernel, rfl⟩
theorem i10_0 : Ins jdk_67_method_1_code 0 (.aload_n 0) 1 1 := ⟨by decide +kernel, rfl⟩
theorem i10_1 : Ins jdk_67_method_1_code 1 (.bipush 16) 2 3 := ⟨by decide +kernel, rfl⟩
theorem i10_3 : Ins jdk_67_method_1_code 3 (.invokespecial 1) 3 6 := ⟨by decide +kernel, rfl⟩
theorem i10_6 : Ins jdk_67_method_1_code 6 (.return_) 1 7 := ⟨by decide +kernel, rfl⟩
theorem i11_0 : Ins jdk_68_method_2_code 0 (.aload_n 0) 1 1 := ⟨by decide +kernel, rfl⟩
theorem i11_1 : Ins jdk_68_method_2_code 1 (.invokespecial 3) 3 4 := ⟨by decide +kernel, rfl⟩
theorem i11_4 : Ins jdk_68_method_2_code 4 (.getstatic 18) 3 7 := ⟨by decide +kernel, rfl⟩
theorem i11_7 : Ins jdk_68_method_2_code 7 (.ifCond .eq 18) 3 10 := ⟨by decide +kernel, rfl⟩
theorem i11_10 : Ins jdk_68_method_2_code 10 (.aload_n 0) 1 11 := ⟨by decide +kernel, rfl⟩
theorem i11_11 : Ins jdk_68_method_2_code 11 (.iload_n 1) 1 12 := ⟨by decide +kernel, rfl⟩
theorem i11_12 : Ins jdk_68_method_2_code 12 (.newarray .byte) 2 14 := ⟨by decide +kernel, rfl⟩
theorem i11_14 : Ins jdk_68_method_2_code 14 (.putfield 15) 3 17 := ⟨by decide +kernel, rfl⟩
theorem i11_17 : Ins jdk_68_method_2_code 17 (.aload_n 0) 1 18 := ⟨by decide +kernel, rfl⟩
theorem i11_18 : Ins jdk_68_method_2_code 18 (.iconst 0) 1 19 := ⟨by decide +kernel, rfl⟩
theorem i11_19 : Ins jdk_68_method_2_code 19 (.putfield 22) 3 22 := ⟨by decide +kernel, rfl⟩
theorem i11_22 : Ins jdk_68_method_2_code 22 (.goto 16) 3 25 := ⟨by decide +kernel, rfl⟩
theorem i11_38 : Ins jdk_68_method_2_code 38 (.return_) 1 39 := ⟨by decide +kernel, rfl⟩
theorem i12_0 : Ins jdk_67_method_7_code 0 (.aload_n 0) 1 1 := ⟨by decide +kernel, rfl⟩
theorem i12_1 : Ins jdk_67_method_7_code 1 (.aload_n 1) 1 2 := ⟨by decide +kernel, rfl⟩
theorem i12_2 : Ins jdk_67_method_7_code 2 (.invokespecial 29) 3 5 := ⟨by decide +kernel, rfl⟩
theorem i12_5 : Ins jdk_67_method_7_code 5 (.pop) 1 6 := ⟨by decide +kernel, rfl⟩
theorem i12_6 : Ins jdk_67_method_7_code 6 (.aload_n 0) 1 7 := ⟨by decide +kernel, rfl⟩
theorem i12_7 : Ins jdk_67_method_7_code 7 (.areturn) 1 8 := ⟨by decide +kernel, rfl⟩
theorem i13_0 : Ins jdk_68_method_22_code 0 (.aload_n 1) 1 1 := ⟨by decide +kernel, rfl⟩
theorem i13_1 : Ins jdk_68_method_22_code 1 (.ifnonnull 8) 3 4 := ⟨by decide +kernel, rfl⟩
theorem i13_9 : Ins jdk_68_method_22_code 9 (.aload_n 1) 1 10 := ⟨by decide +kernel, rfl⟩
theorem i13_10 : Ins jdk_68_method_22_code 10 (.invokevirtual 32) 3 13 := ⟨by decide +kernel, rfl⟩
theorem i13_13 : Ins jdk_68_method_22_code 13 (.istore_n 2) 1 14 := ⟨by decide +kernel, rfl⟩
theorem i13_14 : Ins jdk_68_method_22_code 14 (.aload_n 0) 1 15 := ⟨by decide +kernel, rfl⟩
theorem i13_15 : Ins jdk_68_method_22_code 15 (.aload_n 0) 1 16 := ⟨by decide +kernel, rfl⟩
theorem i13_16 : Ins jdk_68_method_22_code 16 (.getfield 79) 3 19 := ⟨by decide +kernel, rfl⟩
theorem i13_19 : Ins jdk_68_method_22_code 19 (.iload_n 2) 1 20 := ⟨by decide +kernel, rfl⟩
theorem i13_20 : Ins jdk_68_method_22_code 20 (.iadd) 1 21 := ⟨by decide +kernel, rfl⟩
theorem i13_21 : Ins jdk_68_method_22_code 21 (.invokevirtual 100) 3 24 := ⟨by decide +kernel, rfl⟩
theorem i13_24 : Ins jdk_68_method_22_code 24 (.aload_n 0) 1 25 := ⟨by decide +kernel, rfl⟩
theorem i13_25 : Ins jdk_68_method_22_code 25 (.aload_n 0) 1 26 := ⟨by decide +kernel, rfl⟩
theorem i13_26 : Ins jdk_68_method_22_code 26 (.getfield 79) 3 29 := ⟨by decide +kernel, rfl⟩
theorem i13_29 : Ins jdk_68_method_22_code 29 (.aload_n 1) 1 30 := ⟨by decide +kernel, rfl⟩
theorem i13_30 : Ins jdk_68_method_22_code 30 (.invokevirtual 208) 3 33 := ⟨by decide +kernel, rfl⟩
theorem i13_33 : Ins jdk_68_method_22_code 33 (.aload_n 0) 1 34 := ⟨by decide +kernel, rfl⟩
theorem i13_34 : Ins jdk_68_method_22_code 34 (.dup) 1 35 := ⟨by decide +kernel, rfl⟩
theorem i13_35 : Ins jdk_68_method_22_code 35 (.getfield 79) 3 38 := ⟨by decide +kernel, rfl⟩
theorem i13_38 : Ins jdk_68_method_22_code 38 (.iload_n 2) 1 39 := ⟨by decide +kernel, rfl⟩
theorem i13_39 : Ins jdk_68_method_22_code 39 (.iadd) 1 40 := ⟨by decide +kernel, rfl⟩
theorem i13_40 : Ins jdk_68_method_22_code 40 (.putfield 79) 3 43 := ⟨by decide +kernel, rfl⟩
theorem i13_43 : Ins jdk_68_method_22_code 43 (.aload_n 0) 1 44 := ⟨by decide +kernel, rfl⟩
theorem i13_44 : Ins jdk_68_method_22_code 44 (.areturn) 1 45 := ⟨by decide +kernel, rfl⟩
theorem i14_0 : Ins jdk_42_method_54_code 0 (.aload_n 0) 1 1 := ⟨by decide +kernel, rfl⟩
theorem i14_1 : Ins jdk_42_method_54_code 1 (.getfield 9) 3 4 := ⟨by decide +kernel, rfl⟩
theorem i14_4 : Ins jdk_42_method_54_code 4 (.arraylength) 1 5 := ⟨by decide +kernel, rfl⟩
theorem i14_5 : Ins jdk_42_method_54_code 5 (.aload_n 0) 1 6 := ⟨by decide +kernel, rfl⟩
theorem i14_6 : Ins jdk_42_method_54_code 6 (.invokevirtual 335) 3 9 := ⟨by decide +kernel, rfl⟩
theorem i14_9 : Ins jdk_42_method_54_code 9 (.ishr) 1 10 := ⟨by decide +kernel, rfl⟩
theorem i14_10 : Ins jdk_42_method_54_code 10 (.ireturn) 1 11 := ⟨by decide +kernel, rfl⟩
theorem i15_0 : Ins jdk_42_method_152_code 0 (.getstatic 38) 3 3 := ⟨by decide +kernel, rfl⟩
theorem i15_3 : Ins jdk_42_method_152_code 3 (.ifCond .eq 10) 3 6 := ⟨by decide +kernel, rfl⟩
theorem i15_6 : Ins jdk_42_method_152_code 6 (.aload_n 0) 1 7 := ⟨by decide +kernel, rfl⟩
theorem i15_7 : Ins jdk_42_method_152_code 7 (.getfield 15) 3 10 := ⟨by decide +kernel, rfl⟩
theorem i15_10 : Ins jdk_42_method_152_code 10 (.goto 4) 3 13 := ⟨by decide +kernel, rfl⟩
theorem i15_14 : Ins jdk_42_method_152_code 14 (.ireturn) 1 15 := ⟨by decide +kernel, rfl⟩
theorem i16_0 : Ins jdk_68_method_9_code 0 (.aload_n 0) 1 1 := ⟨by decide +kernel, rfl⟩
theorem i16_1 : Ins jdk_68_method_9_code 1 (.getfield 15) 3 4 := ⟨by decide +kernel, rfl⟩
theorem i16_4 : Ins jdk_68_method_9_code 4 (.arraylength) 1 5 := ⟨by decide +kernel, rfl⟩
theorem i16_5 : Ins jdk_68_method_9_code 5 (.aload_n 0) 1 6 := ⟨by decide +kernel, rfl⟩
theorem i16_6 : Ins jdk_68_method_9_code 6 (.getfield 22) 3 9 := ⟨by decide +kernel, rfl⟩
theorem i16_9 : Ins jdk_68_method_9_code 9 (.ishr) 1 10 := ⟨by decide +kernel, rfl⟩
theorem i16_10 : Ins jdk_68_method_9_code 10 (.istore_n 2) 1 11 := ⟨by decide +kernel, rfl⟩
theorem i16_11 : Ins jdk_68_method_9_code 11 (.iload_n 1) 1 12 := ⟨by decide +kernel, rfl⟩
theorem i16_12 : Ins jdk_68_method_9_code 12 (.iload_n 2) 1 13 := ⟨by decide +kernel, rfl⟩
theorem i16_13 : Ins jdk_68_method_9_code 13 (.isub) 1 14 := ⟨by decide +kernel, rfl⟩
theorem i16_14 : Ins jdk_68_method_9_code 14 (.ifCond .le 24) 3 17 := ⟨by decide +kernel, rfl⟩
theorem i16_17 : Ins jdk_68_method_9_code 17 (.aload_n 0) 1 18 := ⟨by decide +kernel, rfl⟩
theorem i16_18 : Ins jdk_68_method_9_code 18 (.aload_n 0) 1 19 := ⟨by decide +kernel, rfl⟩
theorem i16_19 : Ins jdk_68_method_9_code 19 (.getfield 15) 3 22 := ⟨by decide +kernel, rfl⟩
theorem i16_22 : Ins jdk_68_method_9_code 22 (.aload_n 0) 1 23 := ⟨by decide +kernel, rfl⟩
theorem i16_23 : Ins jdk_68_method_9_code 23 (.iload_n 1) 1 24 := ⟨by decide +kernel, rfl⟩
theorem i16_24 : Ins jdk_68_method_9_code 24 (.invokevirtual 104) 3 27 := ⟨by decide +kernel, rfl⟩
theorem i16_27 : Ins jdk_68_method_9_code 27 (.aload_n 0) 1 28 := ⟨by decide +kernel, rfl⟩
theorem i16_28 : Ins jdk_68_method_9_code 28 (.getfield 22) 3 31 := ⟨by decide +kernel, rfl⟩
theorem i16_31 : Ins jdk_68_method_9_code 31 (.ishl) 1 32 := ⟨by decide +kernel, rfl⟩
theorem i16_32 : Ins jdk_68_method_9_code 32 (.invokestatic 108) 3 35 := ⟨by decide +kernel, rfl⟩
theorem i16_35 : Ins jdk_68_method_9_code 35 (.putfield 15) 3 38 := ⟨by decide +kernel, rfl⟩
theorem i16_38 : Ins jdk_68_method_9_code 38 (.return_) 1 39 := ⟨by decide +kernel, rfl⟩
theorem i17_0 : Ins jdk_68_method_73_code 0 (.aload_n 0) 1 1 := ⟨by decide +kernel, rfl⟩
theorem i17_1 : Ins jdk_68_method_73_code 1 (.aload_n 2) 1 2 := ⟨by decide +kernel, rfl⟩
theorem i17_2 : Ins jdk_68_method_73_code 2 (.invokevirtual 397) 3 5 := ⟨by decide +kernel, rfl⟩
theorem i17_5 : Ins jdk_68_method_73_code 5 (.aload_n 2) 1 6 := ⟨by decide +kernel, rfl⟩
theorem i17_6 : Ins jdk_68_method_73_code 6 (.aload_n 0) 1 7 := ⟨by decide +kernel, rfl⟩
theorem i17_7 : Ins jdk_68_method_73_code 7 (.getfield 15) 3 10 := ⟨by decide +kernel, rfl⟩
theorem i17_10 : Ins jdk_68_method_73_code 10 (.iload_n 1) 1 11 := ⟨by decide +kernel, rfl⟩
theorem i17_11 : Ins jdk_68_method_73_code 11 (.aload_n 0) 1 12 := ⟨by decide +kernel, rfl⟩
theorem i17_12 : Ins jdk_68_method_73_code 12 (.getfield 22) 3 15 := ⟨by decide +kernel, rfl⟩
theorem i17_15 : Ins jdk_68_method_73_code 15 (.invokevirtual 399) 3 18 := ⟨by decide +kernel, rfl⟩
theorem i17_18 : Ins jdk_68_method_73_code 18 (.return_) 1 19 := ⟨by decide +kernel, rfl⟩
theorem i18_0 : Ins jdk_68_method_71_code 0 (.getstatic 18) 3 3 := ⟨by decide +kernel, rfl⟩
theorem i18_3 : Ins jdk_68_method_71_code 3 (.ifCond .eq 18) 3 6 := ⟨by decide +kernel, rfl⟩
theorem i18_6 : Ins jdk_68_method_71_code 6 (.aload_n 0) 1 7 := ⟨by decide +kernel, rfl⟩
theorem i18_7 : Ins jdk_68_method_71_code 7 (.getfield 22) 3 10 := ⟨by decide +kernel, rfl⟩
theorem i18_10 : Ins jdk_68_method_71_code 10 (.aload_n 1) 1 11 := ⟨by decide +kernel, rfl⟩
theorem i18_11 : Ins jdk_68_method_71_code 11 (.invokevirtual 40) 3 14 := ⟨by decide +kernel, rfl⟩
theorem i18_14 : Ins jdk_68_method_71_code 14 (.if_icmp .eq 7) 3 17 := ⟨by decide +kernel, rfl⟩
theorem i18_21 : Ins jdk_68_method_71_code 21 (.return_) 1 22 := ⟨by decide +kernel, rfl⟩
theorem i19_0 : Ins jdk_42_method_147_code 0 (.aload_n 0) 1 1 := ⟨by decide +kernel, rfl⟩
theorem i19_1 : Ins jdk_42_method_147_code 1 (.invokevirtual 335) 3 4 := ⟨by decide +kernel, rfl⟩
theorem i19_4 : Ins jdk_42_method_147_code 4 (.iload_n 3) 1 5 := ⟨by decide +kernel, rfl⟩
theorem i19_5 : Ins jdk_42_method_147_code 5 (.if_icmp .ne 23) 3 8 := ⟨by decide +kernel, rfl⟩
theorem i19_8 : Ins jdk_42_method_147_code 8 (.aload_n 0) 1 9 := ⟨by decide +kernel, rfl⟩
theorem i19_9 : Ins jdk_42_method_147_code 9 (.getfield 9) 3 12 := ⟨by decide +kernel, rfl⟩
theorem i19_12 : Ins jdk_42_method_147_code 12 (.iconst 0) 1 13 := ⟨by decide +kernel, rfl⟩
theorem i19_13 : Ins jdk_42_method_147_code 13 (.aload_n 1) 1 14 := ⟨by decide +kernel, rfl⟩
theorem i19_14 : Ins jdk_42_method_147_code 14 (.iload_n 2) 1 15 := ⟨by decide +kernel, rfl⟩
theorem i19_15 : Ins jdk_42_method_147_code 15 (.iload_n 3) 1 16 := ⟨by decide +kernel, rfl⟩
theorem i19_16 : Ins jdk_42_method_147_code 16 (.ishl) 1 17 := ⟨by decide +kernel, rfl⟩
theorem i19_17 : Ins jdk_42_method_147_code 17 (.aload_n 0) 1 18 := ⟨by decide +kernel, rfl⟩
theorem i19_18 : Ins jdk_42_method_147_code 18 (.getfield 9) 3 21 := ⟨by decide +kernel, rfl⟩
theorem i19_21 : Ins jdk_42_method_147_code 21 (.arraylength) 1 22 := ⟨by decide +kernel, rfl⟩
theorem i19_22 : Ins jdk_42_method_147_code 22 (.invokestatic 212) 3 25 := ⟨by decide +kernel, rfl⟩
theorem i19_25 : Ins jdk_42_method_147_code 25 (.goto 18) 3 28 := ⟨by decide +kernel, rfl⟩
theorem i19_43 : Ins jdk_42_method_147_code 43 (.return_) 1 44 := ⟨by decide +kernel, rfl⟩
theorem i20_0 : Ins jdk_68_method_10_code 0 (.aload_n 0) 1 1 := ⟨by decide +kernel, rfl⟩
theorem i20_1 : Ins jdk_68_method_10_code 1 (.getfield 15) 3 4 := ⟨by decide +kernel, rfl⟩
theorem i20_4 : Ins jdk_68_method_10_code 4 (.arraylength) 1 5 := ⟨by decide +kernel, rfl⟩
theorem i20_5 : Ins jdk_68_method_10_code 5 (.istore_n 2) 1 6 := ⟨by decide +kernel, rfl⟩
theorem i20_6 : Ins jdk_68_method_10_code 6 (.iload_n 1) 1 7 := ⟨by decide +kernel, rfl⟩
theorem i20_7 : Ins jdk_68_method_10_code 7 (.aload_n 0) 1 8 := ⟨by decide +kernel, rfl⟩
theorem i20_8 : Ins jdk_68_method_10_code 8 (.getfield 22) 3 11 := ⟨by decide +kernel, rfl⟩
theorem i20_11 : Ins jdk_68_method_10_code 11 (.ishl) 1 12 := ⟨by decide +kernel, rfl⟩
theorem i20_12 : Ins jdk_68_method_10_code 12 (.istore_n 3) 1 13 := ⟨by decide +kernel, rfl⟩
theorem i20_13 : Ins jdk_68_method_10_code 13 (.iload_n 3) 1 14 := ⟨by decide +kernel, rfl⟩
theorem i20_14 : Ins jdk_68_method_10_code 14 (.iload_n 2) 1 15 := ⟨by decide +kernel, rfl⟩
theorem i20_15 : Ins jdk_68_method_10_code 15 (.isub) 1 16 := ⟨by decide +kernel, rfl⟩
theorem i20_16 : Ins jdk_68_method_10_code 16 (.istore 4) 2 18 := ⟨by decide +kernel, rfl⟩
theorem i20_18 : Ins jdk_68_method_10_code 18 (.iload_n 2) 1 19 := ⟨by decide +kernel, rfl⟩
theorem i20_19 : Ins jdk_68_method_10_code 19 (.iload 4) 2 21 := ⟨by decide +kernel, rfl⟩
theorem i20_21 : Ins jdk_68_method_10_code 21 (.iload_n 2) 1 22 := ⟨by decide +kernel, rfl⟩
theorem i20_22 : Ins jdk_68_method_10_code 22 (.iconst 2) 1 23 := ⟨by decide +kernel, rfl⟩
theorem i20_23 : Ins jdk_68_method_10_code 23 (.aload_n 0) 1 24 := ⟨by decide +kernel, rfl⟩
theorem i20_24 : Ins jdk_68_method_10_code 24 (.getfield 22) 3 27 := ⟨by decide +kernel, rfl⟩
theorem i20_27 : Ins jdk_68_method_10_code 27 (.ishl) 1 28 := ⟨by decide +kernel, rfl⟩
theorem i20_28 : Ins jdk_68_method_10_code 28 (.iadd) 1 29 := ⟨by decide +kernel, rfl⟩
theorem i20_29 : Ins jdk_68_method_10_code 29 (.invokestatic 114) 3 32 := ⟨by decide +kernel, rfl⟩
theorem i20_32 : Ins jdk_68_method_10_code 32 (.istore 5) 2 34 := ⟨by decide +kernel, rfl⟩
theorem i20_34 : Ins jdk_68_method_10_code 34 (.iload 5) 2 36 := ⟨by decide +kernel, rfl⟩
theorem i20_36 : Ins jdk_68_method_10_code 36 (.ldc 39) 2 38 := ⟨by decide +kernel, rfl⟩
theorem i20_38 : Ins jdk_68_method_10_code 38 (.if_icmp .ne 13) 3 41 := ⟨by decide +kernel, rfl⟩
theorem i20_51 : Ins jdk_68_method_10_code 51 (.iload 5) 2 53 := ⟨by decide +kernel, rfl⟩
theorem i20_53 : Ins jdk_68_method_10_code 53 (.aload_n 0) 1 54 := ⟨by decide +kernel, rfl⟩
theorem i20_54 : Ins jdk_68_method_10_code 54 (.getfield 22) 3 57 := ⟨by decide +kernel, rfl⟩
theorem i20_57 : Ins jdk_68_method_10_code 57 (.ishr) 1 58 := ⟨by decide +kernel, rfl⟩
theorem i20_58 : Ins jdk_68_method_10_code 58 (.ireturn) 1 59 := ⟨by decide +kernel, rfl⟩
theorem i21_0 : Ins jdk_48_method_27_code 0 (.iload_n 0) 1 1 := ⟨by decide +kernel, rfl⟩
theorem i21_1 : Ins jdk_48_method_27_code 1 (.iload_n 1) 1 2 := ⟨by decide +kernel, rfl⟩
theorem i21_2 : Ins jdk_48_method_27_code 2 (.iload_n 2) 1 3 := ⟨by decide +kernel, rfl⟩
theorem i21_3 : Ins jdk_48_method_27_code 3 (.invokestatic 194) 3 6 := ⟨by decide +kernel, rfl⟩
theorem i21_6 : Ins jdk_48_method_27_code 6 (.iadd) 1 7 := ⟨by decide +kernel, rfl⟩
theorem i21_7 : Ins jdk_48_method_27_code 7 (.istore_n 3) 1 8 := ⟨by decide +kernel, rfl⟩
theorem i21_8 : Ins jdk_48_method_27_code 8 (.iconst 0) 1 9 := ⟨by decide +kernel, rfl⟩
theorem i21_9 : Ins jdk_48_method_27_code 9 (.iload_n 3) 1 10 := ⟨by decide +kernel, rfl⟩
theorem i21_10 : Ins jdk_48_method_27_code 10 (.if_icmp .ge 11) 3 13 := ⟨by decide +kernel, rfl⟩
theorem i21_13 : Ins jdk_48_method_27_code 13 (.iload_n 3) 1 14 := ⟨by decide +kernel, rfl⟩
theorem i21_14 : Ins jdk_48_method_27_code 14 (.ldc 200) 2 16 := ⟨by decide +kernel, rfl⟩
theorem i21_16 : Ins jdk_48_method_27_code 16 (.if_icmp .gt 5) 3 19 := ⟨by decide +kernel, rfl⟩
theorem i21_19 : Ins jdk_48_method_27_code 19 (.iload_n 3) 1 20 := ⟨by decide +kernel, rfl⟩
theorem i21_20 : Ins jdk_48_method_27_code 20 (.ireturn) 1 21 := ⟨by decide +kernel, rfl⟩
theorem i22_0 : Ins jdk_29_method_65_code 0 (.iload_n 0) 1 1 := ⟨by decide +kernel, rfl⟩
theorem i22_1 : Ins jdk_29_method_65_code 1 (.iload_n 1) 1 2 := ⟨by decide +kernel, rfl⟩
theorem i22_2 : Ins jdk_29_method_65_code 2 (.if_icmp .lt 7) 3 5 := ⟨by decide +kernel, rfl⟩
theorem i22_5 : Ins jdk_29_method_65_code 5 (.iload_n 0) 1 6 := ⟨by decide +kernel, rfl⟩
theorem i22_6 : Ins jdk_29_method_65_code 6 (.goto 4) 3 9 := ⟨by decide +kernel, rfl⟩
theorem i22_9 : Ins jdk_29_method_65_code 9 (.iload_n 1) 1 10 := ⟨by decide +kernel, rfl⟩
theorem i22_10 : Ins jdk_29_method_65_code 10 (.ireturn) 1 11 := ⟨by decide +kernel, rfl⟩
theorem i23_0 : Ins jdk_65_method_121_code 0 (.iload_n 1) 1 1 := ⟨by decide +kernel, rfl⟩
theorem i23_1 : Ins jdk_65_method_121_code 1 (.aload_n 0) 1 2 := ⟨by decide +kernel, rfl⟩
theorem i23_2 : Ins jdk_65_method_121_code 2 (.arraylength) 1 3 := ⟨by decide +kernel, rfl⟩
theorem i23_3 : Ins jdk_65_method_121_code 3 (.if_icmp .ne 11) 3 6 := ⟨by decide +kernel, rfl⟩
theorem i23_14 : Ins jdk_65_method_121_code 14 (.iload_n 1) 1 15 := ⟨by decide +kernel, rfl⟩
theorem i23_15 : Ins jdk_65_method_121_code 15 (.newarray .byte) 2 17 := ⟨by decide +kernel, rfl⟩
theorem i23_17 : Ins jdk_65_method_121_code 17 (.astore_n 2) 1 18 := ⟨by decide +kernel, rfl⟩
theorem i23_18 : Ins jdk_65_method_121_code 18 (.aload_n 0) 1 19 := ⟨by decide +kernel, rfl⟩
theorem i23_19 : Ins jdk_65_method_121_code 19 (.iconst 0) 1 20 := ⟨by decide +kernel, rfl⟩
theorem i23_20 : Ins jdk_65_method_121_code 20 (.aload_n 2) 1 21 := ⟨by decide +kernel, rfl⟩
theorem i23_21 : Ins jdk_65_method_121_code 21 (.iconst 0) 1 22 := ⟨by decide +kernel, rfl⟩
theorem i23_22 : Ins jdk_65_method_121_code 22 (.aload_n 0) 1 23 := ⟨by decide +kernel, rfl⟩
theorem i23_23 : Ins jdk_65_method_121_code 23 (.arraylength) 1 24 := ⟨by decide +kernel, rfl⟩
theorem i23_24 : Ins jdk_65_method_121_code 24 (.iload_n 1) 1 25 := ⟨by decide +kernel, rfl⟩
theorem i23_25 : Ins jdk_65_method_121_code 25 (.invokestatic 304) 3 28 := ⟨by decide +kernel, rfl⟩
theorem i23_28 : Ins jdk_65_method_121_code 28 (.invokestatic 150) 3 31 := ⟨by decide +kernel, rfl⟩
theorem i23_31 : Ins jdk_65_method_121_code 31 (.aload_n 2) 1 32 := ⟨by decide +kernel, rfl⟩
theorem i23_32 : Ins jdk_65_method_121_code 32 (.areturn) 1 33 := ⟨by decide +kernel, rfl⟩
theorem i24_0 : Ins jdk_29_method_69_code 0 (.iload_n 0) 1 1 := ⟨by decide +kernel, rfl⟩
theorem i24_1 : Ins jdk_29_method_69_code 1 (.iload_n 1) 1 2 := ⟨by decide +kernel, rfl⟩
theorem i24_2 : Ins jdk_29_method_69_code 2 (.if_icmp .gt 7) 3 5 := ⟨by decide +kernel, rfl⟩
theorem i24_5 : Ins jdk_29_method_69_code 5 (.iload_n 0) 1 6 := ⟨by decide +kernel, rfl⟩
theorem i24_6 : Ins jdk_29_method_69_code 6 (.goto 4) 3 9 := ⟨by decide +kernel, rfl⟩
theorem i24_9 : Ins jdk_29_method_69_code 9 (.iload_n 1) 1 10 := ⟨by decide +kernel, rfl⟩
theorem i24_10 : Ins jdk_29_method_69_code 10 (.ireturn) 1 11 := ⟨by decide +kernel, rfl⟩
theorem i25_0 : Ins jdk_67_method_42_code 0 (.new 18) 3 3 := ⟨by decide +kernel, rfl⟩
theorem i25_3 : Ins jdk_67_method_42_code 3 (.dup) 1 4 := ⟨by decide +kernel, rfl⟩
theorem i25_4 : Ins jdk_67_method_42_code 4 (.aload_n 0) 1 5 := ⟨by decide +kernel, rfl⟩
theorem i25_5 : Ins jdk_67_method_42_code 5 (.invokespecial 137) 3 8 := ⟨by decide +kernel, rfl⟩
theorem i25_8 : Ins jdk_67_method_42_code 8 (.areturn) 1 9 := ⟨by decide +kernel, rfl⟩
theorem i26_0 : Ins jdk_42_method_53_code 0 (.aload_n 0) 1 1 := ⟨by decide +kernel, rfl⟩
theorem i26_1 : Ins jdk_42_method_53_code 1 (.aload_n 1) 1 2 := ⟨by decide +kernel, rfl⟩
theorem i26_2 : Ins jdk_42_method_53_code 2 (.aconst_null) 1 3 := ⟨by decide +kernel, rfl⟩
theorem i26_3 : Ins jdk_42_method_53_code 3 (.invokespecial 489) 3 6 := ⟨by decide +kernel, rfl⟩
theorem i26_6 : Ins jdk_42_method_53_code 6 (.return_) 1 7 := ⟨by decide +kernel, rfl⟩
theorem i27_0 : Ins jdk_42_method_150_code 0 (.aload_n 0) 1 1 := ⟨by decide +kernel, rfl⟩
theorem i27_1 : Ins jdk_42_method_150_code 1 (.invokespecial 1) 3 4 := ⟨by decide +kernel, rfl⟩
theorem i27_4 : Ins jdk_42_method_150_code 4 (.aload_n 1) 1 5 := ⟨by decide +kernel, rfl⟩
theorem i27_5 : Ins jdk_42_method_150_code 5 (.invokevirtual 552) 3 8 := ⟨by decide +kernel, rfl⟩
theorem i27_8 : Ins jdk_42_method_150_code 8 (.astore_n 3) 1 9 := ⟨by decide +kernel, rfl⟩
theorem i27_9 : Ins jdk_42_method_150_code 9 (.aload_n 1) 1 10 := ⟨by decide +kernel, rfl⟩
theorem i27_10 : Ins jdk_42_method_150_code 10 (.invokevirtual 549) 3 13 := ⟨by decide +kernel, rfl⟩
theorem i27_13 : Ins jdk_42_method_150_code 13 (.istore 4) 2 15 := ⟨by decide +kernel, rfl⟩
theorem i27_15 : Ins jdk_42_method_150_code 15 (.aload_n 1) 1 16 := ⟨by decide +kernel, rfl⟩
theorem i27_16 : Ins jdk_42_method_150_code 16 (.invokevirtual 1047) 3 19 := ⟨by decide +kernel, rfl⟩
theorem i27_19 : Ins jdk_42_method_150_code 19 (.ifCond .eq 22) 3 22 := ⟨by decide +kernel, rfl⟩
theorem i27_22 : Ins jdk_42_method_150_code 22 (.aload_n 0) 1 23 := ⟨by decide +kernel, rfl⟩
theorem i27_23 : Ins jdk_42_method_150_code 23 (.iconst 0) 1 24 := ⟨by decide +kernel, rfl⟩
theorem i27_24 : Ins jdk_42_method_150_code 24 (.putfield 15) 3 27 := ⟨by decide +kernel, rfl⟩
theorem i27_27 : Ins jdk_42_method_150_code 27 (.aload_n 0) 1 28 := ⟨by decide +kernel, rfl⟩
theorem i27_28 : Ins jdk_42_method_150_code 28 (.aload_n 3) 1 29 := ⟨by decide +kernel, rfl⟩
theorem i27_29 : Ins jdk_42_method_150_code 29 (.iconst 0) 1 30 := ⟨by decide +kernel, rfl⟩
theorem i27_30 : Ins jdk_42_method_150_code 30 (.iload 4) 2 32 := ⟨by decide +kernel, rfl⟩
theorem i27_32 : Ins jdk_42_method_150_code 32 (.invokestatic 54) 3 35 := ⟨by decide +kernel, rfl⟩
theorem i27_35 : Ins jdk_42_method_150_code 35 (.putfield 9) 3 38 := ⟨by decide +kernel, rfl⟩
theorem i27_38 : Ins jdk_42_method_150_code 38 (.goto 59) 3 41 := ⟨by decide +kernel, rfl⟩
theorem i27_97 : Ins jdk_42_method_150_code 97 (.return_) 1 98 := ⟨by decide +kernel, rfl⟩
theorem i28_0 : Ins jdk_68_method_64_code 0 (.aload_n 0) 1 1 := ⟨by decide +kernel, rfl⟩
theorem i28_1 : Ins jdk_68_method_64_code 1 (.getfield 15) 3 4 := ⟨by decide +kernel, rfl⟩
theorem i28_4 : Ins jdk_68_method_64_code 4 (.areturn) 1 5 := ⟨by decide +kernel, rfl⟩
theorem i29_0 : Ins jdk_67_method_93_code 0 (.aload_n 0) 1 1 := ⟨by decide +kernel, rfl⟩
theorem i29_1 : Ins jdk_67_method_93_code 1 (.invokespecial 343) 3 4 := ⟨by decide +kernel, rfl⟩
theorem i29_4 : Ins jdk_67_method_93_code 4 (.ireturn) 1 5 := ⟨by decide +kernel, rfl⟩
theorem i30_0 : Ins jdk_68_method_6_code 0 (.aload_n 0) 1 1 := ⟨by decide +kernel, rfl⟩
theorem i30_1 : Ins jdk_68_method_6_code 1 (.getfield 79) 3 4 := ⟨by decide +kernel, rfl⟩
theorem i30_4 : Ins jdk_68_method_6_code 4 (.ireturn) 1 5 := ⟨by decide +kernel, rfl⟩
theorem i31_0 : Ins jdk_68_method_68_code 0 (.getstatic 18) 3 3 := ⟨by decide +kernel, rfl⟩
theorem i31_3 : Ins jdk_68_method_68_code 3 (.ifCond .eq 14) 3 6 := ⟨by decide +kernel, rfl⟩
theorem i31_6 : Ins jdk_68_method_68_code 6 (.aload_n 0) 1 7 := ⟨by decide +kernel, rfl⟩
theorem i31_7 : Ins jdk_68_method_68_code 7 (.getfield 22) 3 10 := ⟨by decide +kernel, rfl⟩
theorem i31_10 : Ins jdk_68_method_68_code 10 (.ifCond .ne 7) 3 13 := ⟨by decide +kernel, rfl⟩
theorem i31_13 : Ins jdk_68_method_68_code 13 (.iconst 1) 1 14 := ⟨by decide +kernel, rfl⟩
theorem i31_14 : Ins jdk_68_method_68_code 14 (.goto 4) 3 17 := ⟨by decide +kernel, rfl⟩
theorem i31_18 : Ins jdk_68_method_68_code 18 (.ireturn) 1 19 := ⟨by decide +kernel, rfl⟩
theorem i32_0 : Ins jdk_65_method_132_code 0 (.iload_n 1) 1 1 := ⟨by decide +kernel, rfl⟩
theorem i32_1 : Ins jdk_65_method_132_code 1 (.ifCond .ne 9) 3 4 := ⟨by decide +kernel, rfl⟩
theorem i32_4 : Ins jdk_65_method_132_code 4 (.iload_n 2) 1 5 := ⟨by decide +kernel, rfl⟩
theorem i32_5 : Ins jdk_65_method_132_code 5 (.aload_n 0) 1 6 := ⟨by decide +kernel, rfl⟩
theorem i32_6 : Ins jdk_65_method_132_code 6 (.arraylength) 1 7 := ⟨by decide +kernel, rfl⟩
theorem i32_7 : Ins jdk_65_method_132_code 7 (.if_icmp .eq 10) 3 10 := ⟨by decide +kernel, rfl⟩
theorem i32_17 : Ins jdk_65_method_132_code 17 (.aload_n 0) 1 18 := ⟨by decide +kernel, rfl⟩
theorem i32_18 : Ins jdk_65_method_132_code 18 (.invokevirtual 310) 3 21 := ⟨by decide +kernel, rfl⟩
theorem i32_21 : Ins jdk_65_method_132_code 21 (.checkcast 311) 3 24 := ⟨by decide +kernel, rfl⟩
theorem i32_24 : Ins jdk_65_method_132_code 24 (.areturn) 1 25 := ⟨by decide +kernel, rfl⟩
theorem i33_0 : Ins prog_64_method_2_code 0 (.aload_n 0) 1 1 := ⟨by decide +kernel, rfl⟩
theorem i33_1 : Ins prog_64_method_2_code 1 (.aload_n 1) 1 2 := ⟨by decide +kernel, rfl⟩
theorem i33_2 : Ins prog_64_method_2_code 2 (.invokespecial 22) 3 5 := ⟨by decide +kernel, rfl⟩
theorem i33_5 : Ins prog_64_method_2_code 5 (.return_) 1 6 := ⟨by decide +kernel, rfl⟩
theorem i34_0 : Ins prog_58_method_1_code 0 (.aload_n 0) 1 1 := ⟨by decide +kernel, rfl⟩
theorem i34_1 : Ins prog_58_method_1_code 1 (.aload_n 1) 1 2 := ⟨by decide +kernel, rfl⟩
theorem i34_2 : Ins prog_58_method_1_code 2 (.invokespecial 1) 3 5 := ⟨by decide +kernel, rfl⟩
theorem i34_5 : Ins prog_58_method_1_code 5 (.return_) 1 6 := ⟨by decide +kernel, rfl⟩
theorem i35_0 : Ins jdk_58_method_2_code 0 (.aload_n 0) 1 1 := ⟨by decide +kernel, rfl⟩
theorem i35_1 : Ins jdk_58_method_2_code 1 (.aload_n 1) 1 2 := ⟨by decide +kernel, rfl⟩
theorem i35_2 : Ins jdk_58_method_2_code 2 (.invokespecial 7) 3 5 := ⟨by decide +kernel, rfl⟩
theorem i35_5 : Ins jdk_58_method_2_code 5 (.return_) 1 6 := ⟨by decide +kernel, rfl⟩
theorem i36_0 : Ins jdk_59_method_2_code 0 (.aload_n 0) 1 1 := ⟨by decide +kernel, rfl⟩
theorem i36_1 : Ins jdk_59_method_2_code 1 (.aload_n 1) 1 2 := ⟨by decide +kernel, rfl⟩
theorem i36_2 : Ins jdk_59_method_2_code 2 (.invokespecial 7) 3 5 := ⟨by decide +kernel, rfl⟩
theorem i36_5 : Ins jdk_59_method_2_code 5 (.return_) 1 6 := ⟨by decide +kernel, rfl⟩
theorem i37_0 : Ins jdk_78_method_2_code 0 (.aload_n 0) 1 1 := ⟨by decide +kernel, rfl⟩
theorem i37_1 : Ins jdk_78_method_2_code 1 (.invokespecial 1) 3 4 := ⟨by decide +kernel, rfl⟩
theorem i37_4 : Ins jdk_78_method_2_code 4 (.aload_n 0) 1 5 := ⟨by decide +kernel, rfl⟩
theorem i37_5 : Ins jdk_78_method_2_code 5 (.aload_n 0) 1 6 := ⟨by decide +kernel, rfl⟩
theorem i37_6 : Ins jdk_78_method_2_code 6 (.putfield 7) 3 9 := ⟨by decide +kernel, rfl⟩
theorem i37_9 : Ins jdk_78_method_2_code 9 (.aload_n 0) 1 10 := ⟨by decide +kernel, rfl⟩
theorem i37_10 : Ins jdk_78_method_2_code 10 (.getstatic 13) 3 13 := ⟨by decide +kernel, rfl⟩
theorem i37_13 : Ins jdk_78_method_2_code 13 (.putfield 17) 3 16 := ⟨by decide +kernel, rfl⟩
theorem i37_16 : Ins jdk_78_method_2_code 16 (.aload_n 0) 1 17 := ⟨by decide +kernel, rfl⟩
theorem i37_17 : Ins jdk_78_method_2_code 17 (.getstatic 20) 3 20 := ⟨by decide +kernel, rfl⟩
theorem i37_20 : Ins jdk_78_method_2_code 20 (.putfield 24) 3 23 := ⟨by decide +kernel, rfl⟩
theorem i37_23 : Ins jdk_78_method_2_code 23 (.aload_n 0) 1 24 := ⟨by decide +kernel, rfl⟩
theorem i37_24 : Ins jdk_78_method_2_code 24 (.invokevirtual 27) 3 27 := ⟨by decide +kernel, rfl⟩
theorem i37_27 : Ins jdk_78_method_2_code 27 (.pop) 1 28 := ⟨by decide +kernel, rfl⟩
theorem i37_28 : Ins jdk_78_method_2_code 28 (.aload_n 0) 1 29 := ⟨by decide +kernel, rfl⟩
theorem i37_29 : Ins jdk_78_method_2_code 29 (.aload_n 1) 1 30 := ⟨by decide +kernel, rfl⟩
theorem i37_30 : Ins jdk_78_method_2_code 30 (.putfield 31) 3 33 := ⟨by decide +kernel, rfl⟩
theorem i37_33 : Ins jdk_78_method_2_code 33 (.return_) 1 34 := ⟨by decide +kernel, rfl⟩
theorem i40_0 : Ins prog_64_method_3_code 0 (.new 25) 3 3 := ⟨by decide +kernel, rfl⟩
theorem i40_3 : Ins prog_64_method_3_code 3 (.dup) 1 4 := ⟨by decide +kernel, rfl⟩
theorem i40_4 : Ins prog_64_method_3_code 4 (.new 1) 3 7 := ⟨by decide +kernel, rfl⟩
theorem i40_7 : Ins prog_64_method_3_code 7 (.dup) 1 8 := ⟨by decide +kernel, rfl⟩
theorem i40_8 : Ins prog_64_method_3_code 8 (.invokespecial 3) 3 11 := ⟨by decide +kernel, rfl⟩
theorem i40_11 : Ins prog_64_method_3_code 11 (.aload_n 0) 1 12 := ⟨by decide +kernel, rfl⟩
theorem i40_12 : Ins prog_64_method_3_code 12 (.invokevirtual 7) 3 15 := ⟨by decide +kernel, rfl⟩
theorem i40_15 : Ins prog_64_method_3_code 15 (.ldc 27) 2 17 := ⟨by decide +kernel, rfl⟩
theorem i40_17 : Ins prog_64_method_3_code 17 (.invokevirtual 7) 3 20 := ⟨by decide +kernel, rfl⟩
theorem i40_20 : Ins prog_64_method_3_code 20 (.invokevirtual 13) 3 23 := ⟨by decide +kernel, rfl⟩
theorem i40_23 : Ins prog_64_method_3_code 23 (.invokespecial 29) 3 26 := ⟨by decide +kernel, rfl⟩
theorem i40_26 : Ins prog_64_method_3_code 26 (.areturn) 1 27 := ⟨by decide +kernel, rfl⟩
theorem i42_0 : Ins jdk_78_method_6_code 0 (.aload_n 0) 1 1 := ⟨by decide +kernel, rfl⟩
theorem i42_1 : Ins jdk_78_method_6_code 1 (.getfield 31) 3 4 := ⟨by decide +kernel, rfl⟩
theorem i42_4 : Ins jdk_78_method_6_code 4 (.areturn) 1 5 := ⟨by decide +kernel, rfl⟩
theorem i43_0 : Ins jdk_42_method_56_code 0 (.aload_n 0) 1 1 := ⟨by decide +kernel, rfl⟩
theorem i43_1 : Ins jdk_42_method_56_code 1 (.invokevirtual 492) 3 4 := ⟨by decide +kernel, rfl⟩
theorem i43_4 : Ins jdk_42_method_56_code 4 (.ifCond .eq 12) 3 7 := ⟨by decide +kernel, rfl⟩
theorem i43_7 : Ins jdk_42_method_56_code 7 (.aload_n 0) 1 8 := ⟨by decide +kernel, rfl⟩
theorem i43_8 : Ins jdk_42_method_56_code 8 (.getfield 9) 3 11 := ⟨by decide +kernel, rfl⟩
theorem i43_11 : Ins jdk_42_method_56_code 11 (.iload_n 1) 1 12 := ⟨by decide +kernel, rfl⟩
theorem i43_12 : Ins jdk_42_method_56_code 12 (.invokestatic 495) 3 15 := ⟨by decide +kernel, rfl⟩
theorem i43_15 : Ins jdk_42_method_56_code 15 (.ireturn) 1 16 := ⟨by decide +kernel, rfl⟩
theorem i44_0 : Ins jdk_42_method_154_code 0 (.getstatic 38) 3 3 := ⟨by decide +kernel, rfl⟩
theorem i44_3 : Ins jdk_42_method_154_code 3 (.ifCond .eq 14) 3 6 := ⟨by decide +kernel, rfl⟩
theorem i44_6 : Ins jdk_42_method_154_code 6 (.aload_n 0) 1 7 := ⟨by decide +kernel, rfl⟩
theorem i44_7 : Ins jdk_42_method_154_code 7 (.getfield 15) 3 10 := ⟨by decide +kernel, rfl⟩
theorem i44_10 : Ins jdk_42_method_154_code 10 (.ifCond .ne 7) 3 13 := ⟨by decide +kernel, rfl⟩
theorem i44_13 : Ins jdk_42_method_154_code 13 (.iconst 1) 1 14 := ⟨by decide +kernel, rfl⟩
theorem i44_14 : Ins jdk_42_method_154_code 14 (.goto 4) 3 17 := ⟨by decide +kernel, rfl⟩
theorem i44_18 : Ins jdk_42_method_154_code 18 (.ireturn) 1 19 := ⟨by decide +kernel, rfl⟩
theorem i45_0 : Ins jdk_43_method_2_code 0 (.iload_n 1) 1 1 := ⟨by decide +kernel, rfl⟩
theorem i45_1 : Ins jdk_43_method_2_code 1 (.aload_n 0) 1 2 := ⟨by decide +kernel, rfl⟩
theorem i45_2 : Ins jdk_43_method_2_code 2 (.arraylength) 1 3 := ⟨by decide +kernel, rfl⟩
theorem i45_3 : Ins jdk_43_method_2_code 3 (.invokestatic 9) 3 6 := ⟨by decide +kernel, rfl⟩
theorem i45_6 : Ins jdk_43_method_2_code 6 (.aload_n 0) 1 7 := ⟨by decide +kernel, rfl⟩
theorem i45_7 : Ins jdk_43_method_2_code 7 (.iload_n 1) 1 8 := ⟨by decide +kernel, rfl⟩
theorem i45_8 : Ins jdk_43_method_2_code 8 (.baload) 1 9 := ⟨by decide +kernel, rfl⟩
theorem i45_9 : Ins jdk_43_method_2_code 9 (.sipush 255) 3 12 := ⟨by decide +kernel, rfl⟩
theorem i45_12 : Ins jdk_43_method_2_code 12 (.iand) 1 13 := ⟨by decide +kernel, rfl⟩
theorem i45_13 : Ins jdk_43_method_2_code 13 (.i2c) 1 14 := ⟨by decide +kernel, rfl⟩
theorem i45_14 : Ins jdk_43_method_2_code 14 (.ireturn) 1 15 := ⟨by decide +kernel, rfl⟩
theorem i46_0 : Ins jdk_42_method_155_code 0 (.iload_n 0) 1 1 := ⟨by decide +kernel, rfl⟩
theorem i46_1 : Ins jdk_42_method_155_code 1 (.iload_n 1) 1 2 := ⟨by decide +kernel, rfl⟩
theorem i46_2 : Ins jdk_42_method_155_code 2 (.getstatic 1053) 3 5 := ⟨by decide +kernel, rfl⟩
theorem i46_5 : Ins jdk_42_method_155_code 5 (.invokestatic 1059) 3 8 := ⟨by decide +kernel, rfl⟩
theorem i46_8 : Ins jdk_42_method_155_code 8 (.pop) 1 9 := ⟨by decide +kernel, rfl⟩
theorem i46_9 : Ins jdk_42_method_155_code 9 (.return_) 1 10 := ⟨by decide +kernel, rfl⟩
theorem i47_0 : Ins jdk_41_method_11_code 0 (.iload_n 0) 1 1 := ⟨by decide +kernel, rfl⟩
theorem i47_1 : Ins jdk_41_method_11_code 1 (.ifCond .lt 8) 3 4 := ⟨by decide +kernel, rfl⟩
theorem i47_4 : Ins jdk_41_method_11_code 4 (.iload_n 0) 1 5 := ⟨by decide +kernel, rfl⟩
theorem i47_5 : Ins jdk_41_method_11_code 5 (.iload_n 1) 1 6 := ⟨by decide +kernel, rfl⟩
theorem i47_6 : Ins jdk_41_method_11_code 6 (.if_icmp .lt 10) 3 9 := ⟨by decide +kernel, rfl⟩
theorem i47_16 : Ins jdk_41_method_11_code 16 (.iload_n 0) 1 17 := ⟨by decide +kernel, rfl⟩
theorem i47_17 : Ins jdk_41_method_11_code 17 (.ireturn) 1 18 := ⟨by decide +kernel, rfl⟩
theorem i48_0 : Ins jdk_42_method_66_code 0 (.aload_n 0) 1 1 := ⟨by decide +kernel, rfl⟩
theorem i48_1 : Ins jdk_42_method_66_code 1 (.aload_n 1) 1 2 := ⟨by decide +kernel, rfl⟩
theorem i48_2 : Ins jdk_42_method_66_code 2 (.if_acmp .ne 5) 3 5 := ⟨by decide +kernel, rfl⟩
theorem i48_7 : Ins jdk_42_method_66_code 7 (.aload_n 1) 1 8 := ⟨by decide +kernel, rfl⟩
theorem i48_8 : Ins jdk_42_method_66_code 8 (.instanceof 10) 3 11 := ⟨by decide +kernel, rfl⟩
theorem i48_11 : Ins jdk_42_method_66_code 11 (.ifCond .eq 43) 3 14 := ⟨by decide +kernel, rfl⟩
theorem i48_14 : Ins jdk_42_method_66_code 14 (.aload_n 1) 1 15 := ⟨by decide +kernel, rfl⟩
theorem i48_15 : Ins jdk_42_method_66_code 15 (.checkcast 10) 3 18 := ⟨by decide +kernel, rfl⟩
theorem i48_18 : Ins jdk_42_method_66_code 18 (.astore_n 2) 1 19 := ⟨by decide +kernel, rfl⟩
theorem i48_19 : Ins jdk_42_method_66_code 19 (.getstatic 38) 3 22 := ⟨by decide +kernel, rfl⟩
theorem i48_22 : Ins jdk_42_method_66_code 22 (.ifCond .eq 14) 3 25 := ⟨by decide +kernel, rfl⟩
theorem i48_25 : Ins jdk_42_method_66_code 25 (.aload_n 0) 1 26 := ⟨by decide +kernel, rfl⟩
theorem i48_26 : Ins jdk_42_method_66_code 26 (.getfield 15) 3 29 := ⟨by decide +kernel, rfl⟩
theorem i48_29 : Ins jdk_42_method_66_code 29 (.aload_n 2) 1 30 := ⟨by decide +kernel, rfl⟩
theorem i48_30 : Ins jdk_42_method_66_code 30 (.getfield 15) 3 33 := ⟨by decide +kernel, rfl⟩
theorem i48_33 : Ins jdk_42_method_66_code 33 (.if_icmp .ne 21) 3 36 := ⟨by decide +kernel, rfl⟩
theorem i48_36 : Ins jdk_42_method_66_code 36 (.aload_n 0) 1 37 := ⟨by decide +kernel, rfl⟩
theorem i48_37 : Ins jdk_42_method_66_code 37 (.getfield 9) 3 40 := ⟨by decide +kernel, rfl⟩
theorem i48_40 : Ins jdk_42_method_66_code 40 (.aload_n 2) 1 41 := ⟨by decide +kernel, rfl⟩
theorem i48_41 : Ins jdk_42_method_66_code 41 (.getfield 9) 3 44 := ⟨by decide +kernel, rfl⟩
theorem i48_44 : Ins jdk_42_method_66_code 44 (.invokestatic 541) 3 47 := ⟨by decide +kernel, rfl⟩
theorem i48_47 : Ins jdk_42_method_66_code 47 (.ifCond .eq 7) 3 50 := ⟨by decide +kernel, rfl⟩
theorem i48_50 : Ins jdk_42_method_66_code 50 (.iconst 1) 1 51 := ⟨by decide +kernel, rfl⟩
theorem i48_51 : Ins jdk_42_method_66_code 51 (.goto 4) 3 54 := ⟨by decide +kernel, rfl⟩
theorem i48_54 : Ins jdk_42_method_66_code 54 (.iconst 0) 1 55 := ⟨by decide +kernel, rfl⟩
theorem i48_55 : Ins jdk_42_method_66_code 55 (.ireturn) 1 56 := ⟨by decide +kernel, rfl⟩
theorem i49_0 : Ins jdk_43_method_13_code 0 (.aload_n 0) 1 1 := ⟨by decide +kernel, rfl⟩
theorem i49_1 : Ins jdk_43_method_13_code 1 (.arraylength) 1 2 := ⟨by decide +kernel, rfl⟩
theorem i49_2 : Ins jdk_43_method_13_code 2 (.aload_n 1) 1 3 := ⟨by decide +kernel, rfl⟩
theorem i49_3 : Ins jdk_43_method_13_code 3 (.arraylength) 1 4 := ⟨by decide +kernel, rfl⟩
theorem i49_4 : Ins jdk_43_method_13_code 4 (.if_icmp .ne 30) 3 7 := ⟨by decide +kernel, rfl⟩
theorem i49_7 : Ins jdk_43_method_13_code 7 (.iconst 0) 1 8 := ⟨by decide +kernel, rfl⟩
theorem i49_8 : Ins jdk_43_method_13_code 8 (.istore_n 2) 1 9 := ⟨by decide +kernel, rfl⟩
theorem i49_9 : Ins jdk_43_method_13_code 9 (.iload_n 2) 1 10 := ⟨by decide +kernel, rfl⟩
theorem i49_10 : Ins jdk_43_method_13_code 10 (.aload_n 0) 1 11 := ⟨by decide +kernel, rfl⟩
theorem i49_11 : Ins jdk_43_method_13_code 11 (.arraylength) 1 12 := ⟨by decide +kernel, rfl⟩
theorem i49_12 : Ins jdk_43_method_13_code 12 (.if_icmp .ge 20) 3 15 := ⟨by decide +kernel, rfl⟩
theorem i49_15 : Ins jdk_43_method_13_code 15 (.aload_n 0) 1 16 := ⟨by decide +kernel, rfl⟩
theorem i49_16 : Ins jdk_43_method_13_code 16 (.iload_n 2) 1 17 := ⟨by decide +kernel, rfl⟩
theorem i49_17 : Ins jdk_43_method_13_code 17 (.baload) 1 18 := ⟨by decide +kernel, rfl⟩
theorem i49_18 : Ins jdk_43_method_13_code 18 (.aload_n 1) 1 19 := ⟨by decide +kernel, rfl⟩
theorem i49_19 : Ins jdk_43_method_13_code 19 (.iload_n 2) 1 20 := ⟨by decide +kernel, rfl⟩
theorem i49_20 : Ins jdk_43_method_13_code 20 (.baload) 1 21 := ⟨by decide +kernel, rfl⟩
theorem i49_21 : Ins jdk_43_method_13_code 21 (.if_icmp .eq 5) 3 24 := ⟨by decide +kernel, rfl⟩
theorem i49_24 : Ins jdk_43_method_13_code 24 (.iconst 0) 1 25 := ⟨by decide +kernel, rfl⟩
theorem i49_25 : Ins jdk_43_method_13_code 25 (.ireturn) 1 26 := ⟨by decide +kernel, rfl⟩
theorem i49_26 : Ins jdk_43_method_13_code 26 (.iinc 2 1) 3 29 := ⟨by decide +kernel, rfl⟩
theorem i49_29 : Ins jdk_43_method_13_code 29 (.goto (-20)) 3 32 := ⟨by decide +kernel, rfl⟩
theorem i49_32 : Ins jdk_43_method_13_code 32 (.iconst 1) 1 33 := ⟨by decide +kernel, rfl⟩
theorem i49_33 : Ins jdk_43_method_13_code 33 (.ireturn) 1 34 := ⟨by decide +kernel, rfl⟩
theorem i49_34 : Ins jdk_43_method_13_code 34 (.iconst 0) 1 35 := ⟨by decide +kernel, rfl⟩
theorem i49_35 : Ins jdk_43_method_13_code 35 (.ireturn) 1 36 := ⟨by decide +kernel, rfl⟩
theorem i50_0 : Ins jdk_52_method_16_code 0 (.iload_n 2) 1 1 := ⟨by decide +kernel, rfl⟩
theorem i50_1 : Ins jdk_52_method_16_code 1 (.newarray .byte) 2 3 := ⟨by decide +kernel, rfl⟩
theorem i50_3 : Ins jdk_52_method_16_code 3 (.astore_n 3) 1 4 := ⟨by decide +kernel, rfl⟩
theorem i50_4 : Ins jdk_52_method_16_code 4 (.aload_n 0) 1 5 := ⟨by decide +kernel, rfl⟩
theorem i50_5 : Ins jdk_52_method_16_code 5 (.iload_n 1) 1 6 := ⟨by decide +kernel, rfl⟩
theorem i50_6 : Ins jdk_52_method_16_code 6 (.aload_n 3) 1 7 := ⟨by decide +kernel, rfl⟩
theorem i50_7 : Ins jdk_52_method_16_code 7 (.iconst 0) 1 8 := ⟨by decide +kernel, rfl⟩
theorem i50_8 : Ins jdk_52_method_16_code 8 (.iload_n 2) 1 9 := ⟨by decide +kernel, rfl⟩
theorem i50_9 : Ins jdk_52_method_16_code 9 (.invokestatic 115) 3 12 := ⟨by decide +kernel, rfl⟩
theorem i50_12 : Ins jdk_52_method_16_code 12 (.istore 4) 2 14 := ⟨by decide +kernel, rfl⟩
theorem i50_14 : Ins jdk_52_method_16_code 14 (.iload 4) 2 16 := ⟨by decide +kernel, rfl⟩
theorem i50_16 : Ins jdk_52_method_16_code 16 (.iload_n 2) 1 17 := ⟨by decide +kernel, rfl⟩
theorem i50_17 : Ins jdk_52_method_16_code 17 (.if_icmp .eq 40) 3 20 := ⟨by decide +kernel, rfl⟩
theorem i50_57 : Ins jdk_52_method_16_code 57 (.aload_n 3) 1 58 := ⟨by decide +kernel, rfl⟩
theorem i50_58 : Ins jdk_52_method_16_code 58 (.areturn) 1 59 := ⟨by decide +kernel, rfl⟩
theorem i51_0 : Ins jdk_52_method_21_code 0 (.iconst 0) 1 1 := ⟨by decide +kernel, rfl⟩
theorem i51_1 : Ins jdk_52_method_21_code 1 (.istore 5) 2 3 := ⟨by decide +kernel, rfl⟩
theorem i51_3 : Ins jdk_52_method_21_code 3 (.iload 5) 2 5 := ⟨by decide +kernel, rfl⟩
theorem i51_5 : Ins jdk_52_method_21_code 5 (.iload 4) 2 7 := ⟨by decide +kernel, rfl⟩
theorem i51_7 : Ins jdk_52_method_21_code 7 (.if_icmp .ge 37) 3 10 := ⟨by decide +kernel, rfl⟩
theorem i51_10 : Ins jdk_52_method_21_code 10 (.aload_n 0) 1 11 := ⟨by decide +kernel, rfl⟩
theorem i51_11 : Ins jdk_52_method_21_code 11 (.iload_n 1) 1 12 := ⟨by decide +kernel, rfl⟩
theorem i51_12 : Ins jdk_52_method_21_code 12 (.caload) 1 13 := ⟨by decide +kernel, rfl⟩
theorem i51_13 : Ins jdk_52_method_21_code 13 (.istore 6) 2 15 := ⟨by decide +kernel, rfl⟩
theorem i51_15 : Ins jdk_52_method_21_code 15 (.iload 6) 2 17 := ⟨by decide +kernel, rfl⟩
theorem i51_17 : Ins jdk_52_method_21_code 17 (.sipush 255) 3 20 := ⟨by decide +kernel, rfl⟩
theorem i51_20 : Ins jdk_52_method_21_code 20 (.if_icmp .le 6) 3 23 := ⟨by decide +kernel, rfl⟩
theorem i51_26 : Ins jdk_52_method_21_code 26 (.aload_n 2) 1 27 := ⟨by decide +kernel, rfl⟩
theorem i51_27 : Ins jdk_52_method_21_code 27 (.iload_n 3) 1 28 := ⟨by decide +kernel, rfl⟩
theorem i51_28 : Ins jdk_52_method_21_code 28 (.iload 6) 2 30 := ⟨by decide +kernel, rfl⟩
theorem i51_30 : Ins jdk_52_method_21_code 30 (.i2b) 1 31 := ⟨by decide +kernel, rfl⟩
theorem i51_31 : Ins jdk_52_method_21_code 31 (.bastore) 1 32 := ⟨by decide +kernel, rfl⟩
theorem i51_32 : Ins jdk_52_method_21_code 32 (.iinc 1 1) 3 35 := ⟨by decide +kernel, rfl⟩
theorem i51_35 : Ins jdk_52_method_21_code 35 (.iinc 3 1) 3 38 := ⟨by decide +kernel, rfl⟩
theorem i51_38 : Ins jdk_52_method_21_code 38 (.iinc 5 1) 3 41 := ⟨by decide +kernel, rfl⟩
theorem i51_41 : Ins jdk_52_method_21_code 41 (.goto (-38)) 3 44 := ⟨by decide +kernel, rfl⟩
theorem i51_44 : Ins jdk_52_method_21_code 44 (.iload 4) 2 46 := ⟨by decide +kernel, rfl⟩
theorem i51_46 : Ins jdk_52_method_21_code 46 (.ireturn) 1 47 := ⟨by decide +kernel, rfl⟩
theorem i52_0 : Ins jdk_52_method_15_code 0 (.iload_n 1) 1 1 := ⟨by decide +kernel, rfl⟩
theorem i52_1 : Ins jdk_52_method_15_code 1 (.aload_n 0) 1 2 := ⟨by decide +kernel, rfl⟩
theorem i52_2 : Ins jdk_52_method_15_code 2 (.arraylength) 1 3 := ⟨by decide +kernel, rfl⟩
theorem i52_3 : Ins jdk_52_method_15_code 3 (.isub) 1 4 := ⟨by decide +kernel, rfl⟩
theorem i52_4 : Ins jdk_52_method_15_code 4 (.bipush 31) 2 6 := ⟨by decide +kernel, rfl⟩
theorem i52_6 : Ins jdk_52_method_15_code 6 (.iushr) 1 7 := ⟨by decide +kernel, rfl⟩
theorem i52_7 : Ins jdk_52_method_15_code 7 (.i2b) 1 8 := ⟨by decide +kernel, rfl⟩
theorem i52_8 : Ins jdk_52_method_15_code 8 (.ireturn) 1 9 := ⟨by decide +kernel, rfl⟩
theorem pd_0 : parseMethodDescriptor "(Ljava/lang/String;)V" = some ⟨[(.object "java/lang/String")], none⟩ := by decide +kernel
theorem pd_1 : parseMethodDescriptor "([CIILjava/lang/Void;)V" = some ⟨[(.array .char), .int, .int, (.object "java/lang/Void")], none⟩ := by decide +kernel
theorem pd_2 : parseMethodDescriptor "([CI[BII)I" = some ⟨[(.array .char), .int, (.array .byte), .int, .int], some .int⟩ := by decide +kernel
theorem pd_3 : parseMethodDescriptor "([CII)[B" = some ⟨[(.array .char), .int, .int], some (.array .byte)⟩ := by decide +kernel
theorem pd_4 : parseMethodDescriptor "([BI)B" = some ⟨[(.array .byte), .int], some .byte⟩ := by decide +kernel
theorem pd_5 : parseMethodDescriptor "([C)V" = some ⟨[(.array .char)], none⟩ := by decide +kernel
theorem pd_6 : parseMethodDescriptor "(I)V" = some ⟨[.int], none⟩ := by decide +kernel
theorem pd_7 : parseMethodDescriptor "()B" = some ⟨[], some .byte⟩ := by decide +kernel
theorem pd_8 : parseMethodDescriptor "([BIB)V" = some ⟨[(.array .byte), .int, .byte], none⟩ := by decide +kernel
theorem pd_9 : parseMethodDescriptor "()I" = some ⟨[], some .int⟩ := by decide +kernel
theorem pd_10 : parseMethodDescriptor "(ILjava/lang/String;)V" = some ⟨[.int, (.object "java/lang/String")], none⟩ := by decide +kernel
theorem pd_11 : parseMethodDescriptor "(Ljava/lang/String;)Ljava/lang/AbstractStringBuilder;" = some ⟨[(.object "java/lang/String")], some (.object "java/lang/AbstractStringBuilder")⟩ := by decide +kernel
theorem pd_12 : parseMethodDescriptor "(II)I" = some ⟨[.int, .int], some .int⟩ := by decide +kernel
theorem pd_13 : parseMethodDescriptor "(III)I" = some ⟨[.int, .int, .int], some .int⟩ := by decide +kernel
theorem pd_14 : parseMethodDescriptor "(I)I" = some ⟨[.int], some .int⟩ := by decide +kernel
theorem pd_15 : parseMethodDescriptor "([BI)[B" = some ⟨[(.array .byte), .int], some (.array .byte)⟩ := by decide +kernel
theorem pd_16 : parseMethodDescriptor "()[B" = some ⟨[], some (.array .byte)⟩ := by decide +kernel
theorem pd_17 : parseMethodDescriptor "()Z" = some ⟨[], some .boolean⟩ := by decide +kernel
theorem pd_18 : parseMethodDescriptor "([BII)[B" = some ⟨[(.array .byte), .int, .int], some (.array .byte)⟩ := by decide +kernel
theorem pd_19 : parseMethodDescriptor "(Ljava/lang/AbstractStringBuilder;Ljava/lang/Void;)V" = some ⟨[(.object "java/lang/AbstractStringBuilder"), (.object "java/lang/Void")], none⟩ := by decide +kernel
theorem pd_20 : parseMethodDescriptor "(Ljava/lang/StringBuilder;)V" = some ⟨[(.object "java/lang/StringBuilder")], none⟩ := by decide +kernel
theorem pd_21 : parseMethodDescriptor "(C)Z" = some ⟨[.char], some .boolean⟩ := by decide +kernel
theorem pd_22 : parseMethodDescriptor "(C)[B" = some ⟨[.char], some (.array .byte)⟩ := by decide +kernel
theorem pd_23 : parseMethodDescriptor "([BB)V" = some ⟨[(.array .byte), .byte], none⟩ := by decide +kernel
theorem pd_24 : parseMethodDescriptor "(IILjava/util/function/BiFunction;)I" = some ⟨[.int, .int, (.object "java/util/function/BiFunction")], some .int⟩ := by decide +kernel
theorem pd_25 : parseMethodDescriptor "(II)V" = some ⟨[.int, .int], none⟩ := by decide +kernel
theorem pd_26 : parseMethodDescriptor "([BI)C" = some ⟨[(.array .byte), .int], some .char⟩ := by decide +kernel
theorem pd_27 : parseMethodDescriptor "([B[B)Z" = some ⟨[(.array .byte), (.array .byte)], some .boolean⟩ := by decide +kernel
theorem pd_28 : parseMethodDescriptor "()V" = some ⟨[], none⟩ := by decide +kernel
theorem pd_29 : parseMethodDescriptor "(Ljava/lang/String;)Ljava/lang/StringBuilder;" = some ⟨[(.object "java/lang/String")], some (.object "java/lang/StringBuilder")⟩ := by decide +kernel
theorem pd_30 : parseMethodDescriptor "()Ljava/lang/String;" = some ⟨[], some (.object "java/lang/String")⟩ := by decide +kernel
theorem pd_31 : parseMethodDescriptor "(ICCC)Ljava/lang/String;" = some ⟨[.int, .char, .char, .char], some (.object "java/lang/String")⟩ := by decide +kernel
theorem pd_32 : parseMethodDescriptor "(C)Ljava/lang/String;" = some ⟨[.char], some (.object "java/lang/String")⟩ := by decide +kernel
theorem pd_33 : parseMethodDescriptor "(Ljava/lang/String;)Lcom/example/record_guard/recordguard/conflict/SerializationFailureException;" = some ⟨[(.object "java/lang/String")], some (.object "com/example/record_guard/recordguard/conflict/SerializationFailureException")⟩ := by decide +kernel
theorem pd_34 : parseMethodDescriptor "(I)C" = some ⟨[.int], some .char⟩ := by decide +kernel
theorem pd_35 : parseMethodDescriptor "(Ljava/lang/Object;)Z" = some ⟨[(.object "java/lang/Object")], some .boolean⟩ := by decide +kernel
theorem own_cc {x : Int32} (h : ¬ x < 0 ∧ ¬ (65535 : Int32) < x) : nar .char x = x := by
  have e1 : (0 : Int32).toInt = 0 := rfl
  have e2 : (65535 : Int32).toInt = 65535 := rfl
  rw [Int32.lt_iff_toInt_lt, Int32.lt_iff_toInt_lt] at h
  have := c_i2c x
  have e : nar .char x = x.toUInt32.toUInt16.toUInt32.toInt32 := rfl
  rw [e]
  apply Int32.toInt_inj.mp
  omega
theorem own_bb (b : Int32) : b.toInt8.toInt32.toInt8.toInt32 = b.toInt8.toInt32 := by simp
theorem own_m255 (x : Int32) : ¬ (x &&& 255) < 0 ∧ ¬ (255 : Int32) < (x &&& 255) := by
  have h : (x &&& 255).toInt = x.toInt % (2 ^ 8 : Nat) := c_mask x 255 8 (by decide) (by decide)
  have e1 : (0 : Int32).toInt = 0 := rfl
  have e2 : (255 : Int32).toInt = 255 := rfl
  rw [Int32.lt_iff_toInt_lt, Int32.lt_iff_toInt_lt]
  omega
theorem own_255 {x : Int32} (h : ¬ x < 0 ∧ ¬ (255 : Int32) < x) : ¬ x < 0 ∧ ¬ (65535 : Int32) < x := by
  have e1 : (0 : Int32).toInt = 0 := rfl
  have e2 : (65535 : Int32).toInt = 65535 := rfl
  have e3 : (255 : Int32).toInt = 255 := rfl
  rw [Int32.lt_iff_toInt_lt, Int32.lt_iff_toInt_lt] at h ⊢
  omega
theorem own_i2c {x : Int32} (h : ¬ x < 0 ∧ ¬ (255 : Int32) < x) : x.toUInt32.toUInt16.toUInt32.toInt32 = x := own_cc (own_255 h)
theorem own_eqI {args : Array Value} {s : State} {t u : Term} {x y : Int32} (ht : t.eval args s none [] s = some (.int x)) (hu : u.eval args s none [] s = some (.int y)) : (Jvm.Cond.eq t u).value args s none s [] = some (decide (x = y)) := by simp [Cond.value, ht, hu]

def own_b (c : Int32) : Value := .int ((Int32.toInt8 c).toInt32)
def Lat (cs : List Int32) : Prop := ∀ c ∈ cs, ¬ c < 0 ∧ ¬ (255 : Int32) < c
/-- the String b, its bytes in the array t, says the chars cs, all of Latin-1 -/
def Str (Z : State) (h : Heap) (b t : Addr) (k : ClassId) (cs : List Int32) : Prop := Obj Z h b "java/lang/String" [("java/lang/String", "value", "[B", .ref t), ("java/lang/String", "coder", "B", .int 0)] ∧ Arv Z h t k .byte (Int32.ofNat cs.length) (cs.map own_b) (.int 0) ∧ Lat cs ∧ cs.length < 1000000
theorem Str.keep {Z : State} {h h' : Heap} {b t : Addr} {k : ClassId} {cs : List Int32} {ws : List Addr} (S : Str Z h b t k cs) (K : Keep h h' ws) (q : b ∉ ws) (r : t ∉ ws) : Str Z h' b t k cs := ⟨S.1.keep K q, S.2.1.keep K r, S.2.2⟩
theorem own_n0 (n : Nat) (h : n < 2147483648) : (Int32.ofNat n).toInt = n := Int32.toInt_ofNat_small h
theorem own_nn {n : Nat} (h : n < 2147483648) : ¬ Int32.ofNat n < 0 := by rw [Int32.lt_iff_toInt_lt, own_n0 n h]; show ¬ (n : Int) < 0; omega
theorem own_lt {a b : Nat} (h : a < b) (hb : b < 2147483648) : Int32.ofNat a < Int32.ofNat b := by rw [Int32.lt_iff_toInt_lt, own_n0 a (by omega), own_n0 b hb]; omega
theorem own_nlt {a b : Nat} (h : b ≤ a) (hb : a < 2147483648) : ¬ Int32.ofNat a < Int32.ofNat b := by rw [Int32.lt_iff_toInt_lt, own_n0 a hb, own_n0 b (by omega)]; omega
theorem own_cl {n : Nat} (h : n < 2147483648) : (Int32.ofNat n).toNatClampNeg = n := by
  have := own_n0 n h
  simp only [Int32.toNatClampNeg, this]; rfl
theorem own_inj {a b : Nat} (ha : a < 2147483648) (hb : b < 2147483648) : Int32.ofNat a = Int32.ofNat b ↔ a = b := ⟨fun q => by have := congrArg Int32.toInt q; rw [own_n0 a ha, own_n0 b hb] at this; omega, fun q => by rw [q]⟩
theorem own_add {a b : Nat} (h : a + b < 2147483648) : Int32.ofNat a + Int32.ofNat b = Int32.ofNat (a + b) := by
  apply Int32.toInt_inj.mp
  rw [Int32.toInt_add, own_n0 a (by omega), own_n0 b (by omega), own_n0 _ h]
  rw [Int.bmod_eq_of_le (by omega) (by omega)]; omega
theorem own_b8 {c d : Int32} (hc : ¬ c < 0 ∧ ¬ (255 : Int32) < c) (hd : ¬ d < 0 ∧ ¬ (255 : Int32) < d) (h : (Int32.toInt8 c).toInt32 = (Int32.toInt8 d).toInt32) : c = d := by
  have e1 : (0 : Int32).toInt = 0 := rfl
  have e2 : (255 : Int32).toInt = 255 := rfl
  rw [Int32.lt_iff_toInt_lt, Int32.lt_iff_toInt_lt] at hc hd
  have h1 := c_i2b c
  have h2 := c_i2b d
  rw [h] at h1
  apply Int32.toInt_inj.mp
  omega
theorem own_bmap : ∀ {cs ds : List Int32}, Lat cs → Lat ds → (cs.map (fun c => (Int32.toInt8 c).toInt32) = ds.map (fun c => (Int32.toInt8 c).toInt32) ↔ cs = ds)
  | [], [], _, _ => by simp
  | [], d :: ds, _, _ => by simp
  | c :: cs, [], _, _ => by simp
  | c :: cs, d :: ds, hc, hd => by
    have ih := own_bmap (cs := cs) (ds := ds) (fun x hx => hc x (List.mem_cons_of_mem _ hx)) (fun x hx => hd x (List.mem_cons_of_mem _ hx))
    simp only [List.map_cons, List.cons.injEq, ih]
    exact and_congr_left fun _ => ⟨own_b8 (hc c (List.mem_cons_self ..)) (hd d (List.mem_cons_self ..)), fun q => by rw [q]⟩
theorem own_getb (xs : List Int32) (i : Nat) : (xs.map Value.int).getD i (.int 0) = .int (xs.getD i 0) := by
  simp only [List.getD_eq_getElem?_getD, List.getElem?_map]; cases xs[i]? <;> rfl
theorem own_mapb (cs : List Int32) : cs.map own_b = (cs.map fun c => (Int32.toInt8 c).toInt32).map Value.int := by simp [own_b, Function.comp_def]
theorem own_take {xs ys : List Int32} {i : Nat} (h : xs.take i = ys.take i) (e : xs.getD i 0 = ys.getD i 0) (h1 : i < xs.length) (h2 : i < ys.length) : xs.take (i + 1) = ys.take (i + 1) := by
  rw [List.take_succ_eq_append_getElem h1, List.take_succ_eq_append_getElem h2, h]
  congr 2
  simpa [List.getD_eq_getElem?_getD, h1, h2] using e
theorem own_all {xs ys : List Int32} (hl : xs.length = ys.length) {i : Nat} (hi : i = ys.length) (hp : xs.take i = ys.take i) : xs = ys := by
  subst hi; rw [List.take_length, ← hl, List.take_length] at hp; exact hp
theorem own_drop {xs ys : List Int32} {i : Nat} (e : ¬ xs.getD i 0 = ys.getD i 0) : ¬ xs = ys := fun q => e (by rw [q])
theorem own_sub {a b : Nat} (h : b ≤ a) (ha : a < 2147483648) : Int32.ofNat a - Int32.ofNat b = Int32.ofNat (a - b) := by
  apply Int32.toInt_inj.mp
  rw [Int32.toInt_sub, own_n0 a ha, own_n0 b (by omega), own_n0 _ (by omega)]
  rw [Int.bmod_eq_of_le (by omega) (by omega)]; omega
theorem own_shr0 (x : Int32) : x >>> ((0 : Int32) &&& 31) = x := by
  apply Int32.toInt_inj.mp
  have := c_ishr x 0 0 (by decide)
  rw [this]; simp
theorem own_shl0 (x : Int32) : x <<< ((0 : Int32) &&& 31) = x := by
  apply Int32.toInt_inj.mp
  have h := c_ishl x 0 0 (by decide)
  have h1 := Int32.toInt_lt (x <<< ((0 : Int32) &&& 31)); have h2 := Int32.le_toInt (x <<< ((0 : Int32) &&& 31)); have h3 := Int32.toInt_lt x; have h4 := Int32.le_toInt x
  omega
/-- a copy of a whole array's values into a longer fresh one says the same -/
theorem own_copy (vs : List Value) (d : Value) (n c : Nat) (h1 : vs.length ≤ c) (h2 : c ≤ n) (i : Nat) : (((List.replicate n d).take 0 ++ (List.range c).map fun i => vs.getD (0 + i) d) ++ (List.replicate n d).drop (0 + c)).getD i d = vs.getD i d := by
  simp only [List.take_zero, List.nil_append, Nat.zero_add, List.getD_eq_getElem?_getD]
  by_cases q : i < c
  · rw [List.getElem?_append_left (by simpa using q)]; simp [q]
  · rw [List.getElem?_append_right (by simpa using q), List.getElem?_eq_none (l := vs) (by omega)]
    simp only [List.getElem?_drop, List.getElem?_replicate]; split <;> rfl
/-- values written behind the first ones -/
theorem own_app (xs ys : List Value) (d : Value) (m : Nat) (i : Nat) : (((xs ++ List.replicate (ys.length + m) d).take xs.length ++ ys) ++ (xs ++ List.replicate (ys.length + m) d).drop (xs.length + ys.length)).getD i d = (xs ++ ys).getD i d := by
  rw [List.take_left, List.drop_append, List.drop_eq_nil_of_le (by omega), List.nil_append, show xs.length + ys.length - xs.length = ys.length by omega, List.drop_replicate]
  simp only [List.getD_eq_getElem?_getD]
  by_cases q : i < (xs ++ ys).length
  · rw [List.getElem?_append_left q]
  · rw [List.getElem?_append_right (by omega), List.getElem?_eq_none (l := xs ++ ys) (by omega), List.getElem?_replicate]; split <;> rfl
theorem own_rng (ys : List Value) (d : Value) : (List.range ys.length).map (fun i => ys.getD (0 + i) d) = ys := by
  apply List.ext_getElem?; intro i
  by_cases q : i < ys.length
  · simp [q]
  · rw [List.getElem?_eq_none (by simpa using q), List.getElem?_eq_none (by simpa using q)]
theorem own_lat0 : Lat [] := fun _ q => nomatch q
theorem own_lat_app {xs ys : List Int32} (h1 : Lat xs) (h2 : Lat ys) : Lat (xs ++ ys) := fun c hc => (List.mem_append.mp hc).elim (h1 c) (h2 c)
/-- the builder a, its bytes in the array t of length cap, holds the chars xs, all of Latin-1 -/
def SBd (Z : State) (h : Heap) (a t : Addr) (k : ClassId) (cap : Nat) (xs : List Int32) : Prop := Obj Z h a "java/lang/StringBuilder" [("java/lang/AbstractStringBuilder", "value", "[B", (.ref t)), ("java/lang/AbstractStringBuilder", "coder", "B", (.int (0 : Int32))), ("java/lang/AbstractStringBuilder", "count", "I", (.int (Int32.ofNat xs.length)))] ∧ Arv Z h t k .byte (Int32.ofNat cap) (xs.map own_b) (.int 0) ∧ Exa Z h t "[B" ∧ Lat xs ∧ xs.length ≤ cap ∧ cap < 1000000
theorem own_ltI {a b : Nat} (ha : a < 2147483648) (hb : b < 2147483648) : Int32.ofNat a < Int32.ofNat b ↔ a < b := by rw [Int32.lt_iff_toInt_lt, own_n0 a ha, own_n0 b hb]; omega
def own_tx (i : Nat) : String := match tables_1[i]? with | some (Jvm.Cond.stringLink _ _ t) => t | _ => ""
def own_T (i : Nat) : List Int32 := (own_tx i).toList.map fun c => Int32.ofNat c.toNat
theorem own_byte : ∀ n : Nat, n < 256 → Jvm.Lit.byteI n.toUInt16 = (Int32.toInt8 (Int32.ofNat n)).toInt32 := by decide +kernel
theorem own_Tb {i : Nat} (h : ∀ c ∈ (own_tx i).toList, c.toNat < 256) : (own_tx i).toList.map (fun c => Value.int (Jvm.Lit.byteI c.toNat.toUInt16)) = (own_T i).map own_b := by
  unfold own_T
  rw [List.map_map]
  exact List.map_congr_left fun c hc => congrArg Value.int (own_byte _ (h c hc))
theorem own_Tl {i : Nat} (h : ∀ c ∈ (own_tx i).toList, c.toNat < 256) : Lat (own_T i) := fun c hc => by
  unfold own_T at hc
  obtain ⟨d, hd, rfl⟩ := List.mem_map.mp hc
  have := h d hd
  refine ⟨own_nn (by omega), ?_⟩
  have e1 : (255 : Int32).toInt = 255 := rfl
  rw [Int32.lt_iff_toInt_lt, own_n0 _ (by omega), e1]; omega
theorem own_aS {α : Type} {P : α → Prop} {a : α} {l : List α} (h : P a) (k : ∀ x ∈ l, P x) : ∀ x ∈ a :: l, P x := fun x hx => by
  rcases List.mem_cons.mp hx with rfl | hx
  · exact h
  · exact k x hx
theorem own_a0 {α : Type} {P : α → Prop} : ∀ x ∈ ([] : List α), P x := fun _ q => nomatch q
theorem own_Tlen (i : Nat) : (own_T i).length = (own_tx i).toList.length := by unfold own_T; rw [List.length_map]
theorem own_app_r (xs ys : List Int32) (j : Nat) : (xs ++ ys).getD (xs.length + j) 0 = ys.getD j 0 := by
  rw [List.getD_eq_getElem?_getD, List.getD_eq_getElem?_getD, List.getElem?_append_right (by omega)]; congr 2; omega
theorem own_c243 : ∀ c ∈ (own_tx 243).toList, c.toNat < 256 := by decide +kernel
theorem own_L243 : (own_T 243).length = 196 := by rw [own_Tlen]; decide +kernel
theorem own_k243 {Z : State} {a0 : Array Value} (hw : Wds Z a0) : (Jvm.Cond.stringLink "com/example/record_guard/recordguard/conflict/SerializationFailureException" 27 (own_tx 243)).before a0 Z = true := hw _ (List.mem_of_getElem? (i := 243) rfl)
theorem own_c112 : ∀ c ∈ (own_tx 112).toList, c.toNat < 256 := by decide +kernel
theorem own_L112 : (own_T 112).length = 216 := by rw [own_Tlen]; decide +kernel
theorem own_k112 {Z : State} {a0 : Array Value} (hw : Wds Z a0) : (Jvm.Cond.stringLink "com/example/record_guard/recordguard/conflict/SerializationFailureException" 30 (own_tx 112)).before a0 Z = true := hw _ (List.mem_of_getElem? (i := 112) rfl)
theorem own_Tne : ¬ own_T 112 = own_T 243 := fun q => absurd (congrArg List.length q) (by rw [own_L112, own_L243]; decide)
theorem own_neT (xs : List Int32) : ¬ xs ++ own_T 112 = xs ++ own_T 243 := fun q => own_Tne (List.append_cancel_left q)
theorem own_T0 : (own_T 112).getD 0 0 = 58 := by unfold own_T; decide +kernel
theorem own_T1 : (own_T 112).getD 1 0 = 32 := by unfold own_T; decide +kernel
theorem own_sa {Z : State} {a0 : Array Value} (hw : Wds Z a0) : ∀ a ∈ Bundle.stringAtoms, a.before a0 Z = true := fun a ha => by
  simp only [Bundle.stringAtoms, List.mem_cons, List.not_mem_nil, or_false] at ha
  rcases ha with rfl | rfl | rfl | rfl | rfl | rfl | rfl
  · exact (w6 hw)
  · exact (w5 hw)
  · exact (w19 hw)
  · exact (w20 hw)
  · exact (w21 hw)
  · exact (w22 hw)
  · exact (w23 hw)
theorem own_EW {Z : State} {a0 : Array Value} (hw : Wds Z a0) : EW Z a0 [("com/example/record_guard/recordguard/conflict/SerializationFailureException", 27), ("com/example/record_guard/recordguard/conflict/SerializationFailureException", 30), ("java/lang/String", 7)] := EW.cons (own_k243 hw) own_c243 (EW.cons (own_k112 hw) own_c112 (EW.cons (hw _ (List.mem_of_getElem? (i := 18) rfl)) (by decide) EW.nil))
theorem own_and3 (x : Int32) : x &&& 3 = 0 ∨ x &&& 3 = 1 ∨ x &&& 3 = 2 ∨ x &&& 3 = 3 := by
  have h : (x &&& 3).toInt = x.toInt % (2 ^ 2 : Nat) := c_mask x 3 2 (by decide) (by decide)
  have e : ∀ k : Int32, (x &&& 3).toInt = k.toInt → x &&& 3 = k := fun k q => Int32.toInt_inj.mp q
  have h0 : (0 : Int32).toInt = 0 := rfl
  have h1 : (1 : Int32).toInt = 1 := rfl
  have h2 : (2 : Int32).toInt = 2 := rfl
  have h3 : (3 : Int32).toInt = 3 := rfl
  have : (x &&& 3).toInt = 0 ∨ (x &&& 3).toInt = 1 ∨ (x &&& 3).toInt = 2 ∨ (x &&& 3).toInt = 3 := by omega
  rcases this with q | q | q | q
  · exact Or.inl (e 0 (q.trans h0.symm))
  · exact Or.inr (Or.inl (e 1 (q.trans h1.symm)))
  · exact Or.inr (Or.inr (Or.inl (e 2 (q.trans h2.symm))))
  · exact Or.inr (Or.inr (Or.inr (e 3 (q.trans h3.symm))))
set_option maxRecDepth 65536 in
theorem own_fw {Z : State} {a0 : Array Value} (hw : Wds Z a0) : ∀ x ∈ fillWords "com/example/record_guard/recordguard/conflict/SerializationFailureException", x.before a0 Z = true := (own_aS (w201 hw) (own_aS (w219 hw) (own_aS (w214 hw) (own_aS (w220 hw) (own_aS (w221 hw) (own_aS (w222 hw) (own_aS (w16 hw) (own_aS (w17 hw) (own_aS (w203 hw) (own_aS (w212 hw) (own_aS (w225 hw) (own_aS (w204 hw) (own_aS (w207 hw) (own_aS (w210 hw) (own_aS (w206 hw) (own_aS (w209 hw) (own_aS (w230 hw) (own_aS (w205 hw) (own_aS (w208 hw) (own_aS (w211 hw) (own_aS (w236 hw) (own_aS (w237 hw) (own_aS (w234 hw) (own_aS (w216 hw) (own_aS (w217 hw) (own_aS (w218 hw) (own_aS (w232 hw) (own_aS (w233 hw) own_a0))))))))))))))))))))))))))))
theorem own_layx {Z : State} {a0 : Array Value} (hw : Wds Z a0) : LayD Z a0 "com/example/record_guard/recordguard/conflict/SerializationFailureException" [("java/lang/Throwable", "detailMessage", "Ljava/lang/String;", .null), ("java/lang/Throwable", "cause", "Ljava/lang/Throwable;", .null)] := ⟨own_aS ⟨Or.inl (w235 hw), (.object "java/lang/String"), by decide, rfl⟩ (own_aS ⟨Or.inl (w205 hw), (.object "java/lang/Throwable"), by decide, rfl⟩ own_a0), by decide⟩
theorem own_narR {v : Value} {t : FieldType} (h : v.isRef = true) : narrow t v = v := by cases v <;> simp [Value.isRef] at h <;> (cases t <;> rfl)
theorem own_fitR {v : Value} {t : FieldType} (h : v.isRef = true) (ht : t.isReference = true := by rfl) : fits t v = true := by cases v <;> simp [Value.isRef] at h <;> (cases t <;> first | rfl | (simp [FieldType.isReference] at ht))
set_option maxRecDepth 65536 in
set_option maxHeartbeats 4000000 in
theorem own_x4 (l : Launch) (Z : State) (a0 : Array Value) (hw : Wds Z a0) (n0 : Nat) (a m : Addr) (h0 : Heap) (ga : n0 ≤ a) (O0 : Obj Z h0 a "com/example/record_guard/recordguard/conflict/SerializationFailureException" [("java/lang/Throwable", "cause", "Ljava/lang/Throwable;", .null), ("java/lang/Throwable", "stackTrace", "[Ljava/lang/StackTraceElement;", .null), ("java/lang/Throwable", "suppressedExceptions", "Ljava/util/List;", .null), ("java/lang/Throwable", "detailMessage", "Ljava/lang/String;", .null), ("java/lang/Throwable", "backtrace", "Ljava/lang/Object;", .null), ("java/lang/Throwable", "depth", "I", (.int (0 : Int32)))]) (N0 : Unt h0 a) (hl : l.stackTraces = true) (uS uP : Value) (huS : uS.isRef = true) (huP : uP.isRef = true) (S_U : Sta Z Z.heap "java/lang/Throwable" "UNASSIGNED_STACK" "[Ljava/lang/StackTraceElement;" uS) (S_P : Sta Z Z.heap "java/lang/Throwable" "SUPPRESSED_SENTINEL" "Ljava/util/List;" uP) : Con 2 l Z [("com/example/record_guard/recordguard/conflict/SerializationFailureException", 27), ("com/example/record_guard/recordguard/conflict/SerializationFailureException", 30), ("java/lang/String", 7)] n0 (⟨"java/lang/Throwable", "<init>", "(Ljava/lang/String;)V"⟩ : MethodName) jdk_78_method_2_code 2 none ({ frames := 3, cells := 1, slots := 2752, locals := 42 } : Room) #[(.ref a), (.ref m)] [] h0 (fun v h D' => v = none ∧ Keep h0 h [a] ∧ Obj Z h a "com/example/record_guard/recordguard/conflict/SerializationFailureException" [("java/lang/Throwable", "detailMessage", "Ljava/lang/String;", (.ref m)), ("java/lang/Throwable", "cause", "Ljava/lang/Throwable;", (.ref a))] ∧ Unt h a ∧ D' = []) := by
  refine Con.of_runs (ls := #[.val (.ref a), .val (.ref m)]) (by decide +kernel) (ef rfl rfl) ?_
  refine Runs.aloadN i37_0 rfl rfl ?_
  refine Runs.initO (W := 0) i37_1 (w203 hw) (w16 hw) (w17 hw) rfl (by decide) rfl (by decide) ?_
  refine Runs.aloadN i37_4 rfl rfl ?_
  refine Runs.aloadN i37_5 rfl rfl ?_
  refine Runs.putFU (i := 0) (ty := (.object "java/lang/Throwable")) i37_6 (host := "") (Or.inl (w204 hw)) Via.refl O0 N0 rfl (lay_0 hw) rfl (Or.inl (w205 hw)) (w46 hw) (by decide) rfl rfl ga (Or.inr ⟨by decide, by decide⟩) ?_
  intro h_1 K_2 (O_3 : Obj Z h_1 a "com/example/record_guard/recordguard/conflict/SerializationFailureException" [("java/lang/Throwable", "cause", "Ljava/lang/Throwable;", (.ref a)), ("java/lang/Throwable", "stackTrace", "[Ljava/lang/StackTraceElement;", .null), ("java/lang/Throwable", "suppressedExceptions", "Ljava/util/List;", .null), ("java/lang/Throwable", "detailMessage", "Ljava/lang/String;", .null), ("java/lang/Throwable", "backtrace", "Ljava/lang/Object;", .null), ("java/lang/Throwable", "depth", "I", (.int (0 : Int32)))]) U_4
  refine Runs.aloadN i37_9 rfl rfl ?_
  refine Runs.getS i37_10 (w206 hw) Via.refl S_U ?_
  refine Runs.putFU (i := 1) (ty := (.array (.object "java/lang/StackTraceElement"))) i37_13 (host := "") (Or.inl (w207 hw)) Via.refl O_3 U_4 rfl (lay_0 hw) rfl (Or.inl (w208 hw)) (w46 hw) (by decide) (own_narR huS) (own_fitR huS) ga (Or.inr ⟨by decide, by decide⟩) ?_
  intro h_5 K_6 (O_7 : Obj Z h_5 a "com/example/record_guard/recordguard/conflict/SerializationFailureException" [("java/lang/Throwable", "cause", "Ljava/lang/Throwable;", (.ref a)), ("java/lang/Throwable", "stackTrace", "[Ljava/lang/StackTraceElement;", uS), ("java/lang/Throwable", "suppressedExceptions", "Ljava/util/List;", .null), ("java/lang/Throwable", "detailMessage", "Ljava/lang/String;", .null), ("java/lang/Throwable", "backtrace", "Ljava/lang/Object;", .null), ("java/lang/Throwable", "depth", "I", (.int (0 : Int32)))]) U_8
  refine Runs.aloadN i37_16 rfl rfl ?_
  refine Runs.getS i37_17 (w209 hw) Via.refl S_P ?_
  refine Runs.putFU (i := 2) (ty := (.object "java/util/List")) i37_20 (host := "") (Or.inl (w210 hw)) Via.refl O_7 U_8 rfl (lay_0 hw) rfl (Or.inl (w211 hw)) (w46 hw) (by decide) (own_narR huP) (own_fitR huP) ga (Or.inr ⟨by decide, by decide⟩) ?_
  intro h_9 K_10 (O_11 : Obj Z h_9 a "com/example/record_guard/recordguard/conflict/SerializationFailureException" [("java/lang/Throwable", "cause", "Ljava/lang/Throwable;", (.ref a)), ("java/lang/Throwable", "stackTrace", "[Ljava/lang/StackTraceElement;", uS), ("java/lang/Throwable", "suppressedExceptions", "Ljava/util/List;", uP), ("java/lang/Throwable", "detailMessage", "Ljava/lang/String;", .null), ("java/lang/Throwable", "backtrace", "Ljava/lang/Object;", .null), ("java/lang/Throwable", "depth", "I", (.int (0 : Int32)))]) U_12
  refine Runs.aloadN i37_23 rfl rfl ?_
  refine Runs.fill (rc := "com/example/record_guard/recordguard/conflict/SerializationFailureException") (W := 0) i37_24 hl rfl (w212 hw) (w213 hw) (fun s hZ => notFace_of_selects (args := #[]) (mvT hZ (w215 hw))) (w215 hw) (w46 hw) (own_fw hw) O_11.1 U_12 (O_11.fld (i := 1) rfl) huS (O_11.fld (i := 4) rfl) S_U ga (by decide) rfl rfl (by decide) (by decide) (by decide) (by decide) ?_
  intro h_13 K_14 E_15 U_16 F_17
  have O_18 : Obj Z h_13 a "com/example/record_guard/recordguard/conflict/SerializationFailureException" [("java/lang/Throwable", "detailMessage", "Ljava/lang/String;", .null), ("java/lang/Throwable", "cause", "Ljava/lang/Throwable;", (.ref a))] := ⟨E_15, own_aS (F_17 "detailMessage" "Ljava/lang/String;" (.object "java/lang/String") _ (w235 hw) (by decide) (by decide) (by decide) (by decide) (O_11.fld (i := 3) rfl)) (own_aS (F_17 "cause" "Ljava/lang/Throwable;" (.object "java/lang/Throwable") _ (w205 hw) (by decide) (by decide) (by decide) (by decide) (O_11.fld (i := 0) rfl)) own_a0)⟩
  show Runs 2 l Z [("com/example/record_guard/recordguard/conflict/SerializationFailureException", 27), ("com/example/record_guard/recordguard/conflict/SerializationFailureException", 30), ("java/lang/String", 7)] n0 _ _ _ _ _ _ _ [] h_13 1 2752 27 #[.val (.ref a), .val (.ref m)] [(.ref a)]
  refine Runs.pop i37_27 rfl ?_
  refine Runs.aloadN i37_28 rfl rfl ?_
  refine Runs.aloadN i37_29 rfl rfl ?_
  refine Runs.putFU (i := 0) (ty := (.object "java/lang/String")) i37_30 (host := "") (Or.inl (w239 hw)) Via.refl O_18 U_16 rfl (own_layx hw) rfl (Or.inl (w235 hw)) (w46 hw) (by decide) rfl rfl ga (Or.inr ⟨by decide, by decide⟩) ?_
  intro h_19 K_20 (O_21 : Obj Z h_19 a "com/example/record_guard/recordguard/conflict/SerializationFailureException" [("java/lang/Throwable", "detailMessage", "Ljava/lang/String;", (.ref m)), ("java/lang/Throwable", "cause", "Ljava/lang/Throwable;", (.ref a))]) U_22
  exact Runs.retV i37_33 rfl (by decide) (by decide) ⟨rfl, ((((((Keep.refl _ _).trans K_2 (allS (Or.inl (List.mem_of_getElem? (i := 0) rfl)) all0)).trans K_6 (allS (Or.inl (List.mem_of_getElem? (i := 0) rfl)) all0)).trans K_10 (allS (Or.inl (List.mem_of_getElem? (i := 0) rfl)) all0)).trans K_14 (allS (Or.inl (List.mem_of_getElem? (i := 0) rfl)) all0)).trans K_20 (allS (Or.inl (List.mem_of_getElem? (i := 0) rfl)) all0)), O_21, U_22, rfl⟩
set_option maxRecDepth 65536 in
set_option maxHeartbeats 4000000 in
theorem own_x3 (l : Launch) (Z : State) (a0 : Array Value) (hw : Wds Z a0) (n0 : Nat) (a m : Addr) (h0 : Heap) (ga : n0 ≤ a) (O0 : Obj Z h0 a "com/example/record_guard/recordguard/conflict/SerializationFailureException" [("java/lang/Throwable", "cause", "Ljava/lang/Throwable;", .null), ("java/lang/Throwable", "stackTrace", "[Ljava/lang/StackTraceElement;", .null), ("java/lang/Throwable", "suppressedExceptions", "Ljava/util/List;", .null), ("java/lang/Throwable", "detailMessage", "Ljava/lang/String;", .null), ("java/lang/Throwable", "backtrace", "Ljava/lang/Object;", .null), ("java/lang/Throwable", "depth", "I", (.int (0 : Int32)))]) (N0 : Unt h0 a) (hl : l.stackTraces = true) (uS uP : Value) (huS : uS.isRef = true) (huP : uP.isRef = true) (S_U : Sta Z Z.heap "java/lang/Throwable" "UNASSIGNED_STACK" "[Ljava/lang/StackTraceElement;" uS) (S_P : Sta Z Z.heap "java/lang/Throwable" "SUPPRESSED_SENTINEL" "Ljava/util/List;" uP) : Con 2 l Z [("com/example/record_guard/recordguard/conflict/SerializationFailureException", 27), ("com/example/record_guard/recordguard/conflict/SerializationFailureException", 30), ("java/lang/String", 7)] n0 (⟨"java/lang/Exception", "<init>", "(Ljava/lang/String;)V"⟩ : MethodName) jdk_59_method_2_code 2 none ({ frames := 4, cells := 1, slots := 2752, locals := 55 } : Room) #[(.ref a), (.ref m)] [] h0 (fun v h D' => v = none ∧ Keep h0 h [a] ∧ Obj Z h a "com/example/record_guard/recordguard/conflict/SerializationFailureException" [("java/lang/Throwable", "detailMessage", "Ljava/lang/String;", (.ref m)), ("java/lang/Throwable", "cause", "Ljava/lang/Throwable;", (.ref a))] ∧ Unt h a ∧ D' = []) := by
  refine Con.of_runs (ls := #[.val (.ref a), .val (.ref m)]) (by decide +kernel) (ef rfl rfl) ?_
  refine Runs.aloadN i36_0 rfl rfl ?_
  refine Runs.aloadN i36_1 rfl rfl ?_
  refine Runs.callCW (argsL := [(.ref m)]) (rest := []) (W := 0) i36_2 rfl (w197 hw) (w198 hw) (w202 hw) (w201 hw) (by decide) pd_0 rfl rfl rfl rfl (by decide) (by decide) (by decide) (by decide) all0 (by decide) (own_x4 l Z a0 hw n0 a m _ ga O0 N0 hl uS uP huS huP S_U S_P) ?_
  intro v h1 D1 q hsz
  obtain ⟨rfl, K1, O1, U1, rfl⟩ := q
  show Runs 2 l Z [("com/example/record_guard/recordguard/conflict/SerializationFailureException", 27), ("com/example/record_guard/recordguard/conflict/SerializationFailureException", 30), ("java/lang/String", 7)] n0 _ _ _ _ _ _ _ [] h1 1 2752 5 #[.val (.ref a), .val (.ref m)] []
  exact Runs.retV i36_5 rfl (by decide) (by decide) ⟨rfl, K1, O1, U1, rfl⟩
set_option maxRecDepth 65536 in
set_option maxHeartbeats 4000000 in
theorem own_x2 (l : Launch) (Z : State) (a0 : Array Value) (hw : Wds Z a0) (n0 : Nat) (a m : Addr) (h0 : Heap) (ga : n0 ≤ a) (O0 : Obj Z h0 a "com/example/record_guard/recordguard/conflict/SerializationFailureException" [("java/lang/Throwable", "cause", "Ljava/lang/Throwable;", .null), ("java/lang/Throwable", "stackTrace", "[Ljava/lang/StackTraceElement;", .null), ("java/lang/Throwable", "suppressedExceptions", "Ljava/util/List;", .null), ("java/lang/Throwable", "detailMessage", "Ljava/lang/String;", .null), ("java/lang/Throwable", "backtrace", "Ljava/lang/Object;", .null), ("java/lang/Throwable", "depth", "I", (.int (0 : Int32)))]) (N0 : Unt h0 a) (hl : l.stackTraces = true) (uS uP : Value) (huS : uS.isRef = true) (huP : uP.isRef = true) (S_U : Sta Z Z.heap "java/lang/Throwable" "UNASSIGNED_STACK" "[Ljava/lang/StackTraceElement;" uS) (S_P : Sta Z Z.heap "java/lang/Throwable" "SUPPRESSED_SENTINEL" "Ljava/util/List;" uP) : Con 2 l Z [("com/example/record_guard/recordguard/conflict/SerializationFailureException", 27), ("com/example/record_guard/recordguard/conflict/SerializationFailureException", 30), ("java/lang/String", 7)] n0 (⟨"java/lang/RuntimeException", "<init>", "(Ljava/lang/String;)V"⟩ : MethodName) jdk_58_method_2_code 2 none ({ frames := 5, cells := 1, slots := 2752, locals := 68 } : Room) #[(.ref a), (.ref m)] [] h0 (fun v h D' => v = none ∧ Keep h0 h [a] ∧ Obj Z h a "com/example/record_guard/recordguard/conflict/SerializationFailureException" [("java/lang/Throwable", "detailMessage", "Ljava/lang/String;", (.ref m)), ("java/lang/Throwable", "cause", "Ljava/lang/Throwable;", (.ref a))] ∧ Unt h a ∧ D' = []) := by
  refine Con.of_runs (ls := #[.val (.ref a), .val (.ref m)]) (by decide +kernel) (ef rfl rfl) ?_
  refine Runs.aloadN i35_0 rfl rfl ?_
  refine Runs.aloadN i35_1 rfl rfl ?_
  refine Runs.callCW (argsL := [(.ref m)]) (rest := []) (W := 0) i35_2 rfl (w191 hw) (w192 hw) (w196 hw) (w195 hw) (by decide) pd_0 rfl rfl rfl rfl (by decide) (by decide) (by decide) (by decide) all0 (by decide) (own_x3 l Z a0 hw n0 a m _ ga O0 N0 hl uS uP huS huP S_U S_P) ?_
  intro v h1 D1 q hsz
  obtain ⟨rfl, K1, O1, U1, rfl⟩ := q
  show Runs 2 l Z [("com/example/record_guard/recordguard/conflict/SerializationFailureException", 27), ("com/example/record_guard/recordguard/conflict/SerializationFailureException", 30), ("java/lang/String", 7)] n0 _ _ _ _ _ _ _ [] h1 1 2752 5 #[.val (.ref a), .val (.ref m)] []
  exact Runs.retV i35_5 rfl (by decide) (by decide) ⟨rfl, K1, O1, U1, rfl⟩
set_option maxRecDepth 65536 in
set_option maxHeartbeats 4000000 in
theorem own_x1 (l : Launch) (Z : State) (a0 : Array Value) (hw : Wds Z a0) (n0 : Nat) (a m : Addr) (h0 : Heap) (ga : n0 ≤ a) (O0 : Obj Z h0 a "com/example/record_guard/recordguard/conflict/SerializationFailureException" [("java/lang/Throwable", "cause", "Ljava/lang/Throwable;", .null), ("java/lang/Throwable", "stackTrace", "[Ljava/lang/StackTraceElement;", .null), ("java/lang/Throwable", "suppressedExceptions", "Ljava/util/List;", .null), ("java/lang/Throwable", "detailMessage", "Ljava/lang/String;", .null), ("java/lang/Throwable", "backtrace", "Ljava/lang/Object;", .null), ("java/lang/Throwable", "depth", "I", (.int (0 : Int32)))]) (N0 : Unt h0 a) (hl : l.stackTraces = true) (uS uP : Value) (huS : uS.isRef = true) (huP : uP.isRef = true) (S_U : Sta Z Z.heap "java/lang/Throwable" "UNASSIGNED_STACK" "[Ljava/lang/StackTraceElement;" uS) (S_P : Sta Z Z.heap "java/lang/Throwable" "SUPPRESSED_SENTINEL" "Ljava/util/List;" uP) : Con 2 l Z [("com/example/record_guard/recordguard/conflict/SerializationFailureException", 27), ("com/example/record_guard/recordguard/conflict/SerializationFailureException", 30), ("java/lang/String", 7)] n0 (⟨"com/example/record_guard/recordguard/conflict/ConcurrencyException", "<init>", "(Ljava/lang/String;)V"⟩ : MethodName) prog_58_method_1_code 2 none ({ frames := 6, cells := 1, slots := 2752, locals := 81 } : Room) #[(.ref a), (.ref m)] [] h0 (fun v h D' => v = none ∧ Keep h0 h [a] ∧ Obj Z h a "com/example/record_guard/recordguard/conflict/SerializationFailureException" [("java/lang/Throwable", "detailMessage", "Ljava/lang/String;", (.ref m)), ("java/lang/Throwable", "cause", "Ljava/lang/Throwable;", (.ref a))] ∧ Unt h a ∧ D' = []) := by
  refine Con.of_runs (ls := #[.val (.ref a), .val (.ref m)]) (by decide +kernel) (ef rfl rfl) ?_
  refine Runs.aloadN i34_0 rfl rfl ?_
  refine Runs.aloadN i34_1 rfl rfl ?_
  refine Runs.callCW (argsL := [(.ref m)]) (rest := []) (W := 0) i34_2 rfl (w186 hw) (w187 hw) (w190 hw) (w189 hw) (by decide) pd_0 rfl rfl rfl rfl (by decide) (by decide) (by decide) (by decide) all0 (by decide) (own_x2 l Z a0 hw n0 a m _ ga O0 N0 hl uS uP huS huP S_U S_P) ?_
  intro v h1 D1 q hsz
  obtain ⟨rfl, K1, O1, U1, rfl⟩ := q
  show Runs 2 l Z [("com/example/record_guard/recordguard/conflict/SerializationFailureException", 27), ("com/example/record_guard/recordguard/conflict/SerializationFailureException", 30), ("java/lang/String", 7)] n0 _ _ _ _ _ _ _ [] h1 1 2752 5 #[.val (.ref a), .val (.ref m)] []
  exact Runs.retV i34_5 rfl (by decide) (by decide) ⟨rfl, K1, O1, U1, rfl⟩
set_option maxRecDepth 65536 in
set_option maxHeartbeats 4000000 in
theorem own_x0 (l : Launch) (Z : State) (a0 : Array Value) (hw : Wds Z a0) (n0 : Nat) (a m : Addr) (h0 : Heap) (ga : n0 ≤ a) (O0 : Obj Z h0 a "com/example/record_guard/recordguard/conflict/SerializationFailureException" [("java/lang/Throwable", "cause", "Ljava/lang/Throwable;", .null), ("java/lang/Throwable", "stackTrace", "[Ljava/lang/StackTraceElement;", .null), ("java/lang/Throwable", "suppressedExceptions", "Ljava/util/List;", .null), ("java/lang/Throwable", "detailMessage", "Ljava/lang/String;", .null), ("java/lang/Throwable", "backtrace", "Ljava/lang/Object;", .null), ("java/lang/Throwable", "depth", "I", (.int (0 : Int32)))]) (N0 : Unt h0 a) (hl : l.stackTraces = true) (uS uP : Value) (huS : uS.isRef = true) (huP : uP.isRef = true) (S_U : Sta Z Z.heap "java/lang/Throwable" "UNASSIGNED_STACK" "[Ljava/lang/StackTraceElement;" uS) (S_P : Sta Z Z.heap "java/lang/Throwable" "SUPPRESSED_SENTINEL" "Ljava/util/List;" uP) : Con 2 l Z [("com/example/record_guard/recordguard/conflict/SerializationFailureException", 27), ("com/example/record_guard/recordguard/conflict/SerializationFailureException", 30), ("java/lang/String", 7)] n0 (⟨"com/example/record_guard/recordguard/conflict/SerializationFailureException", "<init>", "(Ljava/lang/String;)V"⟩ : MethodName) prog_64_method_2_code 2 none ({ frames := 7, cells := 1, slots := 2752, locals := 94 } : Room) #[(.ref a), (.ref m)] [] h0 (fun v h D' => v = none ∧ Keep h0 h [a] ∧ Obj Z h a "com/example/record_guard/recordguard/conflict/SerializationFailureException" [("java/lang/Throwable", "detailMessage", "Ljava/lang/String;", (.ref m)), ("java/lang/Throwable", "cause", "Ljava/lang/Throwable;", (.ref a))] ∧ Unt h a ∧ D' = []) := by
  refine Con.of_runs (ls := #[.val (.ref a), .val (.ref m)]) (by decide +kernel) (ef rfl rfl) ?_
  refine Runs.aloadN i33_0 rfl rfl ?_
  refine Runs.aloadN i33_1 rfl rfl ?_
  refine Runs.callCW (argsL := [(.ref m)]) (rest := []) (W := 0) i33_2 rfl (w181 hw) (w182 hw) (w185 hw) (w184 hw) (by decide) pd_0 rfl rfl rfl rfl (by decide) (by decide) (by decide) (by decide) all0 (by decide) (own_x1 l Z a0 hw n0 a m _ ga O0 N0 hl uS uP huS huP S_U S_P) ?_
  intro v h1 D1 q hsz
  obtain ⟨rfl, K1, O1, U1, rfl⟩ := q
  show Runs 2 l Z [("com/example/record_guard/recordguard/conflict/SerializationFailureException", 27), ("com/example/record_guard/recordguard/conflict/SerializationFailureException", 30), ("java/lang/String", 7)] n0 _ _ _ _ _ _ _ [] h1 1 2752 5 #[.val (.ref a), .val (.ref m)] []
  exact Runs.retV i33_5 rfl (by decide) (by decide) ⟨rfl, K1, O1, U1, rfl⟩
set_option maxRecDepth 65536 in
set_option maxHeartbeats 4000000 in
theorem own_si4_0 (l : Launch) (Z : State) (a0 : Array Value) (hw : Wds Z a0) (n0 : Nat) (a u : Addr) (h0 : Heap) (ga : n0 ≤ a) (O0 : Obj Z h0 a "java/lang/String" [("java/lang/String", "value", "[B", .null), ("java/lang/String", "coder", "B", (.int (0 : Int32)))]) : Con 2 l Z [("com/example/record_guard/recordguard/conflict/SerializationFailureException", 27), ("com/example/record_guard/recordguard/conflict/SerializationFailureException", 30), ("java/lang/String", 7)] n0 (⟨"java/lang/String", "<init>", "([CIILjava/lang/Void;)V"⟩ : MethodName) jdk_42_method_149_code 6 none ({ frames := 1, cells := 4, slots := 8, locals := 12 } : Room) #[(.ref a), (.ref u), (.int (0 : Int32)), (.int (0 : Int32)), .null] [a] h0 (fun v h D' => v = none ∧ ∃ t k, Keep h0 h [a] ∧ Obj Z h a "java/lang/String" [("java/lang/String", "value", "[B", (.ref t)), ("java/lang/String", "coder", "B", (.int (0 : Int32)))] ∧ Arv Z h t k .byte (0 : Int32) [] (.int 0) ∧ D' = []) := by
  refine Con.of_runs (ls := #[.val (.ref a), .val (.ref u), .val (.int (0 : Int32)), .val (.int (0 : Int32)), .val .null, .unset]) (by decide +kernel) (ef rfl rfl) ?_
  refine Runs.aloadN i3_0 rfl rfl ?_
  refine Runs.initO (W := 0) i3_1 (w15 hw) (w16 hw) (w17 hw) rfl (by decide) rfl (by decide) ?_
  refine Runs.iloadN i3_4 rfl ?_
  refine Runs.ifN i3_5 (teq (by decide : (0 : Int32) = (0 : Int32))).2 ?_
  refine Runs.aloadN i3_8 rfl rfl ?_
  refine Runs.ldcT (vs := []) (z := (0 : Int32)) (n := 0) (by decide) i3_9 (hw _ (List.mem_of_getElem? (i := 18) rfl)) (own_sa hw) (own_EW hw) (List.mem_of_getElem? (i := 2) rfl) ⟨by decide, by decide⟩ (by decide) (by decide) (by decide) (by decide) (by decide) (by decide) ?_
  intro h_1 s_2 t_3 k_4 K_5 O_6 A_7 dd_8
  show Runs 2 l Z [("com/example/record_guard/recordguard/conflict/SerializationFailureException", 27), ("com/example/record_guard/recordguard/conflict/SerializationFailureException", 30), ("java/lang/String", 7)] n0 _ _ _ _ _ _ _ [a] h_1 2 4 11 #[.val (.ref a), .val (.ref u), .val (.int (0 : Int32)), .val (.int (0 : Int32)), .val .null, .unset] [(.ref s_2), (.ref a)]
  refine Runs.getF i3_11 (host := "") (Or.inl (w24 hw)) Via.refl (O_6.fld (i := 0) rfl) ?_
  have O_9 := (O0.keep K_5 nin0)
  refine Runs.putF (i := 0) (ty := (.array .byte)) i3_14 (host := "") (Or.inl (w24 hw)) Via.refl O_9 rfl (lay_1 hw) rfl (Or.inr ⟨(w20 hw), rfl, rfl⟩) (w5 hw) (by decide) rfl rfl ga (Or.inl (List.mem_of_getElem? (i := 0) rfl)) ?_
  intro h_10 K_11 (O_12 : Obj Z h_10 a "java/lang/String" [("java/lang/String", "value", "[B", (.ref t_3)), ("java/lang/String", "coder", "B", (.int (0 : Int32)))])
  refine Runs.aloadN i3_17 rfl rfl ?_
  refine Runs.ldcT (vs := []) (z := (0 : Int32)) (n := 0) (by decide) i3_18 (hw _ (List.mem_of_getElem? (i := 18) rfl)) (own_sa hw) (own_EW hw) (List.mem_of_getElem? (i := 2) rfl) ⟨by decide, by decide⟩ (by decide) (by decide) (by decide) (by decide) (by decide) (by decide) ?_
  intro h_13 s_14 t_15 k_16 K_17 O_18 A_19 dd_20
  show Runs 2 l Z [("com/example/record_guard/recordguard/conflict/SerializationFailureException", 27), ("com/example/record_guard/recordguard/conflict/SerializationFailureException", 30), ("java/lang/String", 7)] n0 _ _ _ _ _ _ _ [a] h_13 4 8 20 #[.val (.ref a), .val (.ref u), .val (.int (0 : Int32)), .val (.int (0 : Int32)), .val .null, .unset] [(.ref s_14), (.ref a)]
  refine Runs.getF i3_20 (host := "") (Or.inl (w25 hw)) Via.refl (O_18.fld (i := 1) rfl) ?_
  have O_21 := (O_12.keep K_17 nin0)
  refine Runs.putF (i := 1) (ty := .byte) i3_23 (host := "") (Or.inl (w25 hw)) Via.refl O_21 rfl (lay_1 hw) rfl (Or.inr ⟨(w21 hw), rfl, rfl⟩) (w5 hw) (by decide) rfl rfl ga (Or.inl (List.mem_of_getElem? (i := 0) rfl)) ?_
  intro h_22 K_23 (O_24 : Obj Z h_22 a "java/lang/String" [("java/lang/String", "value", "[B", (.ref t_3)), ("java/lang/String", "coder", "B", (.int (0 : Int32)))])
  have A_25 := (((A_7.keep K_11 (ninS (Ne.symm (dd_8 _ (List.mem_of_getElem? (i := 0) rfl)).2) nin0)).keep K_17 nin0).keep K_23 (ninS (Ne.symm (dd_8 _ (List.mem_of_getElem? (i := 0) rfl)).2) nin0))
  refine Runs.weak (D1 := []) (fun _ q => nomatch q) ?_
  exact Runs.retV i3_26 rfl (by decide) (by decide) ⟨rfl, t_3, k_4, (((((Keep.refl _ _).trans K_5 all0).trans K_11 (allS (Or.inl (List.mem_of_getElem? (i := 0) rfl)) all0)).trans K_17 all0).trans K_23 (allS (Or.inl (List.mem_of_getElem? (i := 0) rfl)) all0)), O_24, A_25, rfl⟩
set_option maxRecDepth 65536 in
set_option maxHeartbeats 4000000 in
theorem own_si_0 (l : Launch) (Z : State) (a0 : Array Value) (hw : Wds Z a0) (n0 : Nat) (a u : Addr) (ku : ClassId) (h0 : Heap) (ga : n0 ≤ a) (O0 : Obj Z h0 a "java/lang/String" [("java/lang/String", "value", "[B", .null), ("java/lang/String", "coder", "B", (.int (0 : Int32)))]) (U0 : Arv Z h0 u ku .char (0 : Int32) [] (.int 0)) : Con 2 l Z [("com/example/record_guard/recordguard/conflict/SerializationFailureException", 27), ("com/example/record_guard/recordguard/conflict/SerializationFailureException", 30), ("java/lang/String", 7)] n0 (⟨"java/lang/String", "<init>", "([C)V"⟩ : MethodName) jdk_42_method_3_code 2 none ({ frames := 2, cells := 4, slots := 8, locals := 29 } : Room) #[(.ref a), (.ref u)] [a] h0 (fun v h D' => v = none ∧ ∃ t k, Keep h0 h [a] ∧ Obj Z h a "java/lang/String" [("java/lang/String", "value", "[B", (.ref t)), ("java/lang/String", "coder", "B", (.int (0 : Int32)))] ∧ Arv Z h t k .byte (0 : Int32) [] (.int 0) ∧ D' = []) := by
  refine Con.of_runs (ls := #[.val (.ref a), .val (.ref u)]) (by decide +kernel) (ef rfl rfl) ?_
  refine Runs.aloadN i2_0 rfl rfl ?_
  refine Runs.aloadN i2_1 rfl rfl ?_
  refine Runs.iconst (v := (0 : Int32)) i2_2 (by decide) ?_
  refine Runs.aloadN i2_3 rfl rfl ?_
  refine Runs.arrlen i2_4 U0 ?_
  refine Runs.aconstNull i2_5 ?_
  refine Runs.callCW (argsL := [(.ref u), (.int (0 : Int32)), (.int (0 : Int32)), .null]) (rest := []) (W := 0) i2_6 rfl (w11 hw) (w12 hw) (w14 hw) (w6 hw) (by decide) pd_1 rfl rfl rfl rfl (by decide) (by decide) (by decide) (by decide) (allS (List.mem_of_getElem? (i := 0) rfl) all0) (by decide) (own_si4_0 l Z a0 hw n0 a u _ ga O0) ?_
  intro v h_6 D1 q hsz
  obtain ⟨rfl, t_1, k_2, K_3, O_4, A_5, rfl⟩ := q
  show Runs 2 l Z [("com/example/record_guard/recordguard/conflict/SerializationFailureException", 27), ("com/example/record_guard/recordguard/conflict/SerializationFailureException", 30), ("java/lang/String", 7)] n0 _ _ _ _ _ _ _ [a] h_6 4 8 9 #[.val (.ref a), .val (.ref u)] []
  refine Runs.weak (D1 := []) (fun _ q => nomatch q) ?_
  exact Runs.retV i2_9 rfl (by decide) (by decide) ⟨rfl, t_1, k_2, K_3, O_4, A_5, rfl⟩
set_option maxRecDepth 65536 in
set_option maxHeartbeats 4000000 in
theorem own_cpI1 (l : Launch) (Z : State) (a0 : Array Value) (hw : Wds Z a0) (n0 : Nat) (c0 : Int32) (hc0 : ¬ c0 < 0 ∧ ¬ (255 : Int32) < c0) (u t : Addr) (ku kt : ClassId) (hut : u ≠ t) (gt : n0 ≤ t) (h0 : Heap) (U0 : Arv Z h0 u ku .char (1 : Int32) [(.int c0)] (.int 0)) (T0 : Arv Z h0 t kt .byte (1 : Int32) [(.int (0 : Int32))] (.int 0)) : Con 2 l Z [("com/example/record_guard/recordguard/conflict/SerializationFailureException", 27), ("com/example/record_guard/recordguard/conflict/SerializationFailureException", 30), ("java/lang/String", 7)] n0 (⟨"java/lang/StringUTF16", "compress", "([CI[BII)I"⟩ : MethodName) jdk_52_method_21_code 7 (some .int) ({ frames := 0, cells := 0, slots := 0, locals := 0 } : Room) #[(.ref u), (.int (0 : Int32)), (.ref t), (.int (0 : Int32)), (.int (1 : Int32))] [t] h0 (fun v h D' => v = some (.int (1 : Int32)) ∧ Keep h0 h [t] ∧ Arv Z h t kt .byte (1 : Int32) [(.int ((Int32.toInt8 c0).toInt32))] (.int 0) ∧ D' = []) := by
  refine Con.of_runs (ls := #[.val (.ref u), .val (.int (0 : Int32)), .val (.ref t), .val (.int (0 : Int32)), .val (.int (1 : Int32)), .unset, .unset]) (by decide +kernel) (ef rfl rfl) ?_
  refine Runs.iconst (v := (0 : Int32)) i51_0 (by decide) ?_
  refine Runs.istore (ls' := #[.val (.ref u), .val (.int (0 : Int32)), .val (.ref t), .val (.int (0 : Int32)), .val (.int (1 : Int32)), .val (.int (0 : Int32)), .unset]) i51_1 rfl ?_
  refine Runs.iload i51_3 rfl ?_
  refine Runs.iload i51_5 rfl ?_
  refine Runs.icN i51_7 (tlt (by decide : (0 : Int32) < (1 : Int32))).2.1 ?_
  refine Runs.aloadN i51_10 rfl rfl ?_
  refine Runs.iloadN i51_11 rfl ?_
  refine Runs.caload (v := (.int c0)) i51_12 U0 ⟨by decide, by decide⟩ rfl ?_
  refine Runs.istore (ls' := #[.val (.ref u), .val (.int (0 : Int32)), .val (.ref t), .val (.int (0 : Int32)), .val (.int (1 : Int32)), .val (.int (0 : Int32)), .val (.int c0)]) i51_13 rfl ?_
  refine Runs.iload i51_15 rfl ?_
  refine Runs.sipush (v := (255 : Int32)) i51_17 (by decide) ?_
  refine Runs.icY (t := 26) i51_20 (by decide) (flt hc0.2).2.2.2 ?_
  refine Runs.aloadN i51_26 rfl rfl ?_
  refine Runs.iloadN i51_27 rfl ?_
  refine Runs.iload i51_28 rfl ?_
  obtain ⟨x_1, hx_1⟩ : ∃ z : Int32, (Int32.toInt8 c0).toInt32 = z := ⟨_, rfl⟩
  refine Runs.i2b i51_30 hx_1 ?_
  refine Runs.bastore (i := 0) (y := ((Int32.toInt8 c0).toInt32)) i51_31 T0 ⟨by decide, by decide⟩ (by decide) (Nat.le_of_ble_eq_true rfl) (by rw [← hx_1]; exact own_bb _) gt (Or.inl (List.mem_of_getElem? (i := 0) rfl)) ?_
  intro h_2 K_3 (A_4 : Arv Z h_2 t kt .byte (1 : Int32) [(.int ((Int32.toInt8 c0).toInt32))] (.int 0))
  refine Runs.iinc (z := (1 : Int32)) (ls' := #[.val (.ref u), .val (.int (1 : Int32)), .val (.ref t), .val (.int (0 : Int32)), .val (.int (1 : Int32)), .val (.int (0 : Int32)), .val (.int c0)]) i51_32 rfl (by decide) rfl ?_
  refine Runs.iinc (z := (1 : Int32)) (ls' := #[.val (.ref u), .val (.int (1 : Int32)), .val (.ref t), .val (.int (1 : Int32)), .val (.int (1 : Int32)), .val (.int (0 : Int32)), .val (.int c0)]) i51_35 rfl (by decide) rfl ?_
  refine Runs.iinc (z := (1 : Int32)) (ls' := #[.val (.ref u), .val (.int (1 : Int32)), .val (.ref t), .val (.int (1 : Int32)), .val (.int (1 : Int32)), .val (.int (1 : Int32)), .val (.int c0)]) i51_38 rfl (by decide) rfl ?_
  refine Runs.goto (t := 3) i51_41 (by decide) ?_
  refine Runs.iload i51_3 rfl ?_
  refine Runs.iload i51_5 rfl ?_
  refine Runs.icY (t := 44) i51_7 (by decide) (flt (by decide : ¬ ((1 : Int32) < (1 : Int32)))).2.1 ?_
  refine Runs.iload i51_44 rfl ?_
  refine Runs.weak (D1 := []) (fun _ q => nomatch q) ?_
  exact Runs.retI (z := (1 : Int32)) i51_46 rfl (Or.inl rfl) rfl (by decide) (by decide) ⟨rfl, ((Keep.refl _ _).trans K_3 (allS (Or.inl (List.mem_of_getElem? (i := 0) rfl)) all0)), A_4, rfl⟩
set_option maxRecDepth 65536 in
set_option maxHeartbeats 4000000 in
theorem own_cp1 (l : Launch) (Z : State) (a0 : Array Value) (hw : Wds Z a0) (n0 : Nat) (c0 : Int32) (hc0 : ¬ c0 < 0 ∧ ¬ (255 : Int32) < c0) (u : Addr) (ku : ClassId) (h0 : Heap) (U0 : Arv Z h0 u ku .char (1 : Int32) [(.int c0)] (.int 0)) : Con 2 l Z [("com/example/record_guard/recordguard/conflict/SerializationFailureException", 27), ("com/example/record_guard/recordguard/conflict/SerializationFailureException", 30), ("java/lang/String", 7)] n0 (⟨"java/lang/StringUTF16", "compress", "([CII)[B"⟩ : MethodName) jdk_52_method_16_code 6 (some (.array .byte)) ({ frames := 1, cells := 1, slots := 1, locals := 18 } : Room) #[(.ref u), (.int (0 : Int32)), (.int (1 : Int32))] [] h0 (fun v h D' => ∃ b k, v = some (.ref b) ∧ h0.size ≤ b ∧ Keep h0 h [] ∧ Arv Z h b k .byte (1 : Int32) [(.int ((Int32.toInt8 c0).toInt32))] (.int 0) ∧ D' = [b]) := by
  refine Con.of_runs (ls := #[.val (.ref u), .val (.int (0 : Int32)), .val (.int (1 : Int32)), .unset, .unset, .unset]) (by decide +kernel) (ef rfl rfl) ?_
  refine Runs.iloadN i50_0 rfl ?_
  refine Runs.newP (cap := 1) (ad := "[B") i50_1 (w19 hw) (by decide) (by decide) (by decide) (by decide) (by decide) rfl ?_
  intro h_1 b_2 k_3 g_6 ge_7 K_4 (A_5 : Arv Z h_1 b_2 k_3 .byte (1 : Int32) [] (.int (0 : Int32))) E_8
  have A_9 : Arv Z h_1 b_2 k_3 .byte (1 : Int32) [(.int (0 : Int32))] (.int (0 : Int32)) := A_5.pad (pad_rep [] (.int (0 : Int32)) 1)
  refine Runs.astoreN (ls' := #[.val (.ref u), .val (.int (0 : Int32)), .val (.int (1 : Int32)), .val (.ref b_2), .unset, .unset]) i50_3 rfl rfl ?_
  refine Runs.aloadN i50_4 rfl rfl ?_
  refine Runs.iloadN i50_5 rfl ?_
  refine Runs.aloadN i50_6 rfl rfl ?_
  refine Runs.iconst (v := (0 : Int32)) i50_7 (by decide) ?_
  refine Runs.iloadN i50_8 rfl ?_
  have A_10 := (U0.keep K_4 nin0)
  refine Runs.callSW (argsL := [(.ref u), (.int (0 : Int32)), (.ref b_2), (.int (0 : Int32)), (.int (1 : Int32))]) (rest := []) (W := 0) i50_9 (w290 hw) (w291 hw) (w288 hw) (w292 hw) (by decide) pd_2 rfl rfl rfl rfl (by decide) (by decide) (by decide) (by decide) (allS (List.mem_of_getElem? (i := 0) rfl) all0) (by decide) (own_cpI1 l Z a0 hw n0 c0 hc0 u b_2 ku k_3 (Nat.ne_of_lt (Nat.lt_of_lt_of_le (Nat.lt_of_lt_of_le U0.lt (Nat.le_refl _)) g_6)) ge_7 _ A_10 A_9) ?_
  intro v h_13 D1 q hsz
  obtain ⟨rfl, K_11, A_12, rfl⟩ := q
  show Runs 2 l Z [("com/example/record_guard/recordguard/conflict/SerializationFailureException", 27), ("com/example/record_guard/recordguard/conflict/SerializationFailureException", 30), ("java/lang/String", 7)] n0 _ _ _ _ _ _ _ [b_2] h_13 1 1 12 #[.val (.ref u), .val (.int (0 : Int32)), .val (.int (1 : Int32)), .val (.ref b_2), .unset, .unset] [(.int (1 : Int32))]
  refine Runs.istore (ls' := #[.val (.ref u), .val (.int (0 : Int32)), .val (.int (1 : Int32)), .val (.ref b_2), .val (.int (1 : Int32)), .unset]) i50_12 rfl ?_
  refine Runs.iload i50_14 rfl ?_
  refine Runs.iloadN i50_16 rfl ?_
  refine Runs.icY (t := 57) i50_17 (by decide) (teq (by decide : (1 : Int32) = (1 : Int32))).1 ?_
  refine Runs.aloadN i50_57 rfl rfl ?_
  exact Runs.retA i50_58 rfl rfl rfl (by decide) (by decide) ⟨b_2, k_3, rfl, g_6, (((Keep.refl _ _).trans K_4 all0).trans K_11 (allS (Or.inr (Nat.le_trans (Nat.le_refl _) g_6)) all0)), A_12, rfl⟩
set_option maxRecDepth 65536 in
set_option maxHeartbeats 4000000 in
theorem own_cdl1_1 (l : Launch) (Z : State) (a0 : Array Value) (hw : Wds Z a0) (n0 : Nat) (t : Addr) (kt : ClassId) (vs : List Value) (d : Value) (h0 : Heap) (T0 : Arv Z h0 t kt .byte (1 : Int32) vs d) : Con 2 l Z [("com/example/record_guard/recordguard/conflict/SerializationFailureException", 27), ("com/example/record_guard/recordguard/conflict/SerializationFailureException", 30), ("java/lang/String", 7)] n0 (⟨"java/lang/StringUTF16", "coderFromArrayLen", "([BI)B"⟩ : MethodName) jdk_52_method_15_code 2 (some .byte) ({ frames := 0, cells := 0, slots := 0, locals := 0 } : Room) #[(.ref t), (.int (1 : Int32))] [] h0 (fun v h D' => v = some (.int (0 : Int32)) ∧ h0 = h ∧ D' = []) := by
  refine Con.of_runs (ls := #[.val (.ref t), .val (.int (1 : Int32))]) (by decide +kernel) (ef rfl rfl) ?_
  refine Runs.iloadN i52_0 rfl ?_
  refine Runs.aloadN i52_1 rfl rfl ?_
  refine Runs.arrlen i52_2 T0 ?_
  refine Runs.isub (z := (0 : Int32)) i52_3 (by decide) ?_
  refine Runs.bipush (v := (31 : Int32)) i52_4 (by decide) ?_
  refine Runs.iushr (z := (0 : Int32)) i52_6 (by decide) ?_
  refine Runs.i2b (z := (0 : Int32)) i52_7 (by decide) ?_
  exact Runs.retI (z := (0 : Int32)) i52_8 rfl (Or.inr (Or.inr (Or.inl rfl))) (by decide) (by decide) (by decide) ⟨rfl, rfl, rfl⟩
set_option maxRecDepth 65536 in
set_option maxHeartbeats 4000000 in
theorem own_si4_1 (l : Launch) (Z : State) (a0 : Array Value) (hw : Wds Z a0) (n0 : Nat) (c0 : Int32) (hc0 : ¬ c0 < 0 ∧ ¬ (255 : Int32) < c0) (a u : Addr) (ku : ClassId) (hua : u ≠ a) (cpt : Int32) (h0 : Heap) (ga : n0 ≤ a) (O0 : Obj Z h0 a "java/lang/String" [("java/lang/String", "value", "[B", .null), ("java/lang/String", "coder", "B", (.int (0 : Int32)))]) (U0 : Arv Z h0 u ku .char (1 : Int32) [(.int c0)] (.int 0)) (S_C : Sta Z Z.heap "java/lang/String" "COMPACT_STRINGS" "Z" (.int cpt)) (hcpt : ¬ cpt = 0) : Con 2 l Z [("com/example/record_guard/recordguard/conflict/SerializationFailureException", 27), ("com/example/record_guard/recordguard/conflict/SerializationFailureException", 30), ("java/lang/String", 7)] n0 (⟨"java/lang/String", "<init>", "([CIILjava/lang/Void;)V"⟩ : MethodName) jdk_42_method_149_code 6 none ({ frames := 2, cells := 1, slots := 1, locals := 36 } : Room) #[(.ref a), (.ref u), (.int (0 : Int32)), (.int (1 : Int32)), .null] [a] h0 (fun v h D' => v = none ∧ ∃ t k, h0.size ≤ t ∧ Keep h0 h [a] ∧ Obj Z h a "java/lang/String" [("java/lang/String", "value", "[B", (.ref t)), ("java/lang/String", "coder", "B", (.int (0 : Int32)))] ∧ Arv Z h t k .byte (1 : Int32) [(.int ((Int32.toInt8 c0).toInt32))] (.int 0) ∧ D' = []) := by
  refine Con.of_runs (ls := #[.val (.ref a), .val (.ref u), .val (.int (0 : Int32)), .val (.int (1 : Int32)), .val .null, .unset]) (by decide +kernel) (ef rfl rfl) ?_
  refine Runs.aloadN i3_0 rfl rfl ?_
  refine Runs.initO (W := 0) i3_1 (w15 hw) (w16 hw) (w17 hw) rfl (by decide) rfl (by decide) ?_
  refine Runs.iloadN i3_4 rfl ?_
  refine Runs.ifY (t := 27) i3_5 (by decide) (feq (by decide : ¬ ((1 : Int32) = (0 : Int32)))).2 ?_
  refine Runs.getS i3_27 (w29 hw) Via.refl S_C ?_
  refine Runs.ifN i3_30 (feq hcpt).1 ?_
  refine Runs.aloadN i3_33 rfl rfl ?_
  refine Runs.iloadN i3_34 rfl ?_
  refine Runs.iloadN i3_35 rfl ?_
  refine Runs.callSW (argsL := [(.ref u), (.int (0 : Int32)), (.int (1 : Int32))]) (rest := []) (W := 0) i3_36 (w286 hw) (w287 hw) (w288 hw) (w289 hw) (by decide) pd_3 rfl rfl rfl rfl (by decide) (by decide) (by decide) (by decide) all0 (by decide) (own_cp1 l Z a0 hw n0 c0 hc0 u ku _ U0) ?_
  intro v h_6 D1 q hsz
  obtain ⟨b_1, k_2, rfl, g_3, K_4, A_5, rfl⟩ := q
  show Runs 2 l Z [("com/example/record_guard/recordguard/conflict/SerializationFailureException", 27), ("com/example/record_guard/recordguard/conflict/SerializationFailureException", 30), ("java/lang/String", 7)] n0 _ _ _ _ _ _ _ [b_1, a] h_6 1 1 39 #[.val (.ref a), .val (.ref u), .val (.int (0 : Int32)), .val (.int (1 : Int32)), .val .null, .unset] [(.ref b_1)]
  refine Runs.astore (ls' := #[.val (.ref a), .val (.ref u), .val (.int (0 : Int32)), .val (.int (1 : Int32)), .val .null, .val (.ref b_1)]) i3_39 rfl rfl ?_
  refine Runs.aloadN i3_41 rfl rfl ?_
  refine Runs.aload i3_42 rfl rfl ?_
  refine Runs.iloadN i3_44 rfl ?_
  refine Runs.callSW (argsL := [(.ref b_1), (.int (1 : Int32))]) (rest := [(.ref a)]) (W := 1) i3_45 (w293 hw) (w294 hw) (w288 hw) (w295 hw) (by decide) pd_4 rfl rfl rfl rfl (by decide) (by decide) (by decide) (by decide) all0 (by decide) (own_cdl1_1 l Z a0 hw n0 b_1 _ _ _ _ A_5) ?_
  intro v h1 D1 q hsz
  obtain ⟨rfl, rfl, rfl⟩ := q
  show Runs 2 l Z [("com/example/record_guard/recordguard/conflict/SerializationFailureException", 27), ("com/example/record_guard/recordguard/conflict/SerializationFailureException", 30), ("java/lang/String", 7)] n0 _ _ _ _ _ _ _ [b_1, a] h_6 1 1 48 #[.val (.ref a), .val (.ref u), .val (.int (0 : Int32)), .val (.int (1 : Int32)), .val .null, .val (.ref b_1)] [(.int (0 : Int32)), (.ref a)]
  have O_7 := (O0.keep K_4 nin0)
  refine Runs.putF (i := 1) (ty := .byte) i3_48 (host := "") (Or.inl (w25 hw)) Via.refl O_7 rfl (lay_1 hw) rfl (Or.inr ⟨(w21 hw), rfl, rfl⟩) (w5 hw) (by decide) rfl rfl ga (Or.inl (List.mem_of_getElem? (i := 1) rfl)) ?_
  intro h_8 K_9 (O_10 : Obj Z h_8 a "java/lang/String" [("java/lang/String", "value", "[B", .null), ("java/lang/String", "coder", "B", (.int (0 : Int32)))])
  refine Runs.aloadN i3_51 rfl rfl ?_
  refine Runs.aload i3_52 rfl rfl ?_
  refine Runs.putF (i := 0) (ty := (.array .byte)) i3_54 (host := "") (Or.inl (w24 hw)) Via.refl O_10 rfl (lay_1 hw) rfl (Or.inr ⟨(w20 hw), rfl, rfl⟩) (w5 hw) (by decide) rfl rfl ga (Or.inl (List.mem_of_getElem? (i := 1) rfl)) ?_
  intro h_11 K_12 (O_13 : Obj Z h_11 a "java/lang/String" [("java/lang/String", "value", "[B", (.ref b_1)), ("java/lang/String", "coder", "B", (.int (0 : Int32)))])
  have A_14 := ((A_5.keep K_9 (ninS (Nat.ne_of_gt (Nat.lt_of_lt_of_le (Nat.lt_of_lt_of_le O0.lt (Nat.le_refl _)) g_3)) nin0)).keep K_12 (ninS (Nat.ne_of_gt (Nat.lt_of_lt_of_le (Nat.lt_of_lt_of_le O0.lt (Nat.le_refl _)) g_3)) nin0))
  refine Runs.weak (D1 := []) (fun _ q => nomatch q) ?_
  exact Runs.retV i3_57 rfl (by decide) (by decide) ⟨rfl, b_1, k_2, (Nat.le_trans (Nat.le_refl _) g_3), ((((Keep.refl _ _).trans K_4 all0).trans K_9 (allS (Or.inl (List.mem_of_getElem? (i := 0) rfl)) all0)).trans K_12 (allS (Or.inl (List.mem_of_getElem? (i := 0) rfl)) all0)), O_13, A_14, rfl⟩
set_option maxRecDepth 65536 in
set_option maxHeartbeats 4000000 in
theorem own_si_1 (l : Launch) (Z : State) (a0 : Array Value) (hw : Wds Z a0) (n0 : Nat) (c0 : Int32) (hc0 : ¬ c0 < 0 ∧ ¬ (255 : Int32) < c0) (a u : Addr) (ku : ClassId) (hua : u ≠ a) (cpt : Int32) (h0 : Heap) (ga : n0 ≤ a) (O0 : Obj Z h0 a "java/lang/String" [("java/lang/String", "value", "[B", .null), ("java/lang/String", "coder", "B", (.int (0 : Int32)))]) (U0 : Arv Z h0 u ku .char (1 : Int32) [(.int c0)] (.int 0)) (S_C : Sta Z Z.heap "java/lang/String" "COMPACT_STRINGS" "Z" (.int cpt)) (hcpt : ¬ cpt = 0) : Con 2 l Z [("com/example/record_guard/recordguard/conflict/SerializationFailureException", 27), ("com/example/record_guard/recordguard/conflict/SerializationFailureException", 30), ("java/lang/String", 7)] n0 (⟨"java/lang/String", "<init>", "([C)V"⟩ : MethodName) jdk_42_method_3_code 2 none ({ frames := 3, cells := 1, slots := 1, locals := 53 } : Room) #[(.ref a), (.ref u)] [a] h0 (fun v h D' => v = none ∧ ∃ t k, h0.size ≤ t ∧ Keep h0 h [a] ∧ Obj Z h a "java/lang/String" [("java/lang/String", "value", "[B", (.ref t)), ("java/lang/String", "coder", "B", (.int (0 : Int32)))] ∧ Arv Z h t k .byte (1 : Int32) [(.int ((Int32.toInt8 c0).toInt32))] (.int 0) ∧ D' = []) := by
  refine Con.of_runs (ls := #[.val (.ref a), .val (.ref u)]) (by decide +kernel) (ef rfl rfl) ?_
  refine Runs.aloadN i2_0 rfl rfl ?_
  refine Runs.aloadN i2_1 rfl rfl ?_
  refine Runs.iconst (v := (0 : Int32)) i2_2 (by decide) ?_
  refine Runs.aloadN i2_3 rfl rfl ?_
  refine Runs.arrlen i2_4 U0 ?_
  refine Runs.aconstNull i2_5 ?_
  refine Runs.callCW (argsL := [(.ref u), (.int (0 : Int32)), (.int (1 : Int32)), .null]) (rest := []) (W := 0) i2_6 rfl (w11 hw) (w12 hw) (w14 hw) (w6 hw) (by decide) pd_1 rfl rfl rfl rfl (by decide) (by decide) (by decide) (by decide) (allS (List.mem_of_getElem? (i := 0) rfl) all0) (by decide) (own_si4_1 l Z a0 hw n0 c0 hc0 a u ku hua cpt _ ga O0 U0 S_C hcpt) ?_
  intro v h_7 D1 q hsz
  obtain ⟨rfl, t_1, k_2, g_3, K_4, O_5, A_6, rfl⟩ := q
  show Runs 2 l Z [("com/example/record_guard/recordguard/conflict/SerializationFailureException", 27), ("com/example/record_guard/recordguard/conflict/SerializationFailureException", 30), ("java/lang/String", 7)] n0 _ _ _ _ _ _ _ [a] h_7 1 1 9 #[.val (.ref a), .val (.ref u)] []
  refine Runs.weak (D1 := []) (fun _ q => nomatch q) ?_
  exact Runs.retV i2_9 rfl (by decide) (by decide) ⟨rfl, t_1, k_2, g_3, K_4, O_5, A_6, rfl⟩
set_option maxRecDepth 65536 in
set_option maxHeartbeats 4000000 in
theorem own_cpI2 (l : Launch) (Z : State) (a0 : Array Value) (hw : Wds Z a0) (n0 : Nat) (c0 : Int32) (hc0 : ¬ c0 < 0 ∧ ¬ (255 : Int32) < c0) (c1 : Int32) (hc1 : ¬ c1 < 0 ∧ ¬ (255 : Int32) < c1) (u t : Addr) (ku kt : ClassId) (hut : u ≠ t) (gt : n0 ≤ t) (h0 : Heap) (U0 : Arv Z h0 u ku .char (2 : Int32) [(.int c0), (.int c1)] (.int 0)) (T0 : Arv Z h0 t kt .byte (2 : Int32) [(.int (0 : Int32)), (.int (0 : Int32))] (.int 0)) : Con 2 l Z [("com/example/record_guard/recordguard/conflict/SerializationFailureException", 27), ("com/example/record_guard/recordguard/conflict/SerializationFailureException", 30), ("java/lang/String", 7)] n0 (⟨"java/lang/StringUTF16", "compress", "([CI[BII)I"⟩ : MethodName) jdk_52_method_21_code 7 (some .int) ({ frames := 0, cells := 0, slots := 0, locals := 0 } : Room) #[(.ref u), (.int (0 : Int32)), (.ref t), (.int (0 : Int32)), (.int (2 : Int32))] [t] h0 (fun v h D' => v = some (.int (2 : Int32)) ∧ Keep h0 h [t] ∧ Arv Z h t kt .byte (2 : Int32) [(.int ((Int32.toInt8 c0).toInt32)), (.int ((Int32.toInt8 c1).toInt32))] (.int 0) ∧ D' = []) := by
  refine Con.of_runs (ls := #[.val (.ref u), .val (.int (0 : Int32)), .val (.ref t), .val (.int (0 : Int32)), .val (.int (2 : Int32)), .unset, .unset]) (by decide +kernel) (ef rfl rfl) ?_
  refine Runs.iconst (v := (0 : Int32)) i51_0 (by decide) ?_
  refine Runs.istore (ls' := #[.val (.ref u), .val (.int (0 : Int32)), .val (.ref t), .val (.int (0 : Int32)), .val (.int (2 : Int32)), .val (.int (0 : Int32)), .unset]) i51_1 rfl ?_
  refine Runs.iload i51_3 rfl ?_
  refine Runs.iload i51_5 rfl ?_
  refine Runs.icN i51_7 (tlt (by decide : (0 : Int32) < (2 : Int32))).2.1 ?_
  refine Runs.aloadN i51_10 rfl rfl ?_
  refine Runs.iloadN i51_11 rfl ?_
  refine Runs.caload (v := (.int c0)) i51_12 U0 ⟨by decide, by decide⟩ rfl ?_
  refine Runs.istore (ls' := #[.val (.ref u), .val (.int (0 : Int32)), .val (.ref t), .val (.int (0 : Int32)), .val (.int (2 : Int32)), .val (.int (0 : Int32)), .val (.int c0)]) i51_13 rfl ?_
  refine Runs.iload i51_15 rfl ?_
  refine Runs.sipush (v := (255 : Int32)) i51_17 (by decide) ?_
  refine Runs.icY (t := 26) i51_20 (by decide) (flt hc0.2).2.2.2 ?_
  refine Runs.aloadN i51_26 rfl rfl ?_
  refine Runs.iloadN i51_27 rfl ?_
  refine Runs.iload i51_28 rfl ?_
  obtain ⟨x_1, hx_1⟩ : ∃ z : Int32, (Int32.toInt8 c0).toInt32 = z := ⟨_, rfl⟩
  refine Runs.i2b i51_30 hx_1 ?_
  refine Runs.bastore (i := 0) (y := ((Int32.toInt8 c0).toInt32)) i51_31 T0 ⟨by decide, by decide⟩ (by decide) (Nat.le_of_ble_eq_true rfl) (by rw [← hx_1]; exact own_bb _) gt (Or.inl (List.mem_of_getElem? (i := 0) rfl)) ?_
  intro h_2 K_3 (A_4 : Arv Z h_2 t kt .byte (2 : Int32) [(.int ((Int32.toInt8 c0).toInt32)), (.int (0 : Int32))] (.int 0))
  refine Runs.iinc (z := (1 : Int32)) (ls' := #[.val (.ref u), .val (.int (1 : Int32)), .val (.ref t), .val (.int (0 : Int32)), .val (.int (2 : Int32)), .val (.int (0 : Int32)), .val (.int c0)]) i51_32 rfl (by decide) rfl ?_
  refine Runs.iinc (z := (1 : Int32)) (ls' := #[.val (.ref u), .val (.int (1 : Int32)), .val (.ref t), .val (.int (1 : Int32)), .val (.int (2 : Int32)), .val (.int (0 : Int32)), .val (.int c0)]) i51_35 rfl (by decide) rfl ?_
  refine Runs.iinc (z := (1 : Int32)) (ls' := #[.val (.ref u), .val (.int (1 : Int32)), .val (.ref t), .val (.int (1 : Int32)), .val (.int (2 : Int32)), .val (.int (1 : Int32)), .val (.int c0)]) i51_38 rfl (by decide) rfl ?_
  refine Runs.goto (t := 3) i51_41 (by decide) ?_
  refine Runs.iload i51_3 rfl ?_
  refine Runs.iload i51_5 rfl ?_
  refine Runs.icN i51_7 (tlt (by decide : (1 : Int32) < (2 : Int32))).2.1 ?_
  refine Runs.aloadN i51_10 rfl rfl ?_
  refine Runs.iloadN i51_11 rfl ?_
  have A_5 := (U0.keep K_3 (ninS hut nin0))
  refine Runs.caload (v := (.int c1)) i51_12 A_5 ⟨by decide, by decide⟩ rfl ?_
  refine Runs.istore (ls' := #[.val (.ref u), .val (.int (1 : Int32)), .val (.ref t), .val (.int (1 : Int32)), .val (.int (2 : Int32)), .val (.int (1 : Int32)), .val (.int c1)]) i51_13 rfl ?_
  refine Runs.iload i51_15 rfl ?_
  refine Runs.sipush (v := (255 : Int32)) i51_17 (by decide) ?_
  refine Runs.icY (t := 26) i51_20 (by decide) (flt hc1.2).2.2.2 ?_
  refine Runs.aloadN i51_26 rfl rfl ?_
  refine Runs.iloadN i51_27 rfl ?_
  refine Runs.iload i51_28 rfl ?_
  obtain ⟨x_6, hx_6⟩ : ∃ z : Int32, (Int32.toInt8 c1).toInt32 = z := ⟨_, rfl⟩
  refine Runs.i2b i51_30 hx_6 ?_
  refine Runs.bastore (i := 1) (y := ((Int32.toInt8 c1).toInt32)) i51_31 A_4 ⟨by decide, by decide⟩ (by decide) (Nat.le_of_ble_eq_true rfl) (by rw [← hx_6]; exact own_bb _) gt (Or.inl (List.mem_of_getElem? (i := 0) rfl)) ?_
  intro h_7 K_8 (A_9 : Arv Z h_7 t kt .byte (2 : Int32) [(.int ((Int32.toInt8 c0).toInt32)), (.int ((Int32.toInt8 c1).toInt32))] (.int 0))
  refine Runs.iinc (z := (2 : Int32)) (ls' := #[.val (.ref u), .val (.int (2 : Int32)), .val (.ref t), .val (.int (1 : Int32)), .val (.int (2 : Int32)), .val (.int (1 : Int32)), .val (.int c1)]) i51_32 rfl (by decide) rfl ?_
  refine Runs.iinc (z := (2 : Int32)) (ls' := #[.val (.ref u), .val (.int (2 : Int32)), .val (.ref t), .val (.int (2 : Int32)), .val (.int (2 : Int32)), .val (.int (1 : Int32)), .val (.int c1)]) i51_35 rfl (by decide) rfl ?_
  refine Runs.iinc (z := (2 : Int32)) (ls' := #[.val (.ref u), .val (.int (2 : Int32)), .val (.ref t), .val (.int (2 : Int32)), .val (.int (2 : Int32)), .val (.int (2 : Int32)), .val (.int c1)]) i51_38 rfl (by decide) rfl ?_
  refine Runs.goto (t := 3) i51_41 (by decide) ?_
  refine Runs.iload i51_3 rfl ?_
  refine Runs.iload i51_5 rfl ?_
  refine Runs.icY (t := 44) i51_7 (by decide) (flt (by decide : ¬ ((2 : Int32) < (2 : Int32)))).2.1 ?_
  refine Runs.iload i51_44 rfl ?_
  refine Runs.weak (D1 := []) (fun _ q => nomatch q) ?_
  exact Runs.retI (z := (2 : Int32)) i51_46 rfl (Or.inl rfl) rfl (by decide) (by decide) ⟨rfl, (((Keep.refl _ _).trans K_3 (allS (Or.inl (List.mem_of_getElem? (i := 0) rfl)) all0)).trans K_8 (allS (Or.inl (List.mem_of_getElem? (i := 0) rfl)) all0)), A_9, rfl⟩
set_option maxRecDepth 65536 in
set_option maxHeartbeats 4000000 in
theorem own_cp2 (l : Launch) (Z : State) (a0 : Array Value) (hw : Wds Z a0) (n0 : Nat) (c0 : Int32) (hc0 : ¬ c0 < 0 ∧ ¬ (255 : Int32) < c0) (c1 : Int32) (hc1 : ¬ c1 < 0 ∧ ¬ (255 : Int32) < c1) (u : Addr) (ku : ClassId) (h0 : Heap) (U0 : Arv Z h0 u ku .char (2 : Int32) [(.int c0), (.int c1)] (.int 0)) : Con 2 l Z [("com/example/record_guard/recordguard/conflict/SerializationFailureException", 27), ("com/example/record_guard/recordguard/conflict/SerializationFailureException", 30), ("java/lang/String", 7)] n0 (⟨"java/lang/StringUTF16", "compress", "([CII)[B"⟩ : MethodName) jdk_52_method_16_code 6 (some (.array .byte)) ({ frames := 1, cells := 1, slots := 2, locals := 18 } : Room) #[(.ref u), (.int (0 : Int32)), (.int (2 : Int32))] [] h0 (fun v h D' => ∃ b k, v = some (.ref b) ∧ h0.size ≤ b ∧ Keep h0 h [] ∧ Arv Z h b k .byte (2 : Int32) [(.int ((Int32.toInt8 c0).toInt32)), (.int ((Int32.toInt8 c1).toInt32))] (.int 0) ∧ D' = [b]) := by
  refine Con.of_runs (ls := #[.val (.ref u), .val (.int (0 : Int32)), .val (.int (2 : Int32)), .unset, .unset, .unset]) (by decide +kernel) (ef rfl rfl) ?_
  refine Runs.iloadN i50_0 rfl ?_
  refine Runs.newP (cap := 2) (ad := "[B") i50_1 (w19 hw) (by decide) (by decide) (by decide) (by decide) (by decide) rfl ?_
  intro h_1 b_2 k_3 g_6 ge_7 K_4 (A_5 : Arv Z h_1 b_2 k_3 .byte (2 : Int32) [] (.int (0 : Int32))) E_8
  have A_9 : Arv Z h_1 b_2 k_3 .byte (2 : Int32) [(.int (0 : Int32)), (.int (0 : Int32))] (.int (0 : Int32)) := A_5.pad (pad_rep [] (.int (0 : Int32)) 2)
  refine Runs.astoreN (ls' := #[.val (.ref u), .val (.int (0 : Int32)), .val (.int (2 : Int32)), .val (.ref b_2), .unset, .unset]) i50_3 rfl rfl ?_
  refine Runs.aloadN i50_4 rfl rfl ?_
  refine Runs.iloadN i50_5 rfl ?_
  refine Runs.aloadN i50_6 rfl rfl ?_
  refine Runs.iconst (v := (0 : Int32)) i50_7 (by decide) ?_
  refine Runs.iloadN i50_8 rfl ?_
  have A_10 := (U0.keep K_4 nin0)
  refine Runs.callSW (argsL := [(.ref u), (.int (0 : Int32)), (.ref b_2), (.int (0 : Int32)), (.int (2 : Int32))]) (rest := []) (W := 0) i50_9 (w290 hw) (w291 hw) (w288 hw) (w292 hw) (by decide) pd_2 rfl rfl rfl rfl (by decide) (by decide) (by decide) (by decide) (allS (List.mem_of_getElem? (i := 0) rfl) all0) (by decide) (own_cpI2 l Z a0 hw n0 c0 hc0 c1 hc1 u b_2 ku k_3 (Nat.ne_of_lt (Nat.lt_of_lt_of_le (Nat.lt_of_lt_of_le U0.lt (Nat.le_refl _)) g_6)) ge_7 _ A_10 A_9) ?_
  intro v h_13 D1 q hsz
  obtain ⟨rfl, K_11, A_12, rfl⟩ := q
  show Runs 2 l Z [("com/example/record_guard/recordguard/conflict/SerializationFailureException", 27), ("com/example/record_guard/recordguard/conflict/SerializationFailureException", 30), ("java/lang/String", 7)] n0 _ _ _ _ _ _ _ [b_2] h_13 1 2 12 #[.val (.ref u), .val (.int (0 : Int32)), .val (.int (2 : Int32)), .val (.ref b_2), .unset, .unset] [(.int (2 : Int32))]
  refine Runs.istore (ls' := #[.val (.ref u), .val (.int (0 : Int32)), .val (.int (2 : Int32)), .val (.ref b_2), .val (.int (2 : Int32)), .unset]) i50_12 rfl ?_
  refine Runs.iload i50_14 rfl ?_
  refine Runs.iloadN i50_16 rfl ?_
  refine Runs.icY (t := 57) i50_17 (by decide) (teq (by decide : (2 : Int32) = (2 : Int32))).1 ?_
  refine Runs.aloadN i50_57 rfl rfl ?_
  exact Runs.retA i50_58 rfl rfl rfl (by decide) (by decide) ⟨b_2, k_3, rfl, g_6, (((Keep.refl _ _).trans K_4 all0).trans K_11 (allS (Or.inr (Nat.le_trans (Nat.le_refl _) g_6)) all0)), A_12, rfl⟩
set_option maxRecDepth 65536 in
set_option maxHeartbeats 4000000 in
theorem own_cdl2_2 (l : Launch) (Z : State) (a0 : Array Value) (hw : Wds Z a0) (n0 : Nat) (t : Addr) (kt : ClassId) (vs : List Value) (d : Value) (h0 : Heap) (T0 : Arv Z h0 t kt .byte (2 : Int32) vs d) : Con 2 l Z [("com/example/record_guard/recordguard/conflict/SerializationFailureException", 27), ("com/example/record_guard/recordguard/conflict/SerializationFailureException", 30), ("java/lang/String", 7)] n0 (⟨"java/lang/StringUTF16", "coderFromArrayLen", "([BI)B"⟩ : MethodName) jdk_52_method_15_code 2 (some .byte) ({ frames := 0, cells := 0, slots := 0, locals := 0 } : Room) #[(.ref t), (.int (2 : Int32))] [] h0 (fun v h D' => v = some (.int (0 : Int32)) ∧ h0 = h ∧ D' = []) := by
  refine Con.of_runs (ls := #[.val (.ref t), .val (.int (2 : Int32))]) (by decide +kernel) (ef rfl rfl) ?_
  refine Runs.iloadN i52_0 rfl ?_
  refine Runs.aloadN i52_1 rfl rfl ?_
  refine Runs.arrlen i52_2 T0 ?_
  refine Runs.isub (z := (0 : Int32)) i52_3 (by decide) ?_
  refine Runs.bipush (v := (31 : Int32)) i52_4 (by decide) ?_
  refine Runs.iushr (z := (0 : Int32)) i52_6 (by decide) ?_
  refine Runs.i2b (z := (0 : Int32)) i52_7 (by decide) ?_
  exact Runs.retI (z := (0 : Int32)) i52_8 rfl (Or.inr (Or.inr (Or.inl rfl))) (by decide) (by decide) (by decide) ⟨rfl, rfl, rfl⟩
set_option maxRecDepth 65536 in
set_option maxHeartbeats 4000000 in
theorem own_si4_2 (l : Launch) (Z : State) (a0 : Array Value) (hw : Wds Z a0) (n0 : Nat) (c0 : Int32) (hc0 : ¬ c0 < 0 ∧ ¬ (255 : Int32) < c0) (c1 : Int32) (hc1 : ¬ c1 < 0 ∧ ¬ (255 : Int32) < c1) (a u : Addr) (ku : ClassId) (hua : u ≠ a) (cpt : Int32) (h0 : Heap) (ga : n0 ≤ a) (O0 : Obj Z h0 a "java/lang/String" [("java/lang/String", "value", "[B", .null), ("java/lang/String", "coder", "B", (.int (0 : Int32)))]) (U0 : Arv Z h0 u ku .char (2 : Int32) [(.int c0), (.int c1)] (.int 0)) (S_C : Sta Z Z.heap "java/lang/String" "COMPACT_STRINGS" "Z" (.int cpt)) (hcpt : ¬ cpt = 0) : Con 2 l Z [("com/example/record_guard/recordguard/conflict/SerializationFailureException", 27), ("com/example/record_guard/recordguard/conflict/SerializationFailureException", 30), ("java/lang/String", 7)] n0 (⟨"java/lang/String", "<init>", "([CIILjava/lang/Void;)V"⟩ : MethodName) jdk_42_method_149_code 6 none ({ frames := 2, cells := 1, slots := 2, locals := 36 } : Room) #[(.ref a), (.ref u), (.int (0 : Int32)), (.int (2 : Int32)), .null] [a] h0 (fun v h D' => v = none ∧ ∃ t k, h0.size ≤ t ∧ Keep h0 h [a] ∧ Obj Z h a "java/lang/String" [("java/lang/String", "value", "[B", (.ref t)), ("java/lang/String", "coder", "B", (.int (0 : Int32)))] ∧ Arv Z h t k .byte (2 : Int32) [(.int ((Int32.toInt8 c0).toInt32)), (.int ((Int32.toInt8 c1).toInt32))] (.int 0) ∧ D' = []) := by
  refine Con.of_runs (ls := #[.val (.ref a), .val (.ref u), .val (.int (0 : Int32)), .val (.int (2 : Int32)), .val .null, .unset]) (by decide +kernel) (ef rfl rfl) ?_
  refine Runs.aloadN i3_0 rfl rfl ?_
  refine Runs.initO (W := 0) i3_1 (w15 hw) (w16 hw) (w17 hw) rfl (by decide) rfl (by decide) ?_
  refine Runs.iloadN i3_4 rfl ?_
  refine Runs.ifY (t := 27) i3_5 (by decide) (feq (by decide : ¬ ((2 : Int32) = (0 : Int32)))).2 ?_
  refine Runs.getS i3_27 (w29 hw) Via.refl S_C ?_
  refine Runs.ifN i3_30 (feq hcpt).1 ?_
  refine Runs.aloadN i3_33 rfl rfl ?_
  refine Runs.iloadN i3_34 rfl ?_
  refine Runs.iloadN i3_35 rfl ?_
  refine Runs.callSW (argsL := [(.ref u), (.int (0 : Int32)), (.int (2 : Int32))]) (rest := []) (W := 0) i3_36 (w286 hw) (w287 hw) (w288 hw) (w289 hw) (by decide) pd_3 rfl rfl rfl rfl (by decide) (by decide) (by decide) (by decide) all0 (by decide) (own_cp2 l Z a0 hw n0 c0 hc0 c1 hc1 u ku _ U0) ?_
  intro v h_6 D1 q hsz
  obtain ⟨b_1, k_2, rfl, g_3, K_4, A_5, rfl⟩ := q
  show Runs 2 l Z [("com/example/record_guard/recordguard/conflict/SerializationFailureException", 27), ("com/example/record_guard/recordguard/conflict/SerializationFailureException", 30), ("java/lang/String", 7)] n0 _ _ _ _ _ _ _ [b_1, a] h_6 1 2 39 #[.val (.ref a), .val (.ref u), .val (.int (0 : Int32)), .val (.int (2 : Int32)), .val .null, .unset] [(.ref b_1)]
  refine Runs.astore (ls' := #[.val (.ref a), .val (.ref u), .val (.int (0 : Int32)), .val (.int (2 : Int32)), .val .null, .val (.ref b_1)]) i3_39 rfl rfl ?_
  refine Runs.aloadN i3_41 rfl rfl ?_
  refine Runs.aload i3_42 rfl rfl ?_
  refine Runs.iloadN i3_44 rfl ?_
  refine Runs.callSW (argsL := [(.ref b_1), (.int (2 : Int32))]) (rest := [(.ref a)]) (W := 1) i3_45 (w293 hw) (w294 hw) (w288 hw) (w295 hw) (by decide) pd_4 rfl rfl rfl rfl (by decide) (by decide) (by decide) (by decide) all0 (by decide) (own_cdl2_2 l Z a0 hw n0 b_1 _ _ _ _ A_5) ?_
  intro v h1 D1 q hsz
  obtain ⟨rfl, rfl, rfl⟩ := q
  show Runs 2 l Z [("com/example/record_guard/recordguard/conflict/SerializationFailureException", 27), ("com/example/record_guard/recordguard/conflict/SerializationFailureException", 30), ("java/lang/String", 7)] n0 _ _ _ _ _ _ _ [b_1, a] h_6 1 2 48 #[.val (.ref a), .val (.ref u), .val (.int (0 : Int32)), .val (.int (2 : Int32)), .val .null, .val (.ref b_1)] [(.int (0 : Int32)), (.ref a)]
  have O_7 := (O0.keep K_4 nin0)
  refine Runs.putF (i := 1) (ty := .byte) i3_48 (host := "") (Or.inl (w25 hw)) Via.refl O_7 rfl (lay_1 hw) rfl (Or.inr ⟨(w21 hw), rfl, rfl⟩) (w5 hw) (by decide) rfl rfl ga (Or.inl (List.mem_of_getElem? (i := 1) rfl)) ?_
  intro h_8 K_9 (O_10 : Obj Z h_8 a "java/lang/String" [("java/lang/String", "value", "[B", .null), ("java/lang/String", "coder", "B", (.int (0 : Int32)))])
  refine Runs.aloadN i3_51 rfl rfl ?_
  refine Runs.aload i3_52 rfl rfl ?_
  refine Runs.putF (i := 0) (ty := (.array .byte)) i3_54 (host := "") (Or.inl (w24 hw)) Via.refl O_10 rfl (lay_1 hw) rfl (Or.inr ⟨(w20 hw), rfl, rfl⟩) (w5 hw) (by decide) rfl rfl ga (Or.inl (List.mem_of_getElem? (i := 1) rfl)) ?_
  intro h_11 K_12 (O_13 : Obj Z h_11 a "java/lang/String" [("java/lang/String", "value", "[B", (.ref b_1)), ("java/lang/String", "coder", "B", (.int (0 : Int32)))])
  have A_14 := ((A_5.keep K_9 (ninS (Nat.ne_of_gt (Nat.lt_of_lt_of_le (Nat.lt_of_lt_of_le O0.lt (Nat.le_refl _)) g_3)) nin0)).keep K_12 (ninS (Nat.ne_of_gt (Nat.lt_of_lt_of_le (Nat.lt_of_lt_of_le O0.lt (Nat.le_refl _)) g_3)) nin0))
  refine Runs.weak (D1 := []) (fun _ q => nomatch q) ?_
  exact Runs.retV i3_57 rfl (by decide) (by decide) ⟨rfl, b_1, k_2, (Nat.le_trans (Nat.le_refl _) g_3), ((((Keep.refl _ _).trans K_4 all0).trans K_9 (allS (Or.inl (List.mem_of_getElem? (i := 0) rfl)) all0)).trans K_12 (allS (Or.inl (List.mem_of_getElem? (i := 0) rfl)) all0)), O_13, A_14, rfl⟩
set_option maxRecDepth 65536 in
set_option maxHeartbeats 4000000 in
theorem own_si_2 (l : Launch) (Z : State) (a0 : Array Value) (hw : Wds Z a0) (n0 : Nat) (c0 : Int32) (hc0 : ¬ c0 < 0 ∧ ¬ (255 : Int32) < c0) (c1 : Int32) (hc1 : ¬ c1 < 0 ∧ ¬ (255 : Int32) < c1) (a u : Addr) (ku : ClassId) (hua : u ≠ a) (cpt : Int32) (h0 : Heap) (ga : n0 ≤ a) (O0 : Obj Z h0 a "java/lang/String" [("java/lang/String", "value", "[B", .null), ("java/lang/String", "coder", "B", (.int (0 : Int32)))]) (U0 : Arv Z h0 u ku .char (2 : Int32) [(.int c0), (.int c1)] (.int 0)) (S_C : Sta Z Z.heap "java/lang/String" "COMPACT_STRINGS" "Z" (.int cpt)) (hcpt : ¬ cpt = 0) : Con 2 l Z [("com/example/record_guard/recordguard/conflict/SerializationFailureException", 27), ("com/example/record_guard/recordguard/conflict/SerializationFailureException", 30), ("java/lang/String", 7)] n0 (⟨"java/lang/String", "<init>", "([C)V"⟩ : MethodName) jdk_42_method_3_code 2 none ({ frames := 3, cells := 1, slots := 2, locals := 53 } : Room) #[(.ref a), (.ref u)] [a] h0 (fun v h D' => v = none ∧ ∃ t k, h0.size ≤ t ∧ Keep h0 h [a] ∧ Obj Z h a "java/lang/String" [("java/lang/String", "value", "[B", (.ref t)), ("java/lang/String", "coder", "B", (.int (0 : Int32)))] ∧ Arv Z h t k .byte (2 : Int32) [(.int ((Int32.toInt8 c0).toInt32)), (.int ((Int32.toInt8 c1).toInt32))] (.int 0) ∧ D' = []) := by
  refine Con.of_runs (ls := #[.val (.ref a), .val (.ref u)]) (by decide +kernel) (ef rfl rfl) ?_
  refine Runs.aloadN i2_0 rfl rfl ?_
  refine Runs.aloadN i2_1 rfl rfl ?_
  refine Runs.iconst (v := (0 : Int32)) i2_2 (by decide) ?_
  refine Runs.aloadN i2_3 rfl rfl ?_
  refine Runs.arrlen i2_4 U0 ?_
  refine Runs.aconstNull i2_5 ?_
  refine Runs.callCW (argsL := [(.ref u), (.int (0 : Int32)), (.int (2 : Int32)), .null]) (rest := []) (W := 0) i2_6 rfl (w11 hw) (w12 hw) (w14 hw) (w6 hw) (by decide) pd_1 rfl rfl rfl rfl (by decide) (by decide) (by decide) (by decide) (allS (List.mem_of_getElem? (i := 0) rfl) all0) (by decide) (own_si4_2 l Z a0 hw n0 c0 hc0 c1 hc1 a u ku hua cpt _ ga O0 U0 S_C hcpt) ?_
  intro v h_7 D1 q hsz
  obtain ⟨rfl, t_1, k_2, g_3, K_4, O_5, A_6, rfl⟩ := q
  show Runs 2 l Z [("com/example/record_guard/recordguard/conflict/SerializationFailureException", 27), ("com/example/record_guard/recordguard/conflict/SerializationFailureException", 30), ("java/lang/String", 7)] n0 _ _ _ _ _ _ _ [a] h_7 1 2 9 #[.val (.ref a), .val (.ref u)] []
  refine Runs.weak (D1 := []) (fun _ q => nomatch q) ?_
  exact Runs.retV i2_9 rfl (by decide) (by decide) ⟨rfl, t_1, k_2, g_3, K_4, O_5, A_6, rfl⟩
set_option maxRecDepth 65536 in
set_option maxHeartbeats 4000000 in
theorem own_cpI3 (l : Launch) (Z : State) (a0 : Array Value) (hw : Wds Z a0) (n0 : Nat) (c0 : Int32) (hc0 : ¬ c0 < 0 ∧ ¬ (255 : Int32) < c0) (c1 : Int32) (hc1 : ¬ c1 < 0 ∧ ¬ (255 : Int32) < c1) (c2 : Int32) (hc2 : ¬ c2 < 0 ∧ ¬ (255 : Int32) < c2) (u t : Addr) (ku kt : ClassId) (hut : u ≠ t) (gt : n0 ≤ t) (h0 : Heap) (U0 : Arv Z h0 u ku .char (3 : Int32) [(.int c0), (.int c1), (.int c2)] (.int 0)) (T0 : Arv Z h0 t kt .byte (3 : Int32) [(.int (0 : Int32)), (.int (0 : Int32)), (.int (0 : Int32))] (.int 0)) : Con 2 l Z [("com/example/record_guard/recordguard/conflict/SerializationFailureException", 27), ("com/example/record_guard/recordguard/conflict/SerializationFailureException", 30), ("java/lang/String", 7)] n0 (⟨"java/lang/StringUTF16", "compress", "([CI[BII)I"⟩ : MethodName) jdk_52_method_21_code 7 (some .int) ({ frames := 0, cells := 0, slots := 0, locals := 0 } : Room) #[(.ref u), (.int (0 : Int32)), (.ref t), (.int (0 : Int32)), (.int (3 : Int32))] [t] h0 (fun v h D' => v = some (.int (3 : Int32)) ∧ Keep h0 h [t] ∧ Arv Z h t kt .byte (3 : Int32) [(.int ((Int32.toInt8 c0).toInt32)), (.int ((Int32.toInt8 c1).toInt32)), (.int ((Int32.toInt8 c2).toInt32))] (.int 0) ∧ D' = []) := by
  refine Con.of_runs (ls := #[.val (.ref u), .val (.int (0 : Int32)), .val (.ref t), .val (.int (0 : Int32)), .val (.int (3 : Int32)), .unset, .unset]) (by decide +kernel) (ef rfl rfl) ?_
  refine Runs.iconst (v := (0 : Int32)) i51_0 (by decide) ?_
  refine Runs.istore (ls' := #[.val (.ref u), .val (.int (0 : Int32)), .val (.ref t), .val (.int (0 : Int32)), .val (.int (3 : Int32)), .val (.int (0 : Int32)), .unset]) i51_1 rfl ?_
  refine Runs.iload i51_3 rfl ?_
  refine Runs.iload i51_5 rfl ?_
  refine Runs.icN i51_7 (tlt (by decide : (0 : Int32) < (3 : Int32))).2.1 ?_
  refine Runs.aloadN i51_10 rfl rfl ?_
  refine Runs.iloadN i51_11 rfl ?_
  refine Runs.caload (v := (.int c0)) i51_12 U0 ⟨by decide, by decide⟩ rfl ?_
  refine Runs.istore (ls' := #[.val (.ref u), .val (.int (0 : Int32)), .val (.ref t), .val (.int (0 : Int32)), .val (.int (3 : Int32)), .val (.int (0 : Int32)), .val (.int c0)]) i51_13 rfl ?_
  refine Runs.iload i51_15 rfl ?_
  refine Runs.sipush (v := (255 : Int32)) i51_17 (by decide) ?_
  refine Runs.icY (t := 26) i51_20 (by decide) (flt hc0.2).2.2.2 ?_
  refine Runs.aloadN i51_26 rfl rfl ?_
  refine Runs.iloadN i51_27 rfl ?_
  refine Runs.iload i51_28 rfl ?_
  obtain ⟨x_1, hx_1⟩ : ∃ z : Int32, (Int32.toInt8 c0).toInt32 = z := ⟨_, rfl⟩
  refine Runs.i2b i51_30 hx_1 ?_
  refine Runs.bastore (i := 0) (y := ((Int32.toInt8 c0).toInt32)) i51_31 T0 ⟨by decide, by decide⟩ (by decide) (Nat.le_of_ble_eq_true rfl) (by rw [← hx_1]; exact own_bb _) gt (Or.inl (List.mem_of_getElem? (i := 0) rfl)) ?_
  intro h_2 K_3 (A_4 : Arv Z h_2 t kt .byte (3 : Int32) [(.int ((Int32.toInt8 c0).toInt32)), (.int (0 : Int32)), (.int (0 : Int32))] (.int 0))
  refine Runs.iinc (z := (1 : Int32)) (ls' := #[.val (.ref u), .val (.int (1 : Int32)), .val (.ref t), .val (.int (0 : Int32)), .val (.int (3 : Int32)), .val (.int (0 : Int32)), .val (.int c0)]) i51_32 rfl (by decide) rfl ?_
  refine Runs.iinc (z := (1 : Int32)) (ls' := #[.val (.ref u), .val (.int (1 : Int32)), .val (.ref t), .val (.int (1 : Int32)), .val (.int (3 : Int32)), .val (.int (0 : Int32)), .val (.int c0)]) i51_35 rfl (by decide) rfl ?_
  refine Runs.iinc (z := (1 : Int32)) (ls' := #[.val (.ref u), .val (.int (1 : Int32)), .val (.ref t), .val (.int (1 : Int32)), .val (.int (3 : Int32)), .val (.int (1 : Int32)), .val (.int c0)]) i51_38 rfl (by decide) rfl ?_
  refine Runs.goto (t := 3) i51_41 (by decide) ?_
  refine Runs.iload i51_3 rfl ?_
  refine Runs.iload i51_5 rfl ?_
  refine Runs.icN i51_7 (tlt (by decide : (1 : Int32) < (3 : Int32))).2.1 ?_
  refine Runs.aloadN i51_10 rfl rfl ?_
  refine Runs.iloadN i51_11 rfl ?_
  have A_5 := (U0.keep K_3 (ninS hut nin0))
  refine Runs.caload (v := (.int c1)) i51_12 A_5 ⟨by decide, by decide⟩ rfl ?_
  refine Runs.istore (ls' := #[.val (.ref u), .val (.int (1 : Int32)), .val (.ref t), .val (.int (1 : Int32)), .val (.int (3 : Int32)), .val (.int (1 : Int32)), .val (.int c1)]) i51_13 rfl ?_
  refine Runs.iload i51_15 rfl ?_
  refine Runs.sipush (v := (255 : Int32)) i51_17 (by decide) ?_
  refine Runs.icY (t := 26) i51_20 (by decide) (flt hc1.2).2.2.2 ?_
  refine Runs.aloadN i51_26 rfl rfl ?_
  refine Runs.iloadN i51_27 rfl ?_
  refine Runs.iload i51_28 rfl ?_
  obtain ⟨x_6, hx_6⟩ : ∃ z : Int32, (Int32.toInt8 c1).toInt32 = z := ⟨_, rfl⟩
  refine Runs.i2b i51_30 hx_6 ?_
  refine Runs.bastore (i := 1) (y := ((Int32.toInt8 c1).toInt32)) i51_31 A_4 ⟨by decide, by decide⟩ (by decide) (Nat.le_of_ble_eq_true rfl) (by rw [← hx_6]; exact own_bb _) gt (Or.inl (List.mem_of_getElem? (i := 0) rfl)) ?_
  intro h_7 K_8 (A_9 : Arv Z h_7 t kt .byte (3 : Int32) [(.int ((Int32.toInt8 c0).toInt32)), (.int ((Int32.toInt8 c1).toInt32)), (.int (0 : Int32))] (.int 0))
  refine Runs.iinc (z := (2 : Int32)) (ls' := #[.val (.ref u), .val (.int (2 : Int32)), .val (.ref t), .val (.int (1 : Int32)), .val (.int (3 : Int32)), .val (.int (1 : Int32)), .val (.int c1)]) i51_32 rfl (by decide) rfl ?_
  refine Runs.iinc (z := (2 : Int32)) (ls' := #[.val (.ref u), .val (.int (2 : Int32)), .val (.ref t), .val (.int (2 : Int32)), .val (.int (3 : Int32)), .val (.int (1 : Int32)), .val (.int c1)]) i51_35 rfl (by decide) rfl ?_
  refine Runs.iinc (z := (2 : Int32)) (ls' := #[.val (.ref u), .val (.int (2 : Int32)), .val (.ref t), .val (.int (2 : Int32)), .val (.int (3 : Int32)), .val (.int (2 : Int32)), .val (.int c1)]) i51_38 rfl (by decide) rfl ?_
  refine Runs.goto (t := 3) i51_41 (by decide) ?_
  refine Runs.iload i51_3 rfl ?_
  refine Runs.iload i51_5 rfl ?_
  refine Runs.icN i51_7 (tlt (by decide : (2 : Int32) < (3 : Int32))).2.1 ?_
  refine Runs.aloadN i51_10 rfl rfl ?_
  refine Runs.iloadN i51_11 rfl ?_
  have A_10 := (A_5.keep K_8 (ninS hut nin0))
  refine Runs.caload (v := (.int c2)) i51_12 A_10 ⟨by decide, by decide⟩ rfl ?_
  refine Runs.istore (ls' := #[.val (.ref u), .val (.int (2 : Int32)), .val (.ref t), .val (.int (2 : Int32)), .val (.int (3 : Int32)), .val (.int (2 : Int32)), .val (.int c2)]) i51_13 rfl ?_
  refine Runs.iload i51_15 rfl ?_
  refine Runs.sipush (v := (255 : Int32)) i51_17 (by decide) ?_
  refine Runs.icY (t := 26) i51_20 (by decide) (flt hc2.2).2.2.2 ?_
  refine Runs.aloadN i51_26 rfl rfl ?_
  refine Runs.iloadN i51_27 rfl ?_
  refine Runs.iload i51_28 rfl ?_
  obtain ⟨x_11, hx_11⟩ : ∃ z : Int32, (Int32.toInt8 c2).toInt32 = z := ⟨_, rfl⟩
  refine Runs.i2b i51_30 hx_11 ?_
  refine Runs.bastore (i := 2) (y := ((Int32.toInt8 c2).toInt32)) i51_31 A_9 ⟨by decide, by decide⟩ (by decide) (Nat.le_of_ble_eq_true rfl) (by rw [← hx_11]; exact own_bb _) gt (Or.inl (List.mem_of_getElem? (i := 0) rfl)) ?_
  intro h_12 K_13 (A_14 : Arv Z h_12 t kt .byte (3 : Int32) [(.int ((Int32.toInt8 c0).toInt32)), (.int ((Int32.toInt8 c1).toInt32)), (.int ((Int32.toInt8 c2).toInt32))] (.int 0))
  refine Runs.iinc (z := (3 : Int32)) (ls' := #[.val (.ref u), .val (.int (3 : Int32)), .val (.ref t), .val (.int (2 : Int32)), .val (.int (3 : Int32)), .val (.int (2 : Int32)), .val (.int c2)]) i51_32 rfl (by decide) rfl ?_
  refine Runs.iinc (z := (3 : Int32)) (ls' := #[.val (.ref u), .val (.int (3 : Int32)), .val (.ref t), .val (.int (3 : Int32)), .val (.int (3 : Int32)), .val (.int (2 : Int32)), .val (.int c2)]) i51_35 rfl (by decide) rfl ?_
  refine Runs.iinc (z := (3 : Int32)) (ls' := #[.val (.ref u), .val (.int (3 : Int32)), .val (.ref t), .val (.int (3 : Int32)), .val (.int (3 : Int32)), .val (.int (3 : Int32)), .val (.int c2)]) i51_38 rfl (by decide) rfl ?_
  refine Runs.goto (t := 3) i51_41 (by decide) ?_
  refine Runs.iload i51_3 rfl ?_
  refine Runs.iload i51_5 rfl ?_
  refine Runs.icY (t := 44) i51_7 (by decide) (flt (by decide : ¬ ((3 : Int32) < (3 : Int32)))).2.1 ?_
  refine Runs.iload i51_44 rfl ?_
  refine Runs.weak (D1 := []) (fun _ q => nomatch q) ?_
  exact Runs.retI (z := (3 : Int32)) i51_46 rfl (Or.inl rfl) rfl (by decide) (by decide) ⟨rfl, ((((Keep.refl _ _).trans K_3 (allS (Or.inl (List.mem_of_getElem? (i := 0) rfl)) all0)).trans K_8 (allS (Or.inl (List.mem_of_getElem? (i := 0) rfl)) all0)).trans K_13 (allS (Or.inl (List.mem_of_getElem? (i := 0) rfl)) all0)), A_14, rfl⟩
set_option maxRecDepth 65536 in
set_option maxHeartbeats 4000000 in
theorem own_cp3 (l : Launch) (Z : State) (a0 : Array Value) (hw : Wds Z a0) (n0 : Nat) (c0 : Int32) (hc0 : ¬ c0 < 0 ∧ ¬ (255 : Int32) < c0) (c1 : Int32) (hc1 : ¬ c1 < 0 ∧ ¬ (255 : Int32) < c1) (c2 : Int32) (hc2 : ¬ c2 < 0 ∧ ¬ (255 : Int32) < c2) (u : Addr) (ku : ClassId) (h0 : Heap) (U0 : Arv Z h0 u ku .char (3 : Int32) [(.int c0), (.int c1), (.int c2)] (.int 0)) : Con 2 l Z [("com/example/record_guard/recordguard/conflict/SerializationFailureException", 27), ("com/example/record_guard/recordguard/conflict/SerializationFailureException", 30), ("java/lang/String", 7)] n0 (⟨"java/lang/StringUTF16", "compress", "([CII)[B"⟩ : MethodName) jdk_52_method_16_code 6 (some (.array .byte)) ({ frames := 1, cells := 1, slots := 3, locals := 18 } : Room) #[(.ref u), (.int (0 : Int32)), (.int (3 : Int32))] [] h0 (fun v h D' => ∃ b k, v = some (.ref b) ∧ h0.size ≤ b ∧ Keep h0 h [] ∧ Arv Z h b k .byte (3 : Int32) [(.int ((Int32.toInt8 c0).toInt32)), (.int ((Int32.toInt8 c1).toInt32)), (.int ((Int32.toInt8 c2).toInt32))] (.int 0) ∧ D' = [b]) := by
  refine Con.of_runs (ls := #[.val (.ref u), .val (.int (0 : Int32)), .val (.int (3 : Int32)), .unset, .unset, .unset]) (by decide +kernel) (ef rfl rfl) ?_
  refine Runs.iloadN i50_0 rfl ?_
  refine Runs.newP (cap := 3) (ad := "[B") i50_1 (w19 hw) (by decide) (by decide) (by decide) (by decide) (by decide) rfl ?_
  intro h_1 b_2 k_3 g_6 ge_7 K_4 (A_5 : Arv Z h_1 b_2 k_3 .byte (3 : Int32) [] (.int (0 : Int32))) E_8
  have A_9 : Arv Z h_1 b_2 k_3 .byte (3 : Int32) [(.int (0 : Int32)), (.int (0 : Int32)), (.int (0 : Int32))] (.int (0 : Int32)) := A_5.pad (pad_rep [] (.int (0 : Int32)) 3)
  refine Runs.astoreN (ls' := #[.val (.ref u), .val (.int (0 : Int32)), .val (.int (3 : Int32)), .val (.ref b_2), .unset, .unset]) i50_3 rfl rfl ?_
  refine Runs.aloadN i50_4 rfl rfl ?_
  refine Runs.iloadN i50_5 rfl ?_
  refine Runs.aloadN i50_6 rfl rfl ?_
  refine Runs.iconst (v := (0 : Int32)) i50_7 (by decide) ?_
  refine Runs.iloadN i50_8 rfl ?_
  have A_10 := (U0.keep K_4 nin0)
  refine Runs.callSW (argsL := [(.ref u), (.int (0 : Int32)), (.ref b_2), (.int (0 : Int32)), (.int (3 : Int32))]) (rest := []) (W := 0) i50_9 (w290 hw) (w291 hw) (w288 hw) (w292 hw) (by decide) pd_2 rfl rfl rfl rfl (by decide) (by decide) (by decide) (by decide) (allS (List.mem_of_getElem? (i := 0) rfl) all0) (by decide) (own_cpI3 l Z a0 hw n0 c0 hc0 c1 hc1 c2 hc2 u b_2 ku k_3 (Nat.ne_of_lt (Nat.lt_of_lt_of_le (Nat.lt_of_lt_of_le U0.lt (Nat.le_refl _)) g_6)) ge_7 _ A_10 A_9) ?_
  intro v h_13 D1 q hsz
  obtain ⟨rfl, K_11, A_12, rfl⟩ := q
  show Runs 2 l Z [("com/example/record_guard/recordguard/conflict/SerializationFailureException", 27), ("com/example/record_guard/recordguard/conflict/SerializationFailureException", 30), ("java/lang/String", 7)] n0 _ _ _ _ _ _ _ [b_2] h_13 1 3 12 #[.val (.ref u), .val (.int (0 : Int32)), .val (.int (3 : Int32)), .val (.ref b_2), .unset, .unset] [(.int (3 : Int32))]
  refine Runs.istore (ls' := #[.val (.ref u), .val (.int (0 : Int32)), .val (.int (3 : Int32)), .val (.ref b_2), .val (.int (3 : Int32)), .unset]) i50_12 rfl ?_
  refine Runs.iload i50_14 rfl ?_
  refine Runs.iloadN i50_16 rfl ?_
  refine Runs.icY (t := 57) i50_17 (by decide) (teq (by decide : (3 : Int32) = (3 : Int32))).1 ?_
  refine Runs.aloadN i50_57 rfl rfl ?_
  exact Runs.retA i50_58 rfl rfl rfl (by decide) (by decide) ⟨b_2, k_3, rfl, g_6, (((Keep.refl _ _).trans K_4 all0).trans K_11 (allS (Or.inr (Nat.le_trans (Nat.le_refl _) g_6)) all0)), A_12, rfl⟩
set_option maxRecDepth 65536 in
set_option maxHeartbeats 4000000 in
theorem own_cdl3_3 (l : Launch) (Z : State) (a0 : Array Value) (hw : Wds Z a0) (n0 : Nat) (t : Addr) (kt : ClassId) (vs : List Value) (d : Value) (h0 : Heap) (T0 : Arv Z h0 t kt .byte (3 : Int32) vs d) : Con 2 l Z [("com/example/record_guard/recordguard/conflict/SerializationFailureException", 27), ("com/example/record_guard/recordguard/conflict/SerializationFailureException", 30), ("java/lang/String", 7)] n0 (⟨"java/lang/StringUTF16", "coderFromArrayLen", "([BI)B"⟩ : MethodName) jdk_52_method_15_code 2 (some .byte) ({ frames := 0, cells := 0, slots := 0, locals := 0 } : Room) #[(.ref t), (.int (3 : Int32))] [] h0 (fun v h D' => v = some (.int (0 : Int32)) ∧ h0 = h ∧ D' = []) := by
  refine Con.of_runs (ls := #[.val (.ref t), .val (.int (3 : Int32))]) (by decide +kernel) (ef rfl rfl) ?_
  refine Runs.iloadN i52_0 rfl ?_
  refine Runs.aloadN i52_1 rfl rfl ?_
  refine Runs.arrlen i52_2 T0 ?_
  refine Runs.isub (z := (0 : Int32)) i52_3 (by decide) ?_
  refine Runs.bipush (v := (31 : Int32)) i52_4 (by decide) ?_
  refine Runs.iushr (z := (0 : Int32)) i52_6 (by decide) ?_
  refine Runs.i2b (z := (0 : Int32)) i52_7 (by decide) ?_
  exact Runs.retI (z := (0 : Int32)) i52_8 rfl (Or.inr (Or.inr (Or.inl rfl))) (by decide) (by decide) (by decide) ⟨rfl, rfl, rfl⟩
set_option maxRecDepth 65536 in
set_option maxHeartbeats 4000000 in
theorem own_si4_3 (l : Launch) (Z : State) (a0 : Array Value) (hw : Wds Z a0) (n0 : Nat) (c0 : Int32) (hc0 : ¬ c0 < 0 ∧ ¬ (255 : Int32) < c0) (c1 : Int32) (hc1 : ¬ c1 < 0 ∧ ¬ (255 : Int32) < c1) (c2 : Int32) (hc2 : ¬ c2 < 0 ∧ ¬ (255 : Int32) < c2) (a u : Addr) (ku : ClassId) (hua : u ≠ a) (cpt : Int32) (h0 : Heap) (ga : n0 ≤ a) (O0 : Obj Z h0 a "java/lang/String" [("java/lang/String", "value", "[B", .null), ("java/lang/String", "coder", "B", (.int (0 : Int32)))]) (U0 : Arv Z h0 u ku .char (3 : Int32) [(.int c0), (.int c1), (.int c2)] (.int 0)) (S_C : Sta Z Z.heap "java/lang/String" "COMPACT_STRINGS" "Z" (.int cpt)) (hcpt : ¬ cpt = 0) : Con 2 l Z [("com/example/record_guard/recordguard/conflict/SerializationFailureException", 27), ("com/example/record_guard/recordguard/conflict/SerializationFailureException", 30), ("java/lang/String", 7)] n0 (⟨"java/lang/String", "<init>", "([CIILjava/lang/Void;)V"⟩ : MethodName) jdk_42_method_149_code 6 none ({ frames := 2, cells := 1, slots := 3, locals := 36 } : Room) #[(.ref a), (.ref u), (.int (0 : Int32)), (.int (3 : Int32)), .null] [a] h0 (fun v h D' => v = none ∧ ∃ t k, h0.size ≤ t ∧ Keep h0 h [a] ∧ Obj Z h a "java/lang/String" [("java/lang/String", "value", "[B", (.ref t)), ("java/lang/String", "coder", "B", (.int (0 : Int32)))] ∧ Arv Z h t k .byte (3 : Int32) [(.int ((Int32.toInt8 c0).toInt32)), (.int ((Int32.toInt8 c1).toInt32)), (.int ((Int32.toInt8 c2).toInt32))] (.int 0) ∧ D' = []) := by
  refine Con.of_runs (ls := #[.val (.ref a), .val (.ref u), .val (.int (0 : Int32)), .val (.int (3 : Int32)), .val .null, .unset]) (by decide +kernel) (ef rfl rfl) ?_
  refine Runs.aloadN i3_0 rfl rfl ?_
  refine Runs.initO (W := 0) i3_1 (w15 hw) (w16 hw) (w17 hw) rfl (by decide) rfl (by decide) ?_
  refine Runs.iloadN i3_4 rfl ?_
  refine Runs.ifY (t := 27) i3_5 (by decide) (feq (by decide : ¬ ((3 : Int32) = (0 : Int32)))).2 ?_
  refine Runs.getS i3_27 (w29 hw) Via.refl S_C ?_
  refine Runs.ifN i3_30 (feq hcpt).1 ?_
  refine Runs.aloadN i3_33 rfl rfl ?_
  refine Runs.iloadN i3_34 rfl ?_
  refine Runs.iloadN i3_35 rfl ?_
  refine Runs.callSW (argsL := [(.ref u), (.int (0 : Int32)), (.int (3 : Int32))]) (rest := []) (W := 0) i3_36 (w286 hw) (w287 hw) (w288 hw) (w289 hw) (by decide) pd_3 rfl rfl rfl rfl (by decide) (by decide) (by decide) (by decide) all0 (by decide) (own_cp3 l Z a0 hw n0 c0 hc0 c1 hc1 c2 hc2 u ku _ U0) ?_
  intro v h_6 D1 q hsz
  obtain ⟨b_1, k_2, rfl, g_3, K_4, A_5, rfl⟩ := q
  show Runs 2 l Z [("com/example/record_guard/recordguard/conflict/SerializationFailureException", 27), ("com/example/record_guard/recordguard/conflict/SerializationFailureException", 30), ("java/lang/String", 7)] n0 _ _ _ _ _ _ _ [b_1, a] h_6 1 3 39 #[.val (.ref a), .val (.ref u), .val (.int (0 : Int32)), .val (.int (3 : Int32)), .val .null, .unset] [(.ref b_1)]
  refine Runs.astore (ls' := #[.val (.ref a), .val (.ref u), .val (.int (0 : Int32)), .val (.int (3 : Int32)), .val .null, .val (.ref b_1)]) i3_39 rfl rfl ?_
  refine Runs.aloadN i3_41 rfl rfl ?_
  refine Runs.aload i3_42 rfl rfl ?_
  refine Runs.iloadN i3_44 rfl ?_
  refine Runs.callSW (argsL := [(.ref b_1), (.int (3 : Int32))]) (rest := [(.ref a)]) (W := 1) i3_45 (w293 hw) (w294 hw) (w288 hw) (w295 hw) (by decide) pd_4 rfl rfl rfl rfl (by decide) (by decide) (by decide) (by decide) all0 (by decide) (own_cdl3_3 l Z a0 hw n0 b_1 _ _ _ _ A_5) ?_
  intro v h1 D1 q hsz
  obtain ⟨rfl, rfl, rfl⟩ := q
  show Runs 2 l Z [("com/example/record_guard/recordguard/conflict/SerializationFailureException", 27), ("com/example/record_guard/recordguard/conflict/SerializationFailureException", 30), ("java/lang/String", 7)] n0 _ _ _ _ _ _ _ [b_1, a] h_6 1 3 48 #[.val (.ref a), .val (.ref u), .val (.int (0 : Int32)), .val (.int (3 : Int32)), .val .null, .val (.ref b_1)] [(.int (0 : Int32)), (.ref a)]
  have O_7 := (O0.keep K_4 nin0)
  refine Runs.putF (i := 1) (ty := .byte) i3_48 (host := "") (Or.inl (w25 hw)) Via.refl O_7 rfl (lay_1 hw) rfl (Or.inr ⟨(w21 hw), rfl, rfl⟩) (w5 hw) (by decide) rfl rfl ga (Or.inl (List.mem_of_getElem? (i := 1) rfl)) ?_
  intro h_8 K_9 (O_10 : Obj Z h_8 a "java/lang/String" [("java/lang/String", "value", "[B", .null), ("java/lang/String", "coder", "B", (.int (0 : Int32)))])
  refine Runs.aloadN i3_51 rfl rfl ?_
  refine Runs.aload i3_52 rfl rfl ?_
  refine Runs.putF (i := 0) (ty := (.array .byte)) i3_54 (host := "") (Or.inl (w24 hw)) Via.refl O_10 rfl (lay_1 hw) rfl (Or.inr ⟨(w20 hw), rfl, rfl⟩) (w5 hw) (by decide) rfl rfl ga (Or.inl (List.mem_of_getElem? (i := 1) rfl)) ?_
  intro h_11 K_12 (O_13 : Obj Z h_11 a "java/lang/String" [("java/lang/String", "value", "[B", (.ref b_1)), ("java/lang/String", "coder", "B", (.int (0 : Int32)))])
  have A_14 := ((A_5.keep K_9 (ninS (Nat.ne_of_gt (Nat.lt_of_lt_of_le (Nat.lt_of_lt_of_le O0.lt (Nat.le_refl _)) g_3)) nin0)).keep K_12 (ninS (Nat.ne_of_gt (Nat.lt_of_lt_of_le (Nat.lt_of_lt_of_le O0.lt (Nat.le_refl _)) g_3)) nin0))
  refine Runs.weak (D1 := []) (fun _ q => nomatch q) ?_
  exact Runs.retV i3_57 rfl (by decide) (by decide) ⟨rfl, b_1, k_2, (Nat.le_trans (Nat.le_refl _) g_3), ((((Keep.refl _ _).trans K_4 all0).trans K_9 (allS (Or.inl (List.mem_of_getElem? (i := 0) rfl)) all0)).trans K_12 (allS (Or.inl (List.mem_of_getElem? (i := 0) rfl)) all0)), O_13, A_14, rfl⟩
set_option maxRecDepth 65536 in
set_option maxHeartbeats 4000000 in
theorem own_si_3 (l : Launch) (Z : State) (a0 : Array Value) (hw : Wds Z a0) (n0 : Nat) (c0 : Int32) (hc0 : ¬ c0 < 0 ∧ ¬ (255 : Int32) < c0) (c1 : Int32) (hc1 : ¬ c1 < 0 ∧ ¬ (255 : Int32) < c1) (c2 : Int32) (hc2 : ¬ c2 < 0 ∧ ¬ (255 : Int32) < c2) (a u : Addr) (ku : ClassId) (hua : u ≠ a) (cpt : Int32) (h0 : Heap) (ga : n0 ≤ a) (O0 : Obj Z h0 a "java/lang/String" [("java/lang/String", "value", "[B", .null), ("java/lang/String", "coder", "B", (.int (0 : Int32)))]) (U0 : Arv Z h0 u ku .char (3 : Int32) [(.int c0), (.int c1), (.int c2)] (.int 0)) (S_C : Sta Z Z.heap "java/lang/String" "COMPACT_STRINGS" "Z" (.int cpt)) (hcpt : ¬ cpt = 0) : Con 2 l Z [("com/example/record_guard/recordguard/conflict/SerializationFailureException", 27), ("com/example/record_guard/recordguard/conflict/SerializationFailureException", 30), ("java/lang/String", 7)] n0 (⟨"java/lang/String", "<init>", "([C)V"⟩ : MethodName) jdk_42_method_3_code 2 none ({ frames := 3, cells := 1, slots := 3, locals := 53 } : Room) #[(.ref a), (.ref u)] [a] h0 (fun v h D' => v = none ∧ ∃ t k, h0.size ≤ t ∧ Keep h0 h [a] ∧ Obj Z h a "java/lang/String" [("java/lang/String", "value", "[B", (.ref t)), ("java/lang/String", "coder", "B", (.int (0 : Int32)))] ∧ Arv Z h t k .byte (3 : Int32) [(.int ((Int32.toInt8 c0).toInt32)), (.int ((Int32.toInt8 c1).toInt32)), (.int ((Int32.toInt8 c2).toInt32))] (.int 0) ∧ D' = []) := by
  refine Con.of_runs (ls := #[.val (.ref a), .val (.ref u)]) (by decide +kernel) (ef rfl rfl) ?_
  refine Runs.aloadN i2_0 rfl rfl ?_
  refine Runs.aloadN i2_1 rfl rfl ?_
  refine Runs.iconst (v := (0 : Int32)) i2_2 (by decide) ?_
  refine Runs.aloadN i2_3 rfl rfl ?_
  refine Runs.arrlen i2_4 U0 ?_
  refine Runs.aconstNull i2_5 ?_
  refine Runs.callCW (argsL := [(.ref u), (.int (0 : Int32)), (.int (3 : Int32)), .null]) (rest := []) (W := 0) i2_6 rfl (w11 hw) (w12 hw) (w14 hw) (w6 hw) (by decide) pd_1 rfl rfl rfl rfl (by decide) (by decide) (by decide) (by decide) (allS (List.mem_of_getElem? (i := 0) rfl) all0) (by decide) (own_si4_3 l Z a0 hw n0 c0 hc0 c1 hc1 c2 hc2 a u ku hua cpt _ ga O0 U0 S_C hcpt) ?_
  intro v h_7 D1 q hsz
  obtain ⟨rfl, t_1, k_2, g_3, K_4, O_5, A_6, rfl⟩ := q
  show Runs 2 l Z [("com/example/record_guard/recordguard/conflict/SerializationFailureException", 27), ("com/example/record_guard/recordguard/conflict/SerializationFailureException", 30), ("java/lang/String", 7)] n0 _ _ _ _ _ _ _ [a] h_7 1 3 9 #[.val (.ref a), .val (.ref u)] []
  refine Runs.weak (D1 := []) (fun _ q => nomatch q) ?_
  exact Runs.retV i2_9 rfl (by decide) (by decide) ⟨rfl, t_1, k_2, g_3, K_4, O_5, A_6, rfl⟩
theorem own_lat1 {x : Int32} (h : ¬ x < 0 ∧ ¬ (255 : Int32) < x) : Lat [x] := fun c hc => by cases List.mem_singleton.mp hc; exact h
theorem own_latc {x : Int32} {xs : List Int32} (h : ¬ x < 0 ∧ ¬ (255 : Int32) < x) (k : Lat xs) : Lat (x :: xs) := fun c hc => by
  rcases List.mem_cons.mp hc with rfl | hc
  · exact h
  · exact k c hc
set_option maxRecDepth 65536 in
set_option maxHeartbeats 4000000 in
theorem own_mk0 (l : Launch) (Z : State) (a0 : Array Value) (hw : Wds Z a0) (n0 : Nat) (x y z : Int32) (hx : ¬ x < 0 ∧ ¬ (255 : Int32) < x) (hy : ¬ y < 0 ∧ ¬ (255 : Int32) < y) (hz : ¬ z < 0 ∧ ¬ (255 : Int32) < z) (h0 : Heap) (cpt : Int32) (S_C : Sta Z Z.heap "java/lang/String" "COMPACT_STRINGS" "Z" (.int cpt)) (hcpt : ¬ cpt = 0) : Con 2 l Z [("com/example/record_guard/recordguard/conflict/SerializationFailureException", 27), ("com/example/record_guard/recordguard/conflict/SerializationFailureException", 30), ("java/lang/String", 7)] n0 (⟨"com/example/record_guard/recordguard/conflict/SerializationFailureExceptionNotInCallersSnapshotPinLaw", "mk", "(ICCC)Ljava/lang/String;"⟩ : MethodName) method_2_code 4 (some (.object "java/lang/String")) ({ frames := 4, cells := 6, slots := 12, locals := 68 } : Room) #[(.int (0 : Int32)), (.int x), (.int y), (.int z)] [] h0 (fun v h D' => ∃ b t k, v = some (.ref b) ∧ h0.size ≤ b ∧ Keep h0 h [] ∧ Str Z h b t k [] ∧ D' = []) := by
  refine Con.of_runs (ls := #[.val (.int (0 : Int32)), .val (.int x), .val (.int y), .val (.int z)]) (by decide +kernel) (ef rfl rfl) ?_
  refine Runs.iloadN i1_0 rfl ?_
  refine Runs.ifN i1_1 (teq (by decide : (0 : Int32) = (0 : Int32))).2 ?_
  refine Runs.newO i1_4 (w4 hw) (w5 hw) (w6 hw) (lay_1 hw) (by decide) (by decide) ?_
  intro h_1 b_2 g_5 ge_6 K_3 (O_4 : Obj Z h_1 b_2 "java/lang/String" [("java/lang/String", "value", "[B", .null), ("java/lang/String", "coder", "B", (.int (0 : Int32)))]) U_7
  refine Runs.dup i1_7 rfl ?_
  refine Runs.iconst (v := (0 : Int32)) i1_8 (by decide) ?_
  refine Runs.newP (cap := 0) (ad := "[C") i1_9 (w7 hw) (by decide) (by decide) (by decide) (by decide) (by decide) rfl ?_
  intro h_8 b_9 k_10 g_13 ge_14 K_11 (A_12 : Arv Z h_8 b_9 k_10 .char (0 : Int32) [] (.int (0 : Int32))) E_15
  have O_16 := (O_4.keep K_11 nin0)
  refine Runs.callCW (argsL := [(.ref b_9)]) (rest := [(.ref b_2)]) (W := 1) i1_11 rfl (w8 hw) (w9 hw) (w10 hw) (w6 hw) (by decide) pd_5 rfl rfl rfl rfl (by decide) (by decide) (by decide) (by decide) (allS (List.mem_of_getElem? (i := 1) rfl) all0) (by decide) (own_si_0 l Z a0 hw n0 b_2 b_9 k_10 _ ge_6 O_16 A_12) ?_
  intro v h_23 D1 q hsz
  obtain ⟨rfl, t_17, k_18, K_20, O_21, A_22, rfl⟩ := q
  show Runs 2 l Z [("com/example/record_guard/recordguard/conflict/SerializationFailureException", 27), ("com/example/record_guard/recordguard/conflict/SerializationFailureException", 30), ("java/lang/String", 7)] n0 _ _ _ _ _ _ _ [b_9, b_2] h_23 6 12 14 #[.val (.int (0 : Int32)), .val (.int x), .val (.int y), .val (.int z)] [(.ref b_2)]
  refine Runs.weak (D1 := []) (fun _ q => nomatch q) ?_
  exact Runs.retA i1_14 rfl rfl rfl (by decide) (by decide) ⟨b_2, t_17, k_18, rfl, g_5, ((((Keep.refl _ _).trans K_3 all0).trans K_11 all0).trans K_20 (allS (Or.inr (Nat.le_trans (Nat.le_refl _) g_5)) all0)), ⟨O_21, A_22, own_lat0, by simp⟩, rfl⟩
set_option maxRecDepth 65536 in
set_option maxHeartbeats 4000000 in
theorem own_mk1 (l : Launch) (Z : State) (a0 : Array Value) (hw : Wds Z a0) (n0 : Nat) (x y z : Int32) (hx : ¬ x < 0 ∧ ¬ (255 : Int32) < x) (hy : ¬ y < 0 ∧ ¬ (255 : Int32) < y) (hz : ¬ z < 0 ∧ ¬ (255 : Int32) < z) (h0 : Heap) (cpt : Int32) (S_C : Sta Z Z.heap "java/lang/String" "COMPACT_STRINGS" "Z" (.int cpt)) (hcpt : ¬ cpt = 0) : Con 2 l Z [("com/example/record_guard/recordguard/conflict/SerializationFailureException", 27), ("com/example/record_guard/recordguard/conflict/SerializationFailureException", 30), ("java/lang/String", 7)] n0 (⟨"com/example/record_guard/recordguard/conflict/SerializationFailureExceptionNotInCallersSnapshotPinLaw", "mk", "(ICCC)Ljava/lang/String;"⟩ : MethodName) method_2_code 4 (some (.object "java/lang/String")) ({ frames := 4, cells := 6, slots := 12, locals := 68 } : Room) #[(.int (1 : Int32)), (.int x), (.int y), (.int z)] [] h0 (fun v h D' => ∃ b t k, v = some (.ref b) ∧ h0.size ≤ b ∧ Keep h0 h [] ∧ Str Z h b t k [x] ∧ D' = []) := by
  refine Con.of_runs (ls := #[.val (.int (1 : Int32)), .val (.int x), .val (.int y), .val (.int z)]) (by decide +kernel) (ef rfl rfl) ?_
  refine Runs.iloadN i1_0 rfl ?_
  refine Runs.ifY (t := 15) i1_1 (by decide) (feq (by decide : ¬ ((1 : Int32) = (0 : Int32)))).2 ?_
  refine Runs.iloadN i1_15 rfl ?_
  refine Runs.iconst (v := (1 : Int32)) i1_16 (by decide) ?_
  refine Runs.icN i1_17 (teq (by decide : (1 : Int32) = (1 : Int32))).2 ?_
  refine Runs.newO i1_20 (w4 hw) (w5 hw) (w6 hw) (lay_1 hw) (by decide) (by decide) ?_
  intro h_1 b_2 g_5 ge_6 K_3 (O_4 : Obj Z h_1 b_2 "java/lang/String" [("java/lang/String", "value", "[B", .null), ("java/lang/String", "coder", "B", (.int (0 : Int32)))]) U_7
  refine Runs.dup i1_23 rfl ?_
  refine Runs.iconst (v := (1 : Int32)) i1_24 (by decide) ?_
  refine Runs.newP (cap := 1) (ad := "[C") i1_25 (w7 hw) (by decide) (by decide) (by decide) (by decide) (by decide) rfl ?_
  intro h_8 b_9 k_10 g_13 ge_14 K_11 (A_12 : Arv Z h_8 b_9 k_10 .char (1 : Int32) [] (.int (0 : Int32))) E_15
  have A_16 : Arv Z h_8 b_9 k_10 .char (1 : Int32) [(.int (0 : Int32))] (.int (0 : Int32)) := A_12.pad (pad_rep [] (.int (0 : Int32)) 1)
  refine Runs.dup i1_27 rfl ?_
  refine Runs.iconst (v := (0 : Int32)) i1_28 (by decide) ?_
  refine Runs.iloadN i1_29 rfl ?_
  refine Runs.castore (i := 0) (y := x) i1_30 A_16 ⟨by decide, by decide⟩ (by decide) (Nat.le_of_ble_eq_true rfl) (own_cc (own_255 hx)) ge_14 (Or.inr (by decide)) ?_
  intro h_17 K_18 (A_19 : Arv Z h_17 b_9 k_10 .char (1 : Int32) [(.int x)] (.int (0 : Int32)))
  have O_20 := ((O_4.keep K_11 nin0).keep K_18 (ninS (Nat.ne_of_lt (Nat.lt_of_lt_of_le (Nat.lt_of_lt_of_le O_4.lt (Nat.le_refl _)) g_13)) nin0))
  refine Runs.callCW (argsL := [(.ref b_9)]) (rest := [(.ref b_2)]) (W := 1) i1_31 rfl (w8 hw) (w9 hw) (w10 hw) (w6 hw) (by decide) pd_5 rfl rfl rfl rfl (by decide) (by decide) (by decide) (by decide) (allS (List.mem_of_getElem? (i := 1) rfl) all0) (by decide) (own_si_1 l Z a0 hw n0 x hx b_2 b_9 k_10 (Nat.ne_of_gt (Nat.lt_of_lt_of_le (Nat.lt_of_lt_of_le O_4.lt (Nat.le_refl _)) g_13)) cpt _ ge_6 O_20 A_19 S_C hcpt) ?_
  intro v h_27 D1 q hsz
  obtain ⟨rfl, t_21, k_22, g_23, K_24, O_25, A_26, rfl⟩ := q
  show Runs 2 l Z [("com/example/record_guard/recordguard/conflict/SerializationFailureException", 27), ("com/example/record_guard/recordguard/conflict/SerializationFailureException", 30), ("java/lang/String", 7)] n0 _ _ _ _ _ _ _ [b_9, b_2] h_27 3 6 34 #[.val (.int (1 : Int32)), .val (.int x), .val (.int y), .val (.int z)] [(.ref b_2)]
  refine Runs.weak (D1 := []) (fun _ q => nomatch q) ?_
  exact Runs.retA i1_34 rfl rfl rfl (by decide) (by decide) ⟨b_2, t_21, k_22, rfl, g_5, (((((Keep.refl _ _).trans K_3 all0).trans K_11 all0).trans K_18 (allS (Or.inr (Nat.le_trans K_3.1 g_13)) all0)).trans K_24 (allS (Or.inr (Nat.le_trans (Nat.le_refl _) g_5)) all0)), ⟨O_25, A_26, (own_latc hx own_lat0), by simp⟩, rfl⟩
set_option maxRecDepth 65536 in
set_option maxHeartbeats 4000000 in
theorem own_mk2 (l : Launch) (Z : State) (a0 : Array Value) (hw : Wds Z a0) (n0 : Nat) (x y z : Int32) (hx : ¬ x < 0 ∧ ¬ (255 : Int32) < x) (hy : ¬ y < 0 ∧ ¬ (255 : Int32) < y) (hz : ¬ z < 0 ∧ ¬ (255 : Int32) < z) (h0 : Heap) (cpt : Int32) (S_C : Sta Z Z.heap "java/lang/String" "COMPACT_STRINGS" "Z" (.int cpt)) (hcpt : ¬ cpt = 0) : Con 2 l Z [("com/example/record_guard/recordguard/conflict/SerializationFailureException", 27), ("com/example/record_guard/recordguard/conflict/SerializationFailureException", 30), ("java/lang/String", 7)] n0 (⟨"com/example/record_guard/recordguard/conflict/SerializationFailureExceptionNotInCallersSnapshotPinLaw", "mk", "(ICCC)Ljava/lang/String;"⟩ : MethodName) method_2_code 4 (some (.object "java/lang/String")) ({ frames := 4, cells := 6, slots := 12, locals := 68 } : Room) #[(.int (2 : Int32)), (.int x), (.int y), (.int z)] [] h0 (fun v h D' => ∃ b t k, v = some (.ref b) ∧ h0.size ≤ b ∧ Keep h0 h [] ∧ Str Z h b t k [x, y] ∧ D' = []) := by
  refine Con.of_runs (ls := #[.val (.int (2 : Int32)), .val (.int x), .val (.int y), .val (.int z)]) (by decide +kernel) (ef rfl rfl) ?_
  refine Runs.iloadN i1_0 rfl ?_
  refine Runs.ifY (t := 15) i1_1 (by decide) (feq (by decide : ¬ ((2 : Int32) = (0 : Int32)))).2 ?_
  refine Runs.iloadN i1_15 rfl ?_
  refine Runs.iconst (v := (1 : Int32)) i1_16 (by decide) ?_
  refine Runs.icY (t := 35) i1_17 (by decide) (feq (by decide : ¬ ((2 : Int32) = (1 : Int32)))).2 ?_
  refine Runs.iloadN i1_35 rfl ?_
  refine Runs.iconst (v := (2 : Int32)) i1_36 (by decide) ?_
  refine Runs.icN i1_37 (teq (by decide : (2 : Int32) = (2 : Int32))).2 ?_
  refine Runs.newO i1_40 (w4 hw) (w5 hw) (w6 hw) (lay_1 hw) (by decide) (by decide) ?_
  intro h_1 b_2 g_5 ge_6 K_3 (O_4 : Obj Z h_1 b_2 "java/lang/String" [("java/lang/String", "value", "[B", .null), ("java/lang/String", "coder", "B", (.int (0 : Int32)))]) U_7
  refine Runs.dup i1_43 rfl ?_
  refine Runs.iconst (v := (2 : Int32)) i1_44 (by decide) ?_
  refine Runs.newP (cap := 2) (ad := "[C") i1_45 (w7 hw) (by decide) (by decide) (by decide) (by decide) (by decide) rfl ?_
  intro h_8 b_9 k_10 g_13 ge_14 K_11 (A_12 : Arv Z h_8 b_9 k_10 .char (2 : Int32) [] (.int (0 : Int32))) E_15
  have A_16 : Arv Z h_8 b_9 k_10 .char (2 : Int32) [(.int (0 : Int32)), (.int (0 : Int32))] (.int (0 : Int32)) := A_12.pad (pad_rep [] (.int (0 : Int32)) 2)
  refine Runs.dup i1_47 rfl ?_
  refine Runs.iconst (v := (0 : Int32)) i1_48 (by decide) ?_
  refine Runs.iloadN i1_49 rfl ?_
  refine Runs.castore (i := 0) (y := x) i1_50 A_16 ⟨by decide, by decide⟩ (by decide) (Nat.le_of_ble_eq_true rfl) (own_cc (own_255 hx)) ge_14 (Or.inr (by decide)) ?_
  intro h_17 K_18 (A_19 : Arv Z h_17 b_9 k_10 .char (2 : Int32) [(.int x), (.int (0 : Int32))] (.int (0 : Int32)))
  refine Runs.dup i1_51 rfl ?_
  refine Runs.iconst (v := (1 : Int32)) i1_52 (by decide) ?_
  refine Runs.iloadN i1_53 rfl ?_
  refine Runs.castore (i := 1) (y := y) i1_54 A_19 ⟨by decide, by decide⟩ (by decide) (Nat.le_of_ble_eq_true rfl) (own_cc (own_255 hy)) ge_14 (Or.inr (by decide)) ?_
  intro h_20 K_21 (A_22 : Arv Z h_20 b_9 k_10 .char (2 : Int32) [(.int x), (.int y)] (.int (0 : Int32)))
  have O_23 := (((O_4.keep K_11 nin0).keep K_18 (ninS (Nat.ne_of_lt (Nat.lt_of_lt_of_le (Nat.lt_of_lt_of_le O_4.lt (Nat.le_refl _)) g_13)) nin0)).keep K_21 (ninS (Nat.ne_of_lt (Nat.lt_of_lt_of_le (Nat.lt_of_lt_of_le O_4.lt (Nat.le_refl _)) g_13)) nin0))
  refine Runs.callCW (argsL := [(.ref b_9)]) (rest := [(.ref b_2)]) (W := 1) i1_55 rfl (w8 hw) (w9 hw) (w10 hw) (w6 hw) (by decide) pd_5 rfl rfl rfl rfl (by decide) (by decide) (by decide) (by decide) (allS (List.mem_of_getElem? (i := 1) rfl) all0) (by decide) (own_si_2 l Z a0 hw n0 x hx y hy b_2 b_9 k_10 (Nat.ne_of_gt (Nat.lt_of_lt_of_le (Nat.lt_of_lt_of_le O_4.lt (Nat.le_refl _)) g_13)) cpt _ ge_6 O_23 A_22 S_C hcpt) ?_
  intro v h_30 D1 q hsz
  obtain ⟨rfl, t_24, k_25, g_26, K_27, O_28, A_29, rfl⟩ := q
  show Runs 2 l Z [("com/example/record_guard/recordguard/conflict/SerializationFailureException", 27), ("com/example/record_guard/recordguard/conflict/SerializationFailureException", 30), ("java/lang/String", 7)] n0 _ _ _ _ _ _ _ [b_9, b_2] h_30 3 8 58 #[.val (.int (2 : Int32)), .val (.int x), .val (.int y), .val (.int z)] [(.ref b_2)]
  refine Runs.weak (D1 := []) (fun _ q => nomatch q) ?_
  exact Runs.retA i1_58 rfl rfl rfl (by decide) (by decide) ⟨b_2, t_24, k_25, rfl, g_5, ((((((Keep.refl _ _).trans K_3 all0).trans K_11 all0).trans K_18 (allS (Or.inr (Nat.le_trans K_3.1 g_13)) all0)).trans K_21 (allS (Or.inr (Nat.le_trans K_3.1 g_13)) all0)).trans K_27 (allS (Or.inr (Nat.le_trans (Nat.le_refl _) g_5)) all0)), ⟨O_28, A_29, (own_latc hx (own_latc hy own_lat0)), by simp⟩, rfl⟩
set_option maxRecDepth 65536 in
set_option maxHeartbeats 4000000 in
theorem own_mk3 (l : Launch) (Z : State) (a0 : Array Value) (hw : Wds Z a0) (n0 : Nat) (x y z : Int32) (hx : ¬ x < 0 ∧ ¬ (255 : Int32) < x) (hy : ¬ y < 0 ∧ ¬ (255 : Int32) < y) (hz : ¬ z < 0 ∧ ¬ (255 : Int32) < z) (h0 : Heap) (cpt : Int32) (S_C : Sta Z Z.heap "java/lang/String" "COMPACT_STRINGS" "Z" (.int cpt)) (hcpt : ¬ cpt = 0) : Con 2 l Z [("com/example/record_guard/recordguard/conflict/SerializationFailureException", 27), ("com/example/record_guard/recordguard/conflict/SerializationFailureException", 30), ("java/lang/String", 7)] n0 (⟨"com/example/record_guard/recordguard/conflict/SerializationFailureExceptionNotInCallersSnapshotPinLaw", "mk", "(ICCC)Ljava/lang/String;"⟩ : MethodName) method_2_code 4 (some (.object "java/lang/String")) ({ frames := 4, cells := 6, slots := 12, locals := 68 } : Room) #[(.int (3 : Int32)), (.int x), (.int y), (.int z)] [] h0 (fun v h D' => ∃ b t k, v = some (.ref b) ∧ h0.size ≤ b ∧ Keep h0 h [] ∧ Str Z h b t k [x, y, z] ∧ D' = []) := by
  refine Con.of_runs (ls := #[.val (.int (3 : Int32)), .val (.int x), .val (.int y), .val (.int z)]) (by decide +kernel) (ef rfl rfl) ?_
  refine Runs.iloadN i1_0 rfl ?_
  refine Runs.ifY (t := 15) i1_1 (by decide) (feq (by decide : ¬ ((3 : Int32) = (0 : Int32)))).2 ?_
  refine Runs.iloadN i1_15 rfl ?_
  refine Runs.iconst (v := (1 : Int32)) i1_16 (by decide) ?_
  refine Runs.icY (t := 35) i1_17 (by decide) (feq (by decide : ¬ ((3 : Int32) = (1 : Int32)))).2 ?_
  refine Runs.iloadN i1_35 rfl ?_
  refine Runs.iconst (v := (2 : Int32)) i1_36 (by decide) ?_
  refine Runs.icY (t := 59) i1_37 (by decide) (feq (by decide : ¬ ((3 : Int32) = (2 : Int32)))).2 ?_
  refine Runs.newO i1_59 (w4 hw) (w5 hw) (w6 hw) (lay_1 hw) (by decide) (by decide) ?_
  intro h_1 b_2 g_5 ge_6 K_3 (O_4 : Obj Z h_1 b_2 "java/lang/String" [("java/lang/String", "value", "[B", .null), ("java/lang/String", "coder", "B", (.int (0 : Int32)))]) U_7
  refine Runs.dup i1_62 rfl ?_
  refine Runs.iconst (v := (3 : Int32)) i1_63 (by decide) ?_
  refine Runs.newP (cap := 3) (ad := "[C") i1_64 (w7 hw) (by decide) (by decide) (by decide) (by decide) (by decide) rfl ?_
  intro h_8 b_9 k_10 g_13 ge_14 K_11 (A_12 : Arv Z h_8 b_9 k_10 .char (3 : Int32) [] (.int (0 : Int32))) E_15
  have A_16 : Arv Z h_8 b_9 k_10 .char (3 : Int32) [(.int (0 : Int32)), (.int (0 : Int32)), (.int (0 : Int32))] (.int (0 : Int32)) := A_12.pad (pad_rep [] (.int (0 : Int32)) 3)
  refine Runs.dup i1_66 rfl ?_
  refine Runs.iconst (v := (0 : Int32)) i1_67 (by decide) ?_
  refine Runs.iloadN i1_68 rfl ?_
  refine Runs.castore (i := 0) (y := x) i1_69 A_16 ⟨by decide, by decide⟩ (by decide) (Nat.le_of_ble_eq_true rfl) (own_cc (own_255 hx)) ge_14 (Or.inr (by decide)) ?_
  intro h_17 K_18 (A_19 : Arv Z h_17 b_9 k_10 .char (3 : Int32) [(.int x), (.int (0 : Int32)), (.int (0 : Int32))] (.int (0 : Int32)))
  refine Runs.dup i1_70 rfl ?_
  refine Runs.iconst (v := (1 : Int32)) i1_71 (by decide) ?_
  refine Runs.iloadN i1_72 rfl ?_
  refine Runs.castore (i := 1) (y := y) i1_73 A_19 ⟨by decide, by decide⟩ (by decide) (Nat.le_of_ble_eq_true rfl) (own_cc (own_255 hy)) ge_14 (Or.inr (by decide)) ?_
  intro h_20 K_21 (A_22 : Arv Z h_20 b_9 k_10 .char (3 : Int32) [(.int x), (.int y), (.int (0 : Int32))] (.int (0 : Int32)))
  refine Runs.dup i1_74 rfl ?_
  refine Runs.iconst (v := (2 : Int32)) i1_75 (by decide) ?_
  refine Runs.iloadN i1_76 rfl ?_
  refine Runs.castore (i := 2) (y := z) i1_77 A_22 ⟨by decide, by decide⟩ (by decide) (Nat.le_of_ble_eq_true rfl) (own_cc (own_255 hz)) ge_14 (Or.inr (by decide)) ?_
  intro h_23 K_24 (A_25 : Arv Z h_23 b_9 k_10 .char (3 : Int32) [(.int x), (.int y), (.int z)] (.int (0 : Int32)))
  have O_26 := ((((O_4.keep K_11 nin0).keep K_18 (ninS (Nat.ne_of_lt (Nat.lt_of_lt_of_le (Nat.lt_of_lt_of_le O_4.lt (Nat.le_refl _)) g_13)) nin0)).keep K_21 (ninS (Nat.ne_of_lt (Nat.lt_of_lt_of_le (Nat.lt_of_lt_of_le O_4.lt (Nat.le_refl _)) g_13)) nin0)).keep K_24 (ninS (Nat.ne_of_lt (Nat.lt_of_lt_of_le (Nat.lt_of_lt_of_le O_4.lt (Nat.le_refl _)) g_13)) nin0))
  refine Runs.callCW (argsL := [(.ref b_9)]) (rest := [(.ref b_2)]) (W := 1) i1_78 rfl (w8 hw) (w9 hw) (w10 hw) (w6 hw) (by decide) pd_5 rfl rfl rfl rfl (by decide) (by decide) (by decide) (by decide) (allS (List.mem_of_getElem? (i := 1) rfl) all0) (by decide) (own_si_3 l Z a0 hw n0 x hx y hy z hz b_2 b_9 k_10 (Nat.ne_of_gt (Nat.lt_of_lt_of_le (Nat.lt_of_lt_of_le O_4.lt (Nat.le_refl _)) g_13)) cpt _ ge_6 O_26 A_25 S_C hcpt) ?_
  intro v h_33 D1 q hsz
  obtain ⟨rfl, t_27, k_28, g_29, K_30, O_31, A_32, rfl⟩ := q
  show Runs 2 l Z [("com/example/record_guard/recordguard/conflict/SerializationFailureException", 27), ("com/example/record_guard/recordguard/conflict/SerializationFailureException", 30), ("java/lang/String", 7)] n0 _ _ _ _ _ _ _ [b_9, b_2] h_33 3 10 81 #[.val (.int (3 : Int32)), .val (.int x), .val (.int y), .val (.int z)] [(.ref b_2)]
  refine Runs.weak (D1 := []) (fun _ q => nomatch q) ?_
  exact Runs.retA i1_81 rfl rfl rfl (by decide) (by decide) ⟨b_2, t_27, k_28, rfl, g_5, (((((((Keep.refl _ _).trans K_3 all0).trans K_11 all0).trans K_18 (allS (Or.inr (Nat.le_trans K_3.1 g_13)) all0)).trans K_21 (allS (Or.inr (Nat.le_trans K_3.1 g_13)) all0)).trans K_24 (allS (Or.inr (Nat.le_trans K_3.1 g_13)) all0)).trans K_30 (allS (Or.inr (Nat.le_trans (Nat.le_refl _) g_5)) all0)), ⟨O_31, A_32, (own_latc hx (own_latc hy (own_latc hz own_lat0))), by simp⟩, rfl⟩
set_option maxRecDepth 65536 in
set_option maxHeartbeats 4000000 in
theorem own_bi1 (l : Launch) (Z : State) (a0 : Array Value) (hw : Wds Z a0) (n0 : Nat) (a : Addr) (h0 : Heap) (ga : n0 ≤ a) (O0 : Obj Z h0 a "java/lang/StringBuilder" [("java/lang/AbstractStringBuilder", "value", "[B", .null), ("java/lang/AbstractStringBuilder", "coder", "B", (.int (0 : Int32))), ("java/lang/AbstractStringBuilder", "count", "I", (.int (0 : Int32)))]) (cpt : Int32) (S_C : Sta Z Z.heap "java/lang/String" "COMPACT_STRINGS" "Z" (.int cpt)) (hcpt : ¬ cpt = 0) : Con 2 l Z [("com/example/record_guard/recordguard/conflict/SerializationFailureException", 27), ("com/example/record_guard/recordguard/conflict/SerializationFailureException", 30), ("java/lang/String", 7)] n0 (⟨"java/lang/AbstractStringBuilder", "<init>", "(I)V"⟩ : MethodName) jdk_68_method_2_code 2 none ({ frames := 1, cells := 1, slots := 16, locals := 13 } : Room) #[(.ref a), (.int (16 : Int32))] [] h0 (fun v h D' => v = none ∧ ∃ t k, h0.size ≤ t ∧ Keep h0 h [a] ∧ SBd Z h a t k 16 [] ∧ D' = [t]) := by
  refine Con.of_runs (ls := #[.val (.ref a), .val (.int (16 : Int32))]) (by decide +kernel) (ef rfl rfl) ?_
  refine Runs.aloadN i11_0 rfl rfl ?_
  refine Runs.initO (W := 0) i11_1 (w59 hw) (w16 hw) (w17 hw) rfl (by decide) rfl (by decide) ?_
  refine Runs.getS i11_4 (w60 hw) Via.refl S_C ?_
  refine Runs.ifN i11_7 (feq hcpt).1 ?_
  refine Runs.aloadN i11_10 rfl rfl ?_
  refine Runs.iloadN i11_11 rfl ?_
  refine Runs.newP (cap := 16) (ad := "[B") i11_12 (w19 hw) (by decide) (by decide) (by decide) (by decide) (by decide) rfl ?_
  intro h_1 b_2 k_3 g_6 ge_7 K_4 (A_5 : Arv Z h_1 b_2 k_3 .byte (Int32.ofNat 16) (([] : List Int32).map own_b) (.int 0)) E_8
  have O_9 := (O0.keep K_4 nin0)
  refine Runs.putF (i := 0) (ty := (.array .byte)) i11_14 (host := "") (Or.inl (w61 hw)) Via.refl O_9 rfl (lay_2 hw) rfl (Or.inl (w62 hw)) (w48 hw) (by decide) rfl rfl ga (Or.inr ⟨by decide, by decide⟩) ?_
  intro h_10 K_11 (O_12 : Obj Z h_10 a "java/lang/StringBuilder" [("java/lang/AbstractStringBuilder", "value", "[B", (.ref b_2)), ("java/lang/AbstractStringBuilder", "coder", "B", (.int (0 : Int32))), ("java/lang/AbstractStringBuilder", "count", "I", (.int (0 : Int32)))])
  refine Runs.aloadN i11_17 rfl rfl ?_
  refine Runs.iconst (v := (0 : Int32)) i11_18 (by decide) ?_
  refine Runs.putF (i := 1) (ty := .byte) i11_19 (host := "") (Or.inl (w63 hw)) Via.refl O_12 rfl (lay_2 hw) rfl (Or.inl (w64 hw)) (w48 hw) (by decide) rfl rfl ga (Or.inr ⟨by decide, by decide⟩) ?_
  intro h_13 K_14 (O_15 : Obj Z h_13 a "java/lang/StringBuilder" [("java/lang/AbstractStringBuilder", "value", "[B", (.ref b_2)), ("java/lang/AbstractStringBuilder", "coder", "B", (.int (0 : Int32))), ("java/lang/AbstractStringBuilder", "count", "I", (.int (0 : Int32)))])
  refine Runs.goto (t := 38) i11_22 (by decide) ?_
  have A_16 := ((A_5.keep K_11 (ninS (Nat.ne_of_gt (Nat.lt_of_lt_of_le (Nat.lt_of_lt_of_le O0.lt (Nat.le_refl _)) g_6)) nin0)).keep K_14 (ninS (Nat.ne_of_gt (Nat.lt_of_lt_of_le (Nat.lt_of_lt_of_le O0.lt (Nat.le_refl _)) g_6)) nin0))
  exact Runs.retV i11_38 rfl (by decide) (by decide) ⟨rfl, b_2, k_3, g_6, ((((Keep.refl _ _).trans K_4 all0).trans K_11 (allS (Or.inl (List.mem_of_getElem? (i := 0) rfl)) all0)).trans K_14 (allS (Or.inl (List.mem_of_getElem? (i := 0) rfl)) all0)), ⟨O_15, A_16, ((E_8.keep K_11).keep K_14), own_lat0, by decide, by decide⟩, rfl⟩
set_option maxRecDepth 65536 in
set_option maxHeartbeats 4000000 in
theorem own_bi (l : Launch) (Z : State) (a0 : Array Value) (hw : Wds Z a0) (n0 : Nat) (a : Addr) (h0 : Heap) (ga : n0 ≤ a) (O0 : Obj Z h0 a "java/lang/StringBuilder" [("java/lang/AbstractStringBuilder", "value", "[B", .null), ("java/lang/AbstractStringBuilder", "coder", "B", (.int (0 : Int32))), ("java/lang/AbstractStringBuilder", "count", "I", (.int (0 : Int32)))]) (cpt : Int32) (S_C : Sta Z Z.heap "java/lang/String" "COMPACT_STRINGS" "Z" (.int cpt)) (hcpt : ¬ cpt = 0) : Con 2 l Z [("com/example/record_guard/recordguard/conflict/SerializationFailureException", 27), ("com/example/record_guard/recordguard/conflict/SerializationFailureException", 30), ("java/lang/String", 7)] n0 (⟨"java/lang/StringBuilder", "<init>", "()V"⟩ : MethodName) jdk_67_method_1_code 1 none ({ frames := 2, cells := 1, slots := 16, locals := 26 } : Room) #[(.ref a)] [] h0 (fun v h D' => v = none ∧ ∃ t k, h0.size ≤ t ∧ Keep h0 h [a] ∧ SBd Z h a t k 16 [] ∧ D' = [t]) := by
  refine Con.of_runs (ls := #[.val (.ref a)]) (by decide +kernel) (ef rfl rfl) ?_
  refine Runs.aloadN i10_0 rfl rfl ?_
  refine Runs.bipush (v := (16 : Int32)) i10_1 (by decide) ?_
  refine Runs.callCW (argsL := [(.int (16 : Int32))]) (rest := []) (W := 0) i10_3 rfl (w53 hw) (w54 hw) (w58 hw) (w57 hw) (by decide) pd_6 rfl rfl rfl rfl (by decide) (by decide) (by decide) (by decide) all0 (by decide) (own_bi1 l Z a0 hw n0 a _ ga O0 cpt S_C hcpt) ?_
  intro v h_6 D1 q hsz
  obtain ⟨rfl, t_1, k_2, g_3, K_4, B_5, rfl⟩ := q
  show Runs 2 l Z [("com/example/record_guard/recordguard/conflict/SerializationFailureException", 27), ("com/example/record_guard/recordguard/conflict/SerializationFailureException", 30), ("java/lang/String", 7)] n0 _ _ _ _ _ _ _ [t_1] h_6 1 16 6 #[.val (.ref a)] []
  exact Runs.retV i10_6 rfl (by decide) (by decide) ⟨rfl, t_1, k_2, g_3, K_4, B_5, rfl⟩
set_option maxRecDepth 65536 in
set_option maxHeartbeats 4000000 in
theorem own_cod (l : Launch) (Z : State) (a0 : Array Value) (hw : Wds Z a0) (n0 : Nat) (b u : Addr) (k : ClassId) (ys : List Int32) (h0 : Heap) (S0 : Str Z h0 b u k ys) (cpt : Int32) (S_C : Sta Z Z.heap "java/lang/String" "COMPACT_STRINGS" "Z" (.int cpt)) (hcpt : ¬ cpt = 0) : Con 2 l Z [("com/example/record_guard/recordguard/conflict/SerializationFailureException", 27), ("com/example/record_guard/recordguard/conflict/SerializationFailureException", 30), ("java/lang/String", 7)] n0 (⟨"java/lang/String", "coder", "()B"⟩ : MethodName) jdk_42_method_152_code 1 (some .byte) ({ frames := 0, cells := 0, slots := 0, locals := 0 } : Room) #[(.ref b)] [] h0 (fun v h D' => v = some (.int 0) ∧ h0 = h ∧ D' = []) := by
  refine Con.of_runs (ls := #[.val (.ref b)]) (by decide +kernel) (ef rfl rfl) ?_
  refine Runs.getS i15_0 (w29 hw) Via.refl S_C ?_
  refine Runs.ifN i15_3 (feq hcpt).1 ?_
  refine Runs.aloadN i15_6 rfl rfl ?_
  refine Runs.getF i15_7 (host := "") (Or.inl (w25 hw)) Via.refl (S0.1.fld (i := 1) rfl) ?_
  refine Runs.goto (t := 14) i15_10 (by decide) ?_
  exact Runs.retI (z := (0 : Int32)) i15_14 rfl (Or.inr (Or.inr (Or.inl rfl))) (by decide) (by decide) (by decide) ⟨rfl, rfl, rfl⟩
set_option maxRecDepth 65536 in
set_option maxHeartbeats 4000000 in
theorem own_len (l : Launch) (Z : State) (a0 : Array Value) (hw : Wds Z a0) (n0 : Nat) (b u : Addr) (k2 : ClassId) (ys : List Int32) (h0 : Heap) (S0 : Str Z h0 b u k2 ys) (cpt : Int32) (S_C : Sta Z Z.heap "java/lang/String" "COMPACT_STRINGS" "Z" (.int cpt)) (hcpt : ¬ cpt = 0) : Con 2 l Z [("com/example/record_guard/recordguard/conflict/SerializationFailureException", 27), ("com/example/record_guard/recordguard/conflict/SerializationFailureException", 30), ("java/lang/String", 7)] n0 (⟨"java/lang/String", "length", "()I"⟩ : MethodName) jdk_42_method_54_code 1 (some .int) ({ frames := 1, cells := 0, slots := 0, locals := 13 } : Room) #[(.ref b)] [] h0 (fun v h D' => v = some (.int (Int32.ofNat ys.length)) ∧ h0 = h ∧ D' = []) := by
  refine Con.of_runs (ls := #[.val (.ref b)]) (by decide +kernel) (ef rfl rfl) ?_
  refine Runs.aloadN i14_0 rfl rfl ?_
  refine Runs.getF i14_1 (host := "") (Or.inl (w24 hw)) Via.refl (S0.1.fld (i := 0) rfl) ?_
  refine Runs.arrlen i14_4 S0.2.1 ?_
  refine Runs.aloadN i14_5 rfl rfl ?_
  refine Runs.callVW (argsL := []) (rest := [(.int (Int32.ofNat ys.length))]) (W := 1) i14_6 (w80 hw) (w81 hw) (fun s hZ => notFace_of_selects (args := #[]) (mvT hZ (w83 hw))) (w83 hw) (w82 hw) (w84 hw) (w6 hw) (by decide) S0.1.1 pd_7 rfl rfl rfl rfl (by decide) (by decide) (by decide) (by decide) all0 (by decide) (own_cod l Z a0 hw n0 b u k2 ys _ S0 cpt S_C hcpt) ?_
  intro v h1 D1 q hsz
  obtain ⟨rfl, rfl, rfl⟩ := q
  show Runs 2 l Z [("com/example/record_guard/recordguard/conflict/SerializationFailureException", 27), ("com/example/record_guard/recordguard/conflict/SerializationFailureException", 30), ("java/lang/String", 7)] n0 _ _ _ _ _ _ _ [] h0 0 0 9 #[.val (.ref b)] [(.int (0 : Int32)), (.int (Int32.ofNat ys.length))]
  refine Runs.ishr (z := (Int32.ofNat ys.length)) i14_9 (own_shr0 _) ?_
  exact Runs.retI (z := (Int32.ofNat ys.length)) i14_10 rfl (Or.inl rfl) rfl (by decide) (by decide) ⟨rfl, rfl, rfl⟩
theorem own_sub0 {a b : Nat} (h : a ≤ b) (hb : b < 2147483648) : ¬ (0 : Int32) < Int32.ofNat a - Int32.ofNat b := by
  rw [Int32.lt_iff_toInt_lt, Int32.toInt_sub, own_n0 a (by omega), own_n0 b hb, Int.bmod_eq_of_le (by omega) (by omega)]; show ¬ (0 : Int) < _; omega
set_option maxRecDepth 65536 in
set_option maxHeartbeats 4000000 in
theorem own_ecf (l : Launch) (Z : State) (a0 : Array Value) (hw : Wds Z a0) (n0 : Nat) (a t : Addr) (k : ClassId) (cap : Nat) (xs : List Int32) (h0 : Heap) (B0 : SBd Z h0 a t k cap xs) (N : Nat) (hN : N ≤ cap) : Con 2 l Z [("com/example/record_guard/recordguard/conflict/SerializationFailureException", 27), ("com/example/record_guard/recordguard/conflict/SerializationFailureException", 30), ("java/lang/String", 7)] n0 (⟨"java/lang/AbstractStringBuilder", "ensureCapacityInternal", "(I)V"⟩ : MethodName) jdk_68_method_9_code 3 none ({ frames := 0, cells := 0, slots := 0, locals := 0 } : Room) #[(.ref a), (.int (Int32.ofNat N))] [] h0 (fun v h D' => v = none ∧ h0 = h ∧ D' = []) := by
  refine Con.of_runs (ls := #[.val (.ref a), .val (.int (Int32.ofNat N)), .unset]) (by decide +kernel) (ef rfl rfl) ?_
  obtain ⟨BO, BA, BE, BL, hle, hcap⟩ := id B0
  have hsub : ¬ (0 : Int32) < Int32.ofNat N - Int32.ofNat cap := own_sub0 hN (by omega)
  refine Runs.aloadN i16_0 rfl rfl ?_
  refine Runs.getF i16_1 (host := "") (Or.inl (w61 hw)) Via.refl (BO.fld (i := 0) rfl) ?_
  refine Runs.arrlen i16_4 BA ?_
  refine Runs.aloadN i16_5 rfl rfl ?_
  refine Runs.getF i16_6 (host := "") (Or.inl (w63 hw)) Via.refl (BO.fld (i := 1) rfl) ?_
  refine Runs.ishr (z := (Int32.ofNat cap)) i16_9 (own_shr0 _) ?_
  refine Runs.istoreN (ls' := #[.val (.ref a), .val (.int (Int32.ofNat N)), .val (.int (Int32.ofNat cap))]) i16_10 rfl ?_
  refine Runs.iloadN i16_11 rfl ?_
  refine Runs.iloadN i16_12 rfl ?_
  refine Runs.isub (z := Int32.ofNat N - Int32.ofNat cap) i16_13 rfl ?_
  refine Runs.ifY (t := 38) i16_14 (by decide) (flt hsub).2.2.2 ?_
  exact Runs.retV i16_38 rfl (by decide) (by decide) ⟨rfl, rfl, rfl⟩
set_option maxRecDepth 65536 in
set_option maxHeartbeats 4000000 in
theorem own_ifn (l : Launch) (Z : State) (a0 : Array Value) (hw : Wds Z a0) (n0 : Nat) (a t : Addr) (k : ClassId) (cap : Nat) (xs : List Int32) (h0 : Heap) (B0 : SBd Z h0 a t k cap xs) (s u : Addr) (k2 : ClassId) (ys : List Int32) (S0 : Str Z h0 s u k2 ys) (cpt : Int32) (S_C : Sta Z Z.heap "java/lang/String" "COMPACT_STRINGS" "Z" (.int cpt)) (hcpt : ¬ cpt = 0) : Con 2 l Z [("com/example/record_guard/recordguard/conflict/SerializationFailureException", 27), ("com/example/record_guard/recordguard/conflict/SerializationFailureException", 30), ("java/lang/String", 7)] n0 (⟨"java/lang/AbstractStringBuilder", "inflateIfNeededFor", "(Ljava/lang/String;)V"⟩ : MethodName) jdk_68_method_71_code 2 none ({ frames := 1, cells := 0, slots := 0, locals := 13 } : Room) #[(.ref a), (.ref s)] [] h0 (fun v h D' => v = none ∧ h0 = h ∧ D' = []) := by
  refine Con.of_runs (ls := #[.val (.ref a), .val (.ref s)]) (by decide +kernel) (ef rfl rfl) ?_
  obtain ⟨BO, BA, BE, BL, hle, hcap⟩ := id B0
  refine Runs.getS i18_0 (w60 hw) Via.refl S_C ?_
  refine Runs.ifN i18_3 (feq hcpt).1 ?_
  refine Runs.aloadN i18_6 rfl rfl ?_
  refine Runs.getF i18_7 (host := "") (Or.inl (w63 hw)) Via.refl (BO.fld (i := 1) rfl) ?_
  refine Runs.aloadN i18_10 rfl rfl ?_
  refine Runs.callVW (argsL := []) (rest := [(.int (0 : Int32))]) (W := 1) i18_11 (w102 hw) (w81 hw) (fun s hZ => notFace_of_selects (args := #[]) (mvT hZ (w83 hw))) (w83 hw) (w82 hw) (w84 hw) (w6 hw) (by decide) S0.1.1 pd_7 rfl rfl rfl rfl (by decide) (by decide) (by decide) (by decide) all0 (by decide) (own_cod l Z a0 hw n0 s u k2 ys _ S0 cpt S_C hcpt) ?_
  intro v h1 D1 q hsz
  obtain ⟨rfl, rfl, rfl⟩ := q
  show Runs 2 l Z [("com/example/record_guard/recordguard/conflict/SerializationFailureException", 27), ("com/example/record_guard/recordguard/conflict/SerializationFailureException", 30), ("java/lang/String", 7)] n0 _ _ _ _ _ _ _ [] h0 0 0 14 #[.val (.ref a), .val (.ref s)] [(.int (0 : Int32)), (.int (0 : Int32))]
  refine Runs.icY (t := 21) i18_14 (by decide) (teq (by decide : (0 : Int32) = (0 : Int32))).1 ?_
  exact Runs.retV i18_21 rfl (by decide) (by decide) ⟨rfl, rfl, rfl⟩
set_option maxRecDepth 65536 in
set_option maxHeartbeats 4000000 in
theorem own_gb (l : Launch) (Z : State) (a0 : Array Value) (hw : Wds Z a0) (n0 : Nat) (t : Addr) (k : ClassId) (cap : Nat) (xs : List Int32) (h0 : Heap) (BA : Arv Z h0 t k .byte (Int32.ofNat cap) (xs.map own_b) (.int 0)) (s u : Addr) (k2 : ClassId) (ys : List Int32) (S0 : Str Z h0 s u k2 ys) (hfit : xs.length + ys.length ≤ cap) (hcap : cap < 1000000) (gt : n0 ≤ t) (cpt : Int32) (S_C : Sta Z Z.heap "java/lang/String" "COMPACT_STRINGS" "Z" (.int cpt)) (hcpt : ¬ cpt = 0) : Con 2 l Z [("com/example/record_guard/recordguard/conflict/SerializationFailureException", 27), ("com/example/record_guard/recordguard/conflict/SerializationFailureException", 30), ("java/lang/String", 7)] n0 (⟨"java/lang/String", "getBytes", "([BIB)V"⟩ : MethodName) jdk_42_method_147_code 4 none ({ frames := 1, cells := 0, slots := 0, locals := 38 } : Room) #[(.ref s), (.ref t), (.int (Int32.ofNat xs.length)), (.int (0 : Int32))] [t] h0 (fun v h D' => v = none ∧ Keep h0 h [t] ∧ Arv Z h t k .byte (Int32.ofNat cap) ((xs ++ ys).map own_b) (.int 0) ∧ D' = []) := by
  refine Con.of_runs (ls := #[.val (.ref s), .val (.ref t), .val (.int (Int32.ofNat xs.length)), .val (.int (0 : Int32))]) (by decide +kernel) (ef rfl rfl) ?_
  have hys := S0.2.2.2
  refine Runs.aloadN i19_0 rfl rfl ?_
  refine Runs.callVW (argsL := []) (rest := []) (W := 0) i19_1 (w80 hw) (w81 hw) (fun s hZ => notFace_of_selects (args := #[]) (mvT hZ (w83 hw))) (w83 hw) (w82 hw) (w84 hw) (w6 hw) (by decide) S0.1.1 pd_7 rfl rfl rfl rfl (by decide) (by decide) (by decide) (by decide) all0 (by decide) (own_cod l Z a0 hw n0 s u k2 ys _ S0 cpt S_C hcpt) ?_
  intro v h1 D1 q hsz
  obtain ⟨rfl, rfl, rfl⟩ := q
  show Runs 2 l Z [("com/example/record_guard/recordguard/conflict/SerializationFailureException", 27), ("com/example/record_guard/recordguard/conflict/SerializationFailureException", 30), ("java/lang/String", 7)] n0 _ _ _ _ _ _ _ [t] h0 0 0 4 #[.val (.ref s), .val (.ref t), .val (.int (Int32.ofNat xs.length)), .val (.int (0 : Int32))] [(.int (0 : Int32))]
  refine Runs.iloadN i19_4 rfl ?_
  refine Runs.icN i19_5 (teq (by decide : (0 : Int32) = (0 : Int32))).2 ?_
  refine Runs.aloadN i19_8 rfl rfl ?_
  refine Runs.getF i19_9 (host := "") (Or.inl (w24 hw)) Via.refl (S0.1.fld (i := 0) rfl) ?_
  refine Runs.iconst (v := (0 : Int32)) i19_12 (by decide) ?_
  refine Runs.aloadN i19_13 rfl rfl ?_
  refine Runs.iloadN i19_14 rfl ?_
  refine Runs.iloadN i19_15 rfl ?_
  refine Runs.ishl (z := (Int32.ofNat xs.length)) i19_16 (own_shl0 _) ?_
  refine Runs.aloadN i19_17 rfl rfl ?_
  refine Runs.getF i19_18 (host := "") (Or.inl (w24 hw)) Via.refl (S0.1.fld (i := 0) rfl) ?_
  refine Runs.arrlen i19_21 S0.2.1 ?_
  have A_1 : Arv Z h0 t k .byte (Int32.ofNat cap) (xs.map own_b ++ List.replicate ((ys.map own_b).length + 0) (.int 0)) (.int 0) := BA.pad (pad_rep _ _ _)
  refine Runs.acopy (W := 0) (us := (ys.map own_b)) i19_22 (w108 hw) (w111 hw) (w109 hw) (w110 hw) S0.2.1 A_1 rfl (by decide) (own_nn (by omega)) (own_nn (by omega)) (by rw [own_cl (n := ys.length) (by omega)]; exact Nat.le_of_eq (Nat.zero_add _)) (by rw [own_cl (n := xs.length) (by omega), own_cl (n := ys.length) (by omega), own_cl (n := cap) (by omega)]; omega) (by rw [own_cl (n := ys.length) (by omega), ← List.length_map (f := own_b)]; exact (own_rng _ _).symm) (by rw [own_cl (n := xs.length) (by omega), own_cl (n := ys.length) (by omega)]; simp) gt (Or.inl (List.mem_of_getElem? (i := 0) rfl)) rfl (by decide) rfl (by decide) ?_
  intro h_2 K_3 A_4
  have A_5 : Arv Z h_2 t k .byte (Int32.ofNat cap) ((xs ++ ys).map own_b) (.int 0) := A_4.pad (fun i => by rw [own_cl (n := xs.length) (by omega), own_cl (n := ys.length) (by omega), List.map_append, ← own_app (xs.map own_b) (ys.map own_b) (.int 0) 0 i, List.length_map, List.length_map])
  refine Runs.goto (t := 43) i19_25 (by decide) ?_
  exact Runs.weak (D1 := []) (fun _ q => nomatch q) (Runs.retV i19_43 rfl (by decide) (by decide) ⟨rfl, K_3, A_5, rfl⟩)
set_option maxRecDepth 65536 in
set_option maxHeartbeats 4000000 in
theorem own_psa (l : Launch) (Z : State) (a0 : Array Value) (hw : Wds Z a0) (n0 : Nat) (a t : Addr) (k : ClassId) (cap : Nat) (xs : List Int32) (h0 : Heap) (B0 : SBd Z h0 a t k cap xs) (s u : Addr) (k2 : ClassId) (ys : List Int32) (S0 : Str Z h0 s u k2 ys) (hfit : xs.length + ys.length ≤ cap) (gt : n0 ≤ t) (cpt : Int32) (S_C : Sta Z Z.heap "java/lang/String" "COMPACT_STRINGS" "Z" (.int cpt)) (hcpt : ¬ cpt = 0) : Con 2 l Z [("com/example/record_guard/recordguard/conflict/SerializationFailureException", 27), ("com/example/record_guard/recordguard/conflict/SerializationFailureException", 30), ("java/lang/String", 7)] n0 (⟨"java/lang/AbstractStringBuilder", "putStringAt", "(ILjava/lang/String;)V"⟩ : MethodName) jdk_68_method_73_code 3 none ({ frames := 2, cells := 0, slots := 0, locals := 53 } : Room) #[(.ref a), (.int (Int32.ofNat xs.length)), (.ref s)] [t] h0 (fun v h D' => v = none ∧ Keep h0 h [t] ∧ Arv Z h t k .byte (Int32.ofNat cap) ((xs ++ ys).map own_b) (.int 0) ∧ D' = []) := by
  refine Con.of_runs (ls := #[.val (.ref a), .val (.int (Int32.ofNat xs.length)), .val (.ref s)]) (by decide +kernel) (ef rfl rfl) ?_
  obtain ⟨BO, BA, BE, BL, hle, hcap⟩ := id B0
  refine Runs.aloadN i17_0 rfl rfl ?_
  refine Runs.aloadN i17_1 rfl rfl ?_
  refine Runs.callVW (argsL := [(.ref s)]) (rest := []) (W := 0) i17_2 (w97 hw) (declares_of (w98 hw) (w101 hw)) (fun s hZ => notFace_of_selects (args := #[]) (mvT hZ (w100 hw))) (w100 hw) (w98 hw) (w101 hw) (w57 hw) (by decide) BO.1 pd_0 rfl rfl rfl rfl (by decide) (by decide) (by decide) (by decide) all0 (by decide) (own_ifn l Z a0 hw n0 a t k cap xs _ B0 s u k2 ys S0 cpt S_C hcpt) ?_
  intro v h1 D1 q hsz
  obtain ⟨rfl, rfl, rfl⟩ := q
  show Runs 2 l Z [("com/example/record_guard/recordguard/conflict/SerializationFailureException", 27), ("com/example/record_guard/recordguard/conflict/SerializationFailureException", 30), ("java/lang/String", 7)] n0 _ _ _ _ _ _ _ [t] h0 0 0 5 #[.val (.ref a), .val (.int (Int32.ofNat xs.length)), .val (.ref s)] []
  refine Runs.aloadN i17_5 rfl rfl ?_
  refine Runs.aloadN i17_6 rfl rfl ?_
  refine Runs.getF i17_7 (host := "") (Or.inl (w61 hw)) Via.refl (BO.fld (i := 0) rfl) ?_
  refine Runs.iloadN i17_10 rfl ?_
  refine Runs.aloadN i17_11 rfl rfl ?_
  refine Runs.getF i17_12 (host := "") (Or.inl (w63 hw)) Via.refl (BO.fld (i := 1) rfl) ?_
  refine Runs.callVW (argsL := [(.ref t), (.int (Int32.ofNat xs.length)), (.int (0 : Int32))]) (rest := []) (W := 0) i17_15 (w103 hw) (w104 hw) (fun s hZ => notFace_of_selects (args := #[]) (mvT hZ (w106 hw))) (w106 hw) (w105 hw) (w107 hw) (w6 hw) (by decide) S0.1.1 pd_8 rfl rfl rfl rfl (by decide) (by decide) (by decide) (by decide) (allS (List.mem_of_getElem? (i := 0) rfl) all0) (by decide) (own_gb l Z a0 hw n0 t k cap xs _ BA s u k2 ys S0 hfit hcap gt cpt S_C hcpt) ?_
  intro v h_1 D1 q hsz
  obtain ⟨rfl, K_2, A_3, rfl⟩ := q
  show Runs 2 l Z [("com/example/record_guard/recordguard/conflict/SerializationFailureException", 27), ("com/example/record_guard/recordguard/conflict/SerializationFailureException", 30), ("java/lang/String", 7)] n0 _ _ _ _ _ _ _ [t] h_1 0 0 18 #[.val (.ref a), .val (.int (Int32.ofNat xs.length)), .val (.ref s)] []
  exact Runs.weak (D1 := []) (fun _ q => nomatch q) (Runs.retV i17_18 rfl (by decide) (by decide) ⟨rfl, K_2, A_3, rfl⟩)
set_option maxRecDepth 65536 in
set_option maxHeartbeats 4000000 in
theorem own_ap1f (l : Launch) (Z : State) (a0 : Array Value) (hw : Wds Z a0) (n0 : Nat) (a t : Addr) (k : ClassId) (cap : Nat) (xs : List Int32) (h0 : Heap) (B0 : SBd Z h0 a t k cap xs) (s u : Addr) (k2 : ClassId) (ys : List Int32) (S0 : Str Z h0 s u k2 ys) (hfit : xs.length + ys.length ≤ cap) (gt : n0 ≤ t) (ga : n0 ≤ a) (cpt : Int32) (S_C : Sta Z Z.heap "java/lang/String" "COMPACT_STRINGS" "Z" (.int cpt)) (hcpt : ¬ cpt = 0) : Con 2 l Z [("com/example/record_guard/recordguard/conflict/SerializationFailureException", 27), ("com/example/record_guard/recordguard/conflict/SerializationFailureException", 30), ("java/lang/String", 7)] n0 (⟨"java/lang/AbstractStringBuilder", "append", "(Ljava/lang/String;)Ljava/lang/AbstractStringBuilder;"⟩ : MethodName) jdk_68_method_22_code 3 (some (.object "java/lang/AbstractStringBuilder")) ({ frames := 3, cells := 0, slots := 0, locals := 68 } : Room) #[(.ref a), (.ref s)] [t] h0 (fun v h D' => v = some (.ref a) ∧ Keep h0 h [a, t] ∧ SBd Z h a t k cap (xs ++ ys) ∧ D' = []) := by
  refine Con.of_runs (ls := #[.val (.ref a), .val (.ref s), .unset]) (by decide +kernel) (ef rfl rfl) ?_
  obtain ⟨BO, BA, BE, BL, hle, hcap⟩ := id B0
  have hys := S0.2.2.2
  have hat : a ≠ t := Exa.neArv BO.1 BA (w48 hw)
  refine Runs.aloadN i13_0 rfl rfl ?_
  refine Runs.nnullY (t := 9) i13_1 (by decide) ?_
  refine Runs.aloadN i13_9 rfl rfl ?_
  refine Runs.callVW (argsL := []) (rest := []) (W := 0) i13_10 (w75 hw) (w76 hw) (fun s hZ => notFace_of_selects (args := #[]) (mvT hZ (w78 hw))) (w78 hw) (w77 hw) (w79 hw) (w6 hw) (by decide) S0.1.1 pd_9 rfl rfl rfl rfl (by decide) (by decide) (by decide) (by decide) all0 (by decide) (own_len l Z a0 hw n0 s u k2 ys _ S0 cpt S_C hcpt) ?_
  intro v h1 D1 q hsz
  obtain ⟨rfl, rfl, rfl⟩ := q
  show Runs 2 l Z [("com/example/record_guard/recordguard/conflict/SerializationFailureException", 27), ("com/example/record_guard/recordguard/conflict/SerializationFailureException", 30), ("java/lang/String", 7)] n0 _ _ _ _ _ _ _ [t] h0 0 0 13 #[.val (.ref a), .val (.ref s), .unset] [(.int (Int32.ofNat ys.length))]
  refine Runs.istoreN (ls' := #[.val (.ref a), .val (.ref s), .val (.int (Int32.ofNat ys.length))]) i13_13 rfl ?_
  refine Runs.aloadN i13_14 rfl rfl ?_
  refine Runs.aloadN i13_15 rfl rfl ?_
  refine Runs.getF i13_16 (host := "") (Or.inl (w85 hw)) Via.refl (BO.fld (i := 2) rfl) ?_
  refine Runs.iloadN i13_19 rfl ?_
  refine Runs.iadd (z := (Int32.ofNat (xs.length + ys.length))) i13_20 (own_add (a := xs.length) (b := ys.length) (by omega)) ?_
  refine Runs.callVW (argsL := [(.int (Int32.ofNat (xs.length + ys.length)))]) (rest := []) (W := 0) i13_21 (w87 hw) (declares_of (w88 hw) (w91 hw)) (fun s hZ => notFace_of_selects (args := #[]) (mvT hZ (w90 hw))) (w90 hw) (w88 hw) (w91 hw) (w57 hw) (by decide) BO.1 pd_6 rfl rfl rfl rfl (by decide) (by decide) (by decide) (by decide) all0 (by decide) (own_ecf l Z a0 hw n0 a t k cap xs _ B0 (xs.length + ys.length) (by omega)) ?_
  intro v h1 D1 q hsz
  obtain ⟨rfl, rfl, rfl⟩ := q
  show Runs 2 l Z [("com/example/record_guard/recordguard/conflict/SerializationFailureException", 27), ("com/example/record_guard/recordguard/conflict/SerializationFailureException", 30), ("java/lang/String", 7)] n0 _ _ _ _ _ _ _ [t] h0 0 0 24 #[.val (.ref a), .val (.ref s), .val (.int (Int32.ofNat ys.length))] []
  refine Runs.aloadN i13_24 rfl rfl ?_
  refine Runs.aloadN i13_25 rfl rfl ?_
  refine Runs.getF i13_26 (host := "") (Or.inl (w85 hw)) Via.refl (BO.fld (i := 2) rfl) ?_
  refine Runs.aloadN i13_29 rfl rfl ?_
  refine Runs.callVW (argsL := [(.int (Int32.ofNat xs.length)), (.ref s)]) (rest := []) (W := 0) i13_30 (w92 hw) (declares_of (w93 hw) (w96 hw)) (fun s hZ => notFace_of_selects (args := #[]) (mvT hZ (w95 hw))) (w95 hw) (w93 hw) (w96 hw) (w57 hw) (by decide) BO.1 pd_10 rfl rfl rfl rfl (by decide) (by decide) (by decide) (by decide) (allS (List.mem_of_getElem? (i := 0) rfl) all0) (by decide) (own_psa l Z a0 hw n0 a t k cap xs _ B0 s u k2 ys S0 (by omega) gt cpt S_C hcpt) ?_
  intro v h_1 D1 q hsz
  obtain ⟨rfl, K_2, A_3, rfl⟩ := q
  show Runs 2 l Z [("com/example/record_guard/recordguard/conflict/SerializationFailureException", 27), ("com/example/record_guard/recordguard/conflict/SerializationFailureException", 30), ("java/lang/String", 7)] n0 _ _ _ _ _ _ _ [t] h_1 0 0 33 #[.val (.ref a), .val (.ref s), .val (.int (Int32.ofNat ys.length))] []
  refine Runs.aloadN i13_33 rfl rfl ?_
  refine Runs.dup i13_34 rfl ?_
  have O_4 := (BO.keep K_2 (ninS hat nin0))
  refine Runs.getF i13_35 (host := "") (Or.inl (w85 hw)) Via.refl (O_4.fld (i := 2) rfl) ?_
  refine Runs.iloadN i13_38 rfl ?_
  refine Runs.iadd (z := (Int32.ofNat (xs.length + ys.length))) i13_39 (own_add (a := xs.length) (b := ys.length) (by omega)) ?_
  refine Runs.putF (i := 2) (ty := .int) i13_40 (host := "") (Or.inl (w85 hw)) Via.refl O_4 rfl (lay_2 hw) rfl (Or.inl (w86 hw)) (w48 hw) (by decide) rfl rfl ga (Or.inr ⟨by decide, by decide⟩) ?_
  intro h_5 K_6 (O_7 : Obj Z h_5 a "java/lang/StringBuilder" [("java/lang/AbstractStringBuilder", "value", "[B", (.ref t)), ("java/lang/AbstractStringBuilder", "coder", "B", (.int (0 : Int32))), ("java/lang/AbstractStringBuilder", "count", "I", (.int (Int32.ofNat (xs.length + ys.length))))])
  refine Runs.aloadN i13_43 rfl rfl ?_
  have A_8 := (A_3.keep K_6 (ninS (Ne.symm hat) nin0))
  refine Runs.weak (D1 := []) (fun _ q => nomatch q) ?_
  exact Runs.retA i13_44 rfl rfl rfl (by decide) (by decide) ⟨rfl, (((Keep.refl _ _).trans K_2 (allS (Or.inl (List.mem_of_getElem? (i := 1) rfl)) all0)).trans K_6 (allS (Or.inl (List.mem_of_getElem? (i := 0) rfl)) all0)), ⟨by rw [List.length_append]; exact O_7, A_8, ((B0.2.2.1.keep K_2).keep K_6), own_lat_app BL S0.2.2.1, by rw [List.length_append]; omega, by omega⟩, rfl⟩
set_option maxRecDepth 65536 in
set_option maxHeartbeats 4000000 in
theorem own_apf (l : Launch) (Z : State) (a0 : Array Value) (hw : Wds Z a0) (n0 : Nat) (a t : Addr) (k : ClassId) (cap : Nat) (xs : List Int32) (h0 : Heap) (B0 : SBd Z h0 a t k cap xs) (s u : Addr) (k2 : ClassId) (ys : List Int32) (S0 : Str Z h0 s u k2 ys) (hfit : xs.length + ys.length ≤ cap) (gt : n0 ≤ t) (ga : n0 ≤ a) (cpt : Int32) (S_C : Sta Z Z.heap "java/lang/String" "COMPACT_STRINGS" "Z" (.int cpt)) (hcpt : ¬ cpt = 0) : Con 2 l Z [("com/example/record_guard/recordguard/conflict/SerializationFailureException", 27), ("com/example/record_guard/recordguard/conflict/SerializationFailureException", 30), ("java/lang/String", 7)] n0 (⟨"java/lang/StringBuilder", "append", "(Ljava/lang/String;)Ljava/lang/StringBuilder;"⟩ : MethodName) jdk_67_method_7_code 2 (some (.object "java/lang/StringBuilder")) ({ frames := 4, cells := 0, slots := 0, locals := 82 } : Room) #[(.ref a), (.ref s)] [t] h0 (fun v h D' => v = some (.ref a) ∧ Keep h0 h [a, t] ∧ SBd Z h a t k cap (xs ++ ys) ∧ D' = []) := by
  refine Con.of_runs (ls := #[.val (.ref a), .val (.ref s)]) (by decide +kernel) (ef rfl rfl) ?_
  obtain ⟨BO, BA, BE, BL, hle, hcap⟩ := id B0
  refine Runs.aloadN i12_0 rfl rfl ?_
  refine Runs.aloadN i12_1 rfl rfl ?_
  refine Runs.callUW (argsL := [(.ref s)]) (rest := []) (W := 0) i12_2 (w70 hw) (same_of (w73 hw) (nf_same (notFace_of_selects (w90 hw)) (w88 hw) rfl) (by decide)) (w71 hw) (w72 hw) (w74 hw) (w57 hw) (by decide) BO.1 pd_11 rfl rfl rfl rfl (by decide) (by decide) (by decide) (by decide) (allS (List.mem_of_getElem? (i := 0) rfl) all0) (by decide) (own_ap1f l Z a0 hw n0 a t k cap xs _ B0 s u k2 ys S0 hfit gt ga cpt S_C hcpt) ?_
  intro v h1 D1 q hsz
  obtain ⟨rfl, K1, B1, rfl⟩ := q
  show Runs 2 l Z [("com/example/record_guard/recordguard/conflict/SerializationFailureException", 27), ("com/example/record_guard/recordguard/conflict/SerializationFailureException", 30), ("java/lang/String", 7)] n0 _ _ _ _ _ _ _ [t] h1 0 0 5 #[.val (.ref a), .val (.ref s)] [(.ref a)]
  refine Runs.pop i12_5 rfl ?_
  refine Runs.aloadN i12_6 rfl rfl ?_
  refine Runs.weak (D1 := []) (fun _ q => nomatch q) ?_
  exact Runs.retA i12_7 rfl rfl rfl (by decide) (by decide) ⟨rfl, K1, B1, rfl⟩
set_option maxRecDepth 65536 in
set_option maxHeartbeats 4000000 in
theorem own_max (l : Launch) (Z : State) (a0 : Array Value) (hw : Wds Z a0) (n0 : Nat) (a b : Nat) (ha : a < 2147483648) (hb : b < 2147483648) (h0 : Heap) : Con 2 l Z [("com/example/record_guard/recordguard/conflict/SerializationFailureException", 27), ("com/example/record_guard/recordguard/conflict/SerializationFailureException", 30), ("java/lang/String", 7)] n0 (⟨"java/lang/Math", "max", "(II)I"⟩ : MethodName) jdk_29_method_65_code 2 (some .int) ({ frames := 0, cells := 0, slots := 0, locals := 0 } : Room) #[(.int (Int32.ofNat a)), (.int (Int32.ofNat b))] [] h0 (fun v h D' => v = some (.int (Int32.ofNat (max a b))) ∧ h0 = h ∧ D' = []) := by
  refine Con.of_runs (ls := #[.val (.int (Int32.ofNat a)), .val (.int (Int32.ofNat b))]) (Jvm.Free.JP.mathPlain rfl (by decide +kernel)) (ef rfl rfl) ?_
  refine Runs.iloadN i22_0 rfl ?_
  refine Runs.iloadN i22_1 rfl ?_
  by_cases hc2 : (Int32.ofNat a) < (Int32.ofNat b)
  · refine Runs.icY (t := 9) i22_2 (by decide) (tlt hc2).1 ?_
    refine Runs.iloadN i22_9 rfl ?_
    exact Runs.retI (z := (Int32.ofNat b)) i22_10 rfl (Or.inl rfl) rfl (by decide) (by decide) ⟨by rw [own_ltI (by omega) (by omega)] at hc2; congr 3; omega, rfl, rfl⟩
  · refine Runs.icN i22_2 (flt hc2).1 ?_
    refine Runs.iloadN i22_5 rfl ?_
    refine Runs.goto (t := 10) i22_6 (by decide) ?_
    exact Runs.retI (z := (Int32.ofNat a)) i22_10 rfl (Or.inl rfl) rfl (by decide) (by decide) ⟨by rw [own_ltI (by omega) (by omega)] at hc2; congr 3; omega, rfl, rfl⟩
set_option maxRecDepth 65536 in
set_option maxHeartbeats 4000000 in
theorem own_nl (l : Launch) (Z : State) (a0 : Array Value) (hw : Wds Z a0) (n0 : Nat) (o m p : Nat) (ho : o < 100000000) (hm : 0 < m ∧ m < 100000000) (hp : p < 100000000) (h0 : Heap) : Con 2 l Z [("com/example/record_guard/recordguard/conflict/SerializationFailureException", 27), ("com/example/record_guard/recordguard/conflict/SerializationFailureException", 30), ("java/lang/String", 7)] n0 (⟨"jdk/internal/util/ArraysSupport", "newLength", "(III)I"⟩ : MethodName) jdk_48_method_27_code 4 (some .int) ({ frames := 1, cells := 0, slots := 0, locals := 14 } : Room) #[(.int (Int32.ofNat o)), (.int (Int32.ofNat m)), (.int (Int32.ofNat p))] [] h0 (fun v h D' => v = some (.int (Int32.ofNat (o + max m p))) ∧ h0 = h ∧ D' = []) := by
  refine Con.of_runs (ls := #[.val (.int (Int32.ofNat o)), .val (.int (Int32.ofNat m)), .val (.int (Int32.ofNat p)), .unset]) (by decide +kernel) (ef rfl rfl) ?_
  refine Runs.iloadN i21_0 rfl ?_
  refine Runs.iloadN i21_1 rfl ?_
  refine Runs.iloadN i21_2 rfl ?_
  refine Runs.callSW (argsL := [(.int (Int32.ofNat m)), (.int (Int32.ofNat p))]) (rest := [(.int (Int32.ofNat o))]) (W := 1) i21_3 (w122 hw) (w123 hw) (w124 hw) (w125 hw) (by decide) pd_12 rfl rfl rfl rfl (by decide) (by decide) (by decide) (by decide) all0 (by decide) (own_max l Z a0 hw n0 m p (by omega) (by omega) _) ?_
  intro v h1 D1 q hsz
  obtain ⟨rfl, rfl, rfl⟩ := q
  show Runs 2 l Z [("com/example/record_guard/recordguard/conflict/SerializationFailureException", 27), ("com/example/record_guard/recordguard/conflict/SerializationFailureException", 30), ("java/lang/String", 7)] n0 _ _ _ _ _ _ _ [] h0 0 0 6 #[.val (.int (Int32.ofNat o)), .val (.int (Int32.ofNat m)), .val (.int (Int32.ofNat p)), .unset] [(.int (Int32.ofNat (max m p))), (.int (Int32.ofNat o))]
  refine Runs.iadd (z := (Int32.ofNat (o + (max m p)))) i21_6 (own_add (a := o) (b := (max m p)) (by omega)) ?_
  refine Runs.istoreN (ls' := #[.val (.int (Int32.ofNat o)), .val (.int (Int32.ofNat m)), .val (.int (Int32.ofNat p)), .val (.int (Int32.ofNat (o + (max m p))))]) i21_7 rfl ?_
  refine Runs.iconst (v := (0 : Int32)) i21_8 (by decide) ?_
  refine Runs.iloadN i21_9 rfl ?_
  refine Runs.icN i21_10 (tlt (own_lt (a := 0) (b := (o + (max m p))) (by omega) (by omega))).2.1 ?_
  refine Runs.iloadN i21_13 rfl ?_
  refine Runs.ldcI i21_14 (w126 hw) ?_
  refine Runs.icN i21_16 (flt (own_nlt (a := 2147483639) (b := (o + (max m p))) (by omega) (by omega))).2.2.1 ?_
  refine Runs.iloadN i21_19 rfl ?_
  exact Runs.retI (z := (Int32.ofNat (o + (max m p)))) i21_20 rfl (Or.inl rfl) rfl (by decide) (by decide) ⟨rfl, rfl, rfl⟩
set_option maxRecDepth 65536 in
set_option maxHeartbeats 4000000 in
theorem own_nc (l : Launch) (Z : State) (a0 : Array Value) (hw : Wds Z a0) (n0 : Nat) (a t : Addr) (k : ClassId) (cap : Nat) (xs : List Int32) (h0 : Heap) (B0 : SBd Z h0 a t k cap xs) (N : Nat) (hN : cap < N ∧ N < 1000000) : Con 2 l Z [("com/example/record_guard/recordguard/conflict/SerializationFailureException", 27), ("com/example/record_guard/recordguard/conflict/SerializationFailureException", 30), ("java/lang/String", 7)] n0 (⟨"java/lang/AbstractStringBuilder", "newCapacity", "(I)I"⟩ : MethodName) jdk_68_method_10_code 6 (some .int) ({ frames := 2, cells := 0, slots := 0, locals := 32 } : Room) #[(.ref a), (.int (Int32.ofNat N))] [] h0 (fun v h D' => v = some (.int (Int32.ofNat (cap + max (N - cap) (cap + 2)))) ∧ h0 = h ∧ D' = []) := by
  refine Con.of_runs (ls := #[.val (.ref a), .val (.int (Int32.ofNat N)), .unset, .unset, .unset, .unset]) (by decide +kernel) (ef rfl rfl) ?_
  obtain ⟨BO, BA, BE, BL, hle, hcap⟩ := id B0
  refine Runs.aloadN i20_0 rfl rfl ?_
  refine Runs.getF i20_1 (host := "") (Or.inl (w61 hw)) Via.refl (BO.fld (i := 0) rfl) ?_
  refine Runs.arrlen i20_4 BA ?_
  refine Runs.istoreN (ls' := #[.val (.ref a), .val (.int (Int32.ofNat N)), .val (.int (Int32.ofNat cap)), .unset, .unset, .unset]) i20_5 rfl ?_
  refine Runs.iloadN i20_6 rfl ?_
  refine Runs.aloadN i20_7 rfl rfl ?_
  refine Runs.getF i20_8 (host := "") (Or.inl (w63 hw)) Via.refl (BO.fld (i := 1) rfl) ?_
  refine Runs.ishl (z := (Int32.ofNat N)) i20_11 (own_shl0 _) ?_
  refine Runs.istoreN (ls' := #[.val (.ref a), .val (.int (Int32.ofNat N)), .val (.int (Int32.ofNat cap)), .val (.int (Int32.ofNat N)), .unset, .unset]) i20_12 rfl ?_
  refine Runs.iloadN i20_13 rfl ?_
  refine Runs.iloadN i20_14 rfl ?_
  refine Runs.isub (z := (Int32.ofNat (N - cap))) i20_15 (own_sub (a := N) (b := cap) (by omega) (by omega)) ?_
  refine Runs.istore (ls' := #[.val (.ref a), .val (.int (Int32.ofNat N)), .val (.int (Int32.ofNat cap)), .val (.int (Int32.ofNat N)), .val (.int (Int32.ofNat (N - cap))), .unset]) i20_16 rfl ?_
  refine Runs.iloadN i20_18 rfl ?_
  refine Runs.iload i20_19 rfl ?_
  refine Runs.iloadN i20_21 rfl ?_
  refine Runs.iconst (v := (2 : Int32)) i20_22 (by decide) ?_
  refine Runs.aloadN i20_23 rfl rfl ?_
  refine Runs.getF i20_24 (host := "") (Or.inl (w63 hw)) Via.refl (BO.fld (i := 1) rfl) ?_
  refine Runs.ishl (z := (2 : Int32)) i20_27 (own_shl0 _) ?_
  refine Runs.iadd (z := (Int32.ofNat (cap + 2))) i20_28 (own_add (a := cap) (b := 2) (by omega)) ?_
  refine Runs.callSW (argsL := [(.int (Int32.ofNat cap)), (.int (Int32.ofNat (N - cap))), (.int (Int32.ofNat (cap + 2)))]) (rest := []) (W := 0) i20_29 (w118 hw) (w119 hw) (w120 hw) (w121 hw) (by decide) pd_13 rfl rfl rfl rfl (by decide) (by decide) (by decide) (by decide) all0 (by decide) (own_nl l Z a0 hw n0 cap (N - cap) (cap + 2) (by omega) (by omega) (by omega) _) ?_
  intro v h1 D1 q hsz
  obtain ⟨rfl, rfl, rfl⟩ := q
  show Runs 2 l Z [("com/example/record_guard/recordguard/conflict/SerializationFailureException", 27), ("com/example/record_guard/recordguard/conflict/SerializationFailureException", 30), ("java/lang/String", 7)] n0 _ _ _ _ _ _ _ [] h0 0 0 32 #[.val (.ref a), .val (.int (Int32.ofNat N)), .val (.int (Int32.ofNat cap)), .val (.int (Int32.ofNat N)), .val (.int (Int32.ofNat (N - cap))), .unset] [(.int (Int32.ofNat (cap + max (N - cap) (cap + 2))))]
  refine Runs.istore (ls' := #[.val (.ref a), .val (.int (Int32.ofNat N)), .val (.int (Int32.ofNat cap)), .val (.int (Int32.ofNat N)), .val (.int (Int32.ofNat (N - cap))), .val (.int (Int32.ofNat (cap + max (N - cap) (cap + 2))))]) i20_32 rfl ?_
  refine Runs.iload i20_34 rfl ?_
  refine Runs.ldcI i20_36 (w127 hw) ?_
  refine Runs.icY (t := 51) i20_38 (by decide) (feq (fun q => absurd ((own_inj (a := (cap + max (N - cap) (cap + 2))) (b := 2147483647) (by omega) (by omega)).mp q) (by omega))).2 ?_
  refine Runs.iload i20_51 rfl ?_
  refine Runs.aloadN i20_53 rfl rfl ?_
  refine Runs.getF i20_54 (host := "") (Or.inl (w63 hw)) Via.refl (BO.fld (i := 1) rfl) ?_
  refine Runs.ishr (z := (Int32.ofNat (cap + max (N - cap) (cap + 2)))) i20_57 (own_shr0 _) ?_
  exact Runs.retI (z := (Int32.ofNat (cap + max (N - cap) (cap + 2)))) i20_58 rfl (Or.inl rfl) rfl (by decide) (by decide) ⟨rfl, rfl, rfl⟩
set_option maxRecDepth 65536 in
set_option maxHeartbeats 4000000 in
theorem own_min (l : Launch) (Z : State) (a0 : Array Value) (hw : Wds Z a0) (n0 : Nat) (a b : Nat) (ha : a < 2147483648) (hb : b < 2147483648) (h0 : Heap) : Con 2 l Z [("com/example/record_guard/recordguard/conflict/SerializationFailureException", 27), ("com/example/record_guard/recordguard/conflict/SerializationFailureException", 30), ("java/lang/String", 7)] n0 (⟨"java/lang/Math", "min", "(II)I"⟩ : MethodName) jdk_29_method_69_code 2 (some .int) ({ frames := 0, cells := 0, slots := 0, locals := 0 } : Room) #[(.int (Int32.ofNat a)), (.int (Int32.ofNat b))] [] h0 (fun v h D' => v = some (.int (Int32.ofNat (min a b))) ∧ h0 = h ∧ D' = []) := by
  refine Con.of_runs (ls := #[.val (.int (Int32.ofNat a)), .val (.int (Int32.ofNat b))]) (Jvm.Free.JP.mathPlain rfl (by decide +kernel)) (ef rfl rfl) ?_
  refine Runs.iloadN i24_0 rfl ?_
  refine Runs.iloadN i24_1 rfl ?_
  by_cases hc2 : (Int32.ofNat b) < (Int32.ofNat a)
  · refine Runs.icY (t := 9) i24_2 (by decide) (tlt hc2).2.2.1 ?_
    refine Runs.iloadN i24_9 rfl ?_
    exact Runs.retI (z := (Int32.ofNat b)) i24_10 rfl (Or.inl rfl) rfl (by decide) (by decide) ⟨by rw [own_ltI (by omega) (by omega)] at hc2; congr 3; omega, rfl, rfl⟩
  · refine Runs.icN i24_2 (flt hc2).2.2.1 ?_
    refine Runs.iloadN i24_5 rfl ?_
    refine Runs.goto (t := 10) i24_6 (by decide) ?_
    exact Runs.retI (z := (Int32.ofNat a)) i24_10 rfl (Or.inl rfl) rfl (by decide) (by decide) ⟨by rw [own_ltI (by omega) (by omega)] at hc2; congr 3; omega, rfl, rfl⟩
set_option maxRecDepth 65536 in
set_option maxHeartbeats 4000000 in
theorem own_cpo (l : Launch) (Z : State) (a0 : Array Value) (hw : Wds Z a0) (n0 : Nat) (t : Addr) (k : ClassId) (c n NS : Nat) (vs : List Value) (hv : vs.length ≤ c) (hn : c < n) (hNS : n ≤ NS ∧ NS < 10000000) (h0 : Heap) (T0 : Arv Z h0 t k .byte (Int32.ofNat c) vs (.int 0)) : Con 2 l Z [("com/example/record_guard/recordguard/conflict/SerializationFailureException", 27), ("com/example/record_guard/recordguard/conflict/SerializationFailureException", 30), ("java/lang/String", 7)] n0 (⟨"java/util/Arrays", "copyOf", "([BI)[B"⟩ : MethodName) jdk_65_method_121_code 3 (some (.array .byte)) ({ frames := 1, cells := 1, slots := NS, locals := 38 } : Room) #[(.ref t), (.int (Int32.ofNat n))] [] h0 (fun v h D' => ∃ b k', v = some (.ref b) ∧ h0.size ≤ b ∧ Keep h0 h [] ∧ Arv Z h b k' .byte (Int32.ofNat n) vs (.int 0) ∧ Exa Z h b "[B" ∧ D' = [b]) := by
  refine Con.of_runs (ls := #[.val (.ref t), .val (.int (Int32.ofNat n)), .unset]) (by decide +kernel) (ef rfl rfl) ?_
  refine Runs.iloadN i23_0 rfl ?_
  refine Runs.aloadN i23_1 rfl rfl ?_
  refine Runs.arrlen i23_2 T0 ?_
  refine Runs.icY (t := 14) i23_3 (by decide) (feq (fun q => absurd ((own_inj (a := n) (b := c) (by omega) (by omega)).mp q) (by omega))).2 ?_
  refine Runs.iloadN i23_14 rfl ?_
  refine Runs.newP (cap := NS) (ad := "[B") i23_15 (w19 hw) (own_nn (by omega)) (by rw [own_cl (n := n) (by omega)]; omega) (by omega) (by dsimp only; decide) (by first | decide | (dsimp only; first | decide | omega)) rfl ?_
  intro h_1 b_2 k_3 g_6 ge_7 K_4 (A_5 : Arv Z h_1 b_2 k_3 .byte (Int32.ofNat n) [] (.int 0)) E_8
  refine Runs.astoreN (ls' := #[.val (.ref t), .val (.int (Int32.ofNat n)), .val (.ref b_2)]) i23_17 rfl rfl ?_
  refine Runs.aloadN i23_18 rfl rfl ?_
  refine Runs.iconst (v := (0 : Int32)) i23_19 (by decide) ?_
  refine Runs.aloadN i23_20 rfl rfl ?_
  refine Runs.iconst (v := (0 : Int32)) i23_21 (by decide) ?_
  refine Runs.aloadN i23_22 rfl rfl ?_
  have A_9 := (T0.keep K_4 nin0)
  refine Runs.arrlen i23_23 A_9 ?_
  refine Runs.iloadN i23_24 rfl ?_
  refine Runs.callSW (argsL := [(.int (Int32.ofNat c)), (.int (Int32.ofNat n))]) (rest := [(.int (0 : Int32)), (.ref b_2), (.int (0 : Int32)), (.ref t)]) (W := 4) i23_25 (w132 hw) (w133 hw) (w124 hw) (w134 hw) (by decide) pd_12 rfl rfl rfl rfl (by first | decide | (dsimp only; first | decide | omega)) (by first | decide | (dsimp only; first | decide | omega)) (by first | decide | (dsimp only; first | decide | omega)) (by first | decide | (dsimp only; first | decide | omega)) all0 (by decide) (own_min l Z a0 hw n0 c n (by omega) (by omega) _) ?_
  rw [show min c n = c by omega]
  intro v h1 D1 q hsz
  obtain ⟨rfl, rfl, rfl⟩ := q
  show Runs 2 l Z [("com/example/record_guard/recordguard/conflict/SerializationFailureException", 27), ("com/example/record_guard/recordguard/conflict/SerializationFailureException", 30), ("java/lang/String", 7)] n0 _ _ _ _ _ _ _ [b_2] h_1 1 (0 + NS) 28 #[.val (.ref t), .val (.int (Int32.ofNat n)), .val (.ref b_2)] [(.int (Int32.ofNat c)), (.int (0 : Int32)), (.ref b_2), (.int (0 : Int32)), (.ref t)]
  have A_10 : Arv Z h_1 b_2 k_3 .byte (Int32.ofNat n) (List.replicate n (.int 0)) (.int 0) := A_5.pad (pad_rep [] (.int 0) n)
  refine Runs.acopy (W := 0) (us := ((List.range c).map fun i => vs.getD (0 + i) (.int 0))) i23_28 (w135 hw) (w111 hw) (w109 hw) (w110 hw) A_9 A_10 rfl (by decide) (by decide) (own_nn (by omega)) (by rw [own_cl (n := c) (by omega)]; exact Nat.le_of_eq (Nat.zero_add _)) (by rw [own_cl (n := c) (by omega), own_cl (n := n) (by omega)]; show 0 + c ≤ n; omega) (by rw [own_cl (n := c) (by omega)]; rfl) (by rw [own_cl (n := c) (by omega)]; show 0 + c ≤ _; rw [List.length_replicate]; omega) ge_7 (Or.inl (List.mem_of_getElem? (i := 0) rfl)) rfl (by first | decide | (dsimp only; first | decide | omega)) rfl (by first | decide | (dsimp only; first | decide | omega)) ?_
  intro h_11 K_12 A_13
  have A_14 : Arv Z h_11 b_2 k_3 .byte (Int32.ofNat n) vs (.int 0) := A_13.pad (fun i => by rw [own_cl (n := c) (by omega)]; exact (own_copy vs (.int 0) n c hv (by omega) i).symm)
  refine Runs.aloadN i23_31 rfl rfl ?_
  exact Runs.retA i23_32 rfl rfl rfl (by first | decide | (dsimp only; first | decide | omega)) (by first | decide | (dsimp only; first | decide | omega)) ⟨b_2, k_3, rfl, g_6, (((Keep.refl _ _).trans K_4 all0).trans K_12 (allS (Or.inr (Nat.le_trans (Nat.le_refl _) g_6)) all0)), A_14, (E_8.keep K_12), rfl⟩
set_option maxRecDepth 65536 in
set_option maxHeartbeats 4000000 in
theorem own_ecg (l : Launch) (Z : State) (a0 : Array Value) (hw : Wds Z a0) (n0 : Nat) (a t : Addr) (k : ClassId) (cap : Nat) (xs : List Int32) (h0 : Heap) (B0 : SBd Z h0 a t k cap xs) (N NS : Nat) (hN : cap < N ∧ N < 400000) (hNS : cap + max (N - cap) (cap + 2) ≤ NS ∧ NS < 1000000) (ga : n0 ≤ a) : Con 2 l Z [("com/example/record_guard/recordguard/conflict/SerializationFailureException", 27), ("com/example/record_guard/recordguard/conflict/SerializationFailureException", 30), ("java/lang/String", 7)] n0 (⟨"java/lang/AbstractStringBuilder", "ensureCapacityInternal", "(I)V"⟩ : MethodName) jdk_68_method_9_code 3 none ({ frames := 3, cells := 1, slots := NS, locals := 58 } : Room) #[(.ref a), (.int (Int32.ofNat N))] [] h0 (fun v h D' => v = none ∧ ∃ t' k', h0.size ≤ t' ∧ Keep h0 h [a] ∧ SBd Z h a t' k' (cap + max (N - cap) (cap + 2)) xs ∧ D' = [t']) := by
  refine Con.of_runs (ls := #[.val (.ref a), .val (.int (Int32.ofNat N)), .unset]) (by decide +kernel) (ef rfl rfl) ?_
  obtain ⟨BO, BA, BE, BL, hle, hcap⟩ := id B0
  refine Runs.aloadN i16_0 rfl rfl ?_
  refine Runs.getF i16_1 (host := "") (Or.inl (w61 hw)) Via.refl (BO.fld (i := 0) rfl) ?_
  refine Runs.arrlen i16_4 BA ?_
  refine Runs.aloadN i16_5 rfl rfl ?_
  refine Runs.getF i16_6 (host := "") (Or.inl (w63 hw)) Via.refl (BO.fld (i := 1) rfl) ?_
  refine Runs.ishr (z := (Int32.ofNat cap)) i16_9 (own_shr0 _) ?_
  refine Runs.istoreN (ls' := #[.val (.ref a), .val (.int (Int32.ofNat N)), .val (.int (Int32.ofNat cap))]) i16_10 rfl ?_
  refine Runs.iloadN i16_11 rfl ?_
  refine Runs.iloadN i16_12 rfl ?_
  refine Runs.isub (z := (Int32.ofNat (N - cap))) i16_13 (own_sub (a := N) (b := cap) (by omega) (by omega)) ?_
  refine Runs.ifN i16_14 (tlt (own_lt (a := 0) (b := N - cap) (by omega) (by omega))).2.2.2 ?_
  refine Runs.aloadN i16_17 rfl rfl ?_
  refine Runs.aloadN i16_18 rfl rfl ?_
  refine Runs.getF i16_19 (host := "") (Or.inl (w61 hw)) Via.refl (BO.fld (i := 0) rfl) ?_
  refine Runs.aloadN i16_22 rfl rfl ?_
  refine Runs.iloadN i16_23 rfl ?_
  refine Runs.callVW (argsL := [(.int (Int32.ofNat N))]) (rest := [(.ref t), (.ref a)]) (W := 2) i16_24 (w113 hw) (declares_of (w114 hw) (w117 hw)) (fun s hZ => notFace_of_selects (args := #[]) (mvT hZ (w116 hw))) (w116 hw) (w114 hw) (w117 hw) (w57 hw) (by decide) BO.1 pd_14 rfl rfl rfl rfl (by first | decide | (dsimp only; first | decide | omega)) (by first | decide | (dsimp only; first | decide | omega)) (by first | decide | (dsimp only; first | decide | omega)) (by first | decide | (dsimp only; first | decide | omega)) all0 (by decide) (own_nc l Z a0 hw n0 a t k cap xs _ B0 N (by omega)) ?_
  intro v h1 D1 q hsz
  obtain ⟨rfl, rfl, rfl⟩ := q
  show Runs 2 l Z [("com/example/record_guard/recordguard/conflict/SerializationFailureException", 27), ("com/example/record_guard/recordguard/conflict/SerializationFailureException", 30), ("java/lang/String", 7)] n0 _ _ _ _ _ _ _ [] h0 0 0 27 #[.val (.ref a), .val (.int (Int32.ofNat N)), .val (.int (Int32.ofNat cap))] [(.int (Int32.ofNat (cap + max (N - cap) (cap + 2)))), (.ref t), (.ref a)]
  refine Runs.aloadN i16_27 rfl rfl ?_
  refine Runs.getF i16_28 (host := "") (Or.inl (w63 hw)) Via.refl (BO.fld (i := 1) rfl) ?_
  refine Runs.ishl (z := (Int32.ofNat (cap + max (N - cap) (cap + 2)))) i16_31 (own_shl0 _) ?_
  refine Runs.callSW (argsL := [(.ref t), (.int (Int32.ofNat (cap + max (N - cap) (cap + 2))))]) (rest := [(.ref a)]) (W := 1) i16_32 (w128 hw) (w129 hw) (w130 hw) (w131 hw) (by decide) pd_15 rfl rfl rfl rfl (by first | decide | (dsimp only; first | decide | omega)) (by first | decide | (dsimp only; first | decide | omega)) (by first | decide | (dsimp only; first | decide | omega)) (by first | decide | (dsimp only; first | decide | omega)) all0 (by decide) (own_cpo l Z a0 hw n0 t k cap (cap + max (N - cap) (cap + 2)) NS (xs.map own_b) (by rw [List.length_map]; omega) (by omega) (by omega) _ BA) ?_
  intro v h_7 D1 q hsz
  obtain ⟨b_1, k_2, rfl, g_3, K_4, A_5, E_6, rfl⟩ := q
  show Runs 2 l Z [("com/example/record_guard/recordguard/conflict/SerializationFailureException", 27), ("com/example/record_guard/recordguard/conflict/SerializationFailureException", 30), ("java/lang/String", 7)] n0 _ _ _ _ _ _ _ [b_1] h_7 1 (0 + NS) 35 #[.val (.ref a), .val (.int (Int32.ofNat N)), .val (.int (Int32.ofNat cap))] [(.ref b_1), (.ref a)]
  have O_8 := (BO.keep K_4 nin0)
  refine Runs.putF (i := 0) (ty := (.array .byte)) i16_35 (host := "") (Or.inl (w61 hw)) Via.refl O_8 rfl (lay_2 hw) rfl (Or.inl (w62 hw)) (w48 hw) (by decide) rfl rfl ga (Or.inr ⟨by decide, by decide⟩) ?_
  intro h_9 K_10 (O_11 : Obj Z h_9 a "java/lang/StringBuilder" [("java/lang/AbstractStringBuilder", "value", "[B", (.ref b_1)), ("java/lang/AbstractStringBuilder", "coder", "B", (.int (0 : Int32))), ("java/lang/AbstractStringBuilder", "count", "I", (.int (Int32.ofNat xs.length)))])
  exact Runs.retV i16_38 rfl (by first | decide | (dsimp only; first | decide | omega)) (by first | decide | (dsimp only; first | decide | omega)) ⟨rfl, b_1, k_2, g_3, (((Keep.refl _ _).trans K_4 all0).trans K_10 (allS (Or.inl (List.mem_of_getElem? (i := 0) rfl)) all0)), ⟨O_11, (A_5.keep K_10 (ninS (Nat.ne_of_gt (Nat.lt_of_lt_of_le (Nat.lt_of_lt_of_le BO.lt (Nat.le_refl _)) g_3)) nin0)), (E_6.keep K_10), BL, by omega, by omega⟩, rfl⟩
set_option maxRecDepth 65536 in
set_option maxHeartbeats 4000000 in
theorem own_ap1g (l : Launch) (Z : State) (a0 : Array Value) (hw : Wds Z a0) (n0 : Nat) (a t : Addr) (k : ClassId) (cap : Nat) (xs : List Int32) (h0 : Heap) (B0 : SBd Z h0 a t k cap xs) (s u : Addr) (k2 : ClassId) (ys : List Int32) (S0 : Str Z h0 s u k2 ys) (NS : Nat) (hfit : cap < xs.length + ys.length ∧ xs.length + ys.length < 400000) (hNS : (cap + max (xs.length + ys.length - cap) (cap + 2)) ≤ NS ∧ NS < 1000000) (hn0 : n0 ≤ h0.size) (ga : n0 ≤ a) (cpt : Int32) (S_C : Sta Z Z.heap "java/lang/String" "COMPACT_STRINGS" "Z" (.int cpt)) (hcpt : ¬ cpt = 0) : Con 2 l Z [("com/example/record_guard/recordguard/conflict/SerializationFailureException", 27), ("com/example/record_guard/recordguard/conflict/SerializationFailureException", 30), ("java/lang/String", 7)] n0 (⟨"java/lang/AbstractStringBuilder", "append", "(Ljava/lang/String;)Ljava/lang/AbstractStringBuilder;"⟩ : MethodName) jdk_68_method_22_code 3 (some (.object "java/lang/AbstractStringBuilder")) ({ frames := 4, cells := 1, slots := NS, locals := 73 } : Room) #[(.ref a), (.ref s)] [] h0 (fun v h D' => v = some (.ref a) ∧ ∃ t' k', h0.size ≤ t' ∧ Keep h0 h [a] ∧ SBd Z h a t' k' (cap + max (xs.length + ys.length - cap) (cap + 2)) (xs ++ ys) ∧ D' = [t']) := by
  refine Con.of_runs (ls := #[.val (.ref a), .val (.ref s), .unset]) (by decide +kernel) (ef rfl rfl) ?_
  obtain ⟨BO, BA, BE, BL, hle, hcap⟩ := id B0
  have hys := S0.2.2.2
  have hsa : s ≠ a := Exa.ne S0.1.1 BO.1 (by decide)
  have hua : u ≠ a := Ne.symm (Exa.neArv BO.1 S0.2.1 (w48 hw))
  refine Runs.aloadN i13_0 rfl rfl ?_
  refine Runs.nnullY (t := 9) i13_1 (by decide) ?_
  refine Runs.aloadN i13_9 rfl rfl ?_
  refine Runs.callVW (argsL := []) (rest := []) (W := 0) i13_10 (w75 hw) (w76 hw) (fun s hZ => notFace_of_selects (args := #[]) (mvT hZ (w78 hw))) (w78 hw) (w77 hw) (w79 hw) (w6 hw) (by decide) S0.1.1 pd_9 rfl rfl rfl rfl (by first | decide | (dsimp only; first | decide | omega)) (by first | decide | (dsimp only; first | decide | omega)) (by first | decide | (dsimp only; first | decide | omega)) (by first | decide | (dsimp only; first | decide | omega)) all0 (by decide) (own_len l Z a0 hw n0 s u k2 ys _ S0 cpt S_C hcpt) ?_
  intro v h1 D1 q hsz
  obtain ⟨rfl, rfl, rfl⟩ := q
  show Runs 2 l Z [("com/example/record_guard/recordguard/conflict/SerializationFailureException", 27), ("com/example/record_guard/recordguard/conflict/SerializationFailureException", 30), ("java/lang/String", 7)] n0 _ _ _ _ _ _ _ [] h0 0 0 13 #[.val (.ref a), .val (.ref s), .unset] [(.int (Int32.ofNat ys.length))]
  refine Runs.istoreN (ls' := #[.val (.ref a), .val (.ref s), .val (.int (Int32.ofNat ys.length))]) i13_13 rfl ?_
  refine Runs.aloadN i13_14 rfl rfl ?_
  refine Runs.aloadN i13_15 rfl rfl ?_
  refine Runs.getF i13_16 (host := "") (Or.inl (w85 hw)) Via.refl (BO.fld (i := 2) rfl) ?_
  refine Runs.iloadN i13_19 rfl ?_
  refine Runs.iadd (z := (Int32.ofNat (xs.length + ys.length))) i13_20 (own_add (a := xs.length) (b := ys.length) (by omega)) ?_
  refine Runs.callVW (argsL := [(.int (Int32.ofNat (xs.length + ys.length)))]) (rest := []) (W := 0) i13_21 (w87 hw) (declares_of (w88 hw) (w91 hw)) (fun s hZ => notFace_of_selects (args := #[]) (mvT hZ (w90 hw))) (w90 hw) (w88 hw) (w91 hw) (w57 hw) (by decide) BO.1 pd_6 rfl rfl rfl rfl (by first | decide | (dsimp only; first | decide | omega)) (by first | decide | (dsimp only; first | decide | omega)) (by first | decide | (dsimp only; first | decide | omega)) (by first | decide | (dsimp only; first | decide | omega)) all0 (by decide) (own_ecg l Z a0 hw n0 a t k cap xs _ B0 (xs.length + ys.length) NS (by omega) hNS ga) ?_
  intro v h_6 D1 q hsz
  obtain ⟨rfl, t_1, k_2, g_3, K_4, B_5, rfl⟩ := q
  show Runs 2 l Z [("com/example/record_guard/recordguard/conflict/SerializationFailureException", 27), ("com/example/record_guard/recordguard/conflict/SerializationFailureException", 30), ("java/lang/String", 7)] n0 _ _ _ _ _ _ _ [t_1] h_6 1 (0 + NS) 24 #[.val (.ref a), .val (.ref s), .val (.int (Int32.ofNat ys.length))] []
  have ge_t_1 : n0 ≤ t_1 := Nat.le_trans hn0 g_3
  have S_7 := S0.keep K_4 (ninS hsa nin0) (ninS hua nin0)
  refine Runs.aloadN i13_24 rfl rfl ?_
  refine Runs.aloadN i13_25 rfl rfl ?_
  refine Runs.getF i13_26 (host := "") (Or.inl (w85 hw)) Via.refl (B_5.1.fld (i := 2) rfl) ?_
  refine Runs.aloadN i13_29 rfl rfl ?_
  refine Runs.callVW (argsL := [(.int (Int32.ofNat xs.length)), (.ref s)]) (rest := []) (W := 0) i13_30 (w92 hw) (declares_of (w93 hw) (w96 hw)) (fun s hZ => notFace_of_selects (args := #[]) (mvT hZ (w95 hw))) (w95 hw) (w93 hw) (w96 hw) (w57 hw) (by decide) B_5.1.1 pd_10 rfl rfl rfl rfl (by first | decide | (dsimp only; first | decide | omega)) (by first | decide | (dsimp only; first | decide | omega)) (by first | decide | (dsimp only; first | decide | omega)) (by first | decide | (dsimp only; first | decide | omega)) (allS (List.mem_of_getElem? (i := 0) rfl) all0) (by decide) (own_psa l Z a0 hw n0 a t_1 k_2 (cap + max (xs.length + ys.length - cap) (cap + 2)) xs _ B_5 s u k2 ys S_7 (by omega) ge_t_1 cpt S_C hcpt) ?_
  intro v h_8 D1 q hsz
  obtain ⟨rfl, K_9, A_10, rfl⟩ := q
  show Runs 2 l Z [("com/example/record_guard/recordguard/conflict/SerializationFailureException", 27), ("com/example/record_guard/recordguard/conflict/SerializationFailureException", 30), ("java/lang/String", 7)] n0 _ _ _ _ _ _ _ [t_1] h_8 1 (0 + NS) 33 #[.val (.ref a), .val (.ref s), .val (.int (Int32.ofNat ys.length))] []
  refine Runs.aloadN i13_33 rfl rfl ?_
  refine Runs.dup i13_34 rfl ?_
  have O_11 := (B_5.1.keep K_9 (ninS (Nat.ne_of_lt (Nat.lt_of_lt_of_le (Nat.lt_of_lt_of_le BO.lt (Nat.le_refl _)) g_3)) nin0))
  refine Runs.getF i13_35 (host := "") (Or.inl (w85 hw)) Via.refl (O_11.fld (i := 2) rfl) ?_
  refine Runs.iloadN i13_38 rfl ?_
  refine Runs.iadd (z := (Int32.ofNat (xs.length + ys.length))) i13_39 (own_add (a := xs.length) (b := ys.length) (by omega)) ?_
  refine Runs.putF (i := 2) (ty := .int) i13_40 (host := "") (Or.inl (w85 hw)) Via.refl O_11 rfl (lay_2 hw) rfl (Or.inl (w86 hw)) (w48 hw) (by decide) rfl rfl ga (Or.inr ⟨by decide, by decide⟩) ?_
  intro h_12 K_13 (O_14 : Obj Z h_12 a "java/lang/StringBuilder" [("java/lang/AbstractStringBuilder", "value", "[B", (.ref t_1)), ("java/lang/AbstractStringBuilder", "coder", "B", (.int (0 : Int32))), ("java/lang/AbstractStringBuilder", "count", "I", (.int (Int32.ofNat (xs.length + ys.length))))])
  refine Runs.aloadN i13_43 rfl rfl ?_
  have A_15 := (A_10.keep K_13 (ninS (Nat.ne_of_gt (Nat.lt_of_lt_of_le (Nat.lt_of_lt_of_le BO.lt (Nat.le_refl _)) g_3)) nin0))
  exact Runs.retA i13_44 rfl rfl rfl (by first | decide | (dsimp only; first | decide | omega)) (by first | decide | (dsimp only; first | decide | omega)) ⟨rfl, t_1, k_2, g_3, ((((Keep.refl _ _).trans K_4 (allS (Or.inl (List.mem_of_getElem? (i := 0) rfl)) all0)).trans K_9 (allS (Or.inr (Nat.le_trans (Nat.le_refl _) g_3)) all0)).trans K_13 (allS (Or.inl (List.mem_of_getElem? (i := 0) rfl)) all0)), ⟨by rw [List.length_append]; exact O_14, A_15, ((B_5.2.2.1.keep K_9).keep K_13), own_lat_app BL S0.2.2.1, by rw [List.length_append]; omega, by omega⟩, rfl⟩
set_option maxRecDepth 65536 in
set_option maxHeartbeats 4000000 in
theorem own_apg (l : Launch) (Z : State) (a0 : Array Value) (hw : Wds Z a0) (n0 : Nat) (a t : Addr) (k : ClassId) (cap : Nat) (xs : List Int32) (h0 : Heap) (B0 : SBd Z h0 a t k cap xs) (s u : Addr) (k2 : ClassId) (ys : List Int32) (S0 : Str Z h0 s u k2 ys) (NS : Nat) (hfit : cap < xs.length + ys.length ∧ xs.length + ys.length < 400000) (hNS : (cap + max (xs.length + ys.length - cap) (cap + 2)) ≤ NS ∧ NS < 1000000) (hn0 : n0 ≤ h0.size) (ga : n0 ≤ a) (cpt : Int32) (S_C : Sta Z Z.heap "java/lang/String" "COMPACT_STRINGS" "Z" (.int cpt)) (hcpt : ¬ cpt = 0) : Con 2 l Z [("com/example/record_guard/recordguard/conflict/SerializationFailureException", 27), ("com/example/record_guard/recordguard/conflict/SerializationFailureException", 30), ("java/lang/String", 7)] n0 (⟨"java/lang/StringBuilder", "append", "(Ljava/lang/String;)Ljava/lang/StringBuilder;"⟩ : MethodName) jdk_67_method_7_code 2 (some (.object "java/lang/StringBuilder")) ({ frames := 5, cells := 1, slots := NS, locals := 87 } : Room) #[(.ref a), (.ref s)] [] h0 (fun v h D' => v = some (.ref a) ∧ ∃ t' k', h0.size ≤ t' ∧ Keep h0 h [a] ∧ SBd Z h a t' k' (cap + max (xs.length + ys.length - cap) (cap + 2)) (xs ++ ys) ∧ D' = [t']) := by
  refine Con.of_runs (ls := #[.val (.ref a), .val (.ref s)]) (by decide +kernel) (ef rfl rfl) ?_
  obtain ⟨BO, BA, BE, BL, hle, hcap⟩ := id B0
  refine Runs.aloadN i12_0 rfl rfl ?_
  refine Runs.aloadN i12_1 rfl rfl ?_
  refine Runs.callUW (argsL := [(.ref s)]) (rest := []) (W := 0) i12_2 (w70 hw) (same_of (w73 hw) (nf_same (notFace_of_selects (w90 hw)) (w88 hw) rfl) (by decide)) (w71 hw) (w72 hw) (w74 hw) (w57 hw) (by decide) BO.1 pd_11 rfl rfl rfl rfl (by first | decide | (dsimp only; first | decide | omega)) (by first | decide | (dsimp only; first | decide | omega)) (by first | decide | (dsimp only; first | decide | omega)) (by first | decide | (dsimp only; first | decide | omega)) all0 (by decide) (own_ap1g l Z a0 hw n0 a t k cap xs _ B0 s u k2 ys S0 NS hfit hNS hn0 ga cpt S_C hcpt) ?_
  intro v h1 D1 q hsz
  obtain ⟨rfl, t1, k1, g1, K1, B1, rfl⟩ := q
  show Runs 2 l Z [("com/example/record_guard/recordguard/conflict/SerializationFailureException", 27), ("com/example/record_guard/recordguard/conflict/SerializationFailureException", 30), ("java/lang/String", 7)] n0 _ _ _ _ _ _ _ [t1] h1 1 (0 + NS) 5 #[.val (.ref a), .val (.ref s)] [(.ref a)]
  refine Runs.pop i12_5 rfl ?_
  refine Runs.aloadN i12_6 rfl rfl ?_
  exact Runs.retA i12_7 rfl rfl rfl (by first | decide | (dsimp only; first | decide | omega)) (by first | decide | (dsimp only; first | decide | omega)) ⟨rfl, t1, k1, g1, K1, B1, rfl⟩
set_option maxRecDepth 65536 in
set_option maxHeartbeats 4000000 in
theorem own_bgv (l : Launch) (Z : State) (a0 : Array Value) (hw : Wds Z a0) (n0 : Nat) (a t : Addr) (k : ClassId) (cap : Nat) (xs : List Int32) (h0 : Heap) (B0 : SBd Z h0 a t k cap xs) (cpt : Int32) (S_C : Sta Z Z.heap "java/lang/String" "COMPACT_STRINGS" "Z" (.int cpt)) (hcpt : ¬ cpt = 0) : Con 2 l Z [("com/example/record_guard/recordguard/conflict/SerializationFailureException", 27), ("com/example/record_guard/recordguard/conflict/SerializationFailureException", 30), ("java/lang/String", 7)] n0 (⟨"java/lang/AbstractStringBuilder", "getValue", "()[B"⟩ : MethodName) jdk_68_method_64_code 1 (some (.array .byte)) ({ frames := 0, cells := 0, slots := 0, locals := 0 } : Room) #[(.ref a)] [] h0 (fun v h D' => v = some (.ref t) ∧ h0 = h ∧ D' = []) := by
  refine Con.of_runs (ls := #[.val (.ref a)]) (by decide +kernel) (ef rfl rfl) ?_
  obtain ⟨BO, BA, BE, BL, hle, hcap⟩ := id B0
  refine Runs.aloadN i28_0 rfl rfl ?_
  refine Runs.getF i28_1 (host := "") (Or.inl (w61 hw)) Via.refl (BO.fld (i := 0) rfl) ?_
  exact Runs.retA i28_4 rfl rfl rfl (by decide) (by decide) ⟨rfl, rfl, rfl⟩
set_option maxRecDepth 65536 in
set_option maxHeartbeats 4000000 in
theorem own_bln (l : Launch) (Z : State) (a0 : Array Value) (hw : Wds Z a0) (n0 : Nat) (a t : Addr) (k : ClassId) (cap : Nat) (xs : List Int32) (h0 : Heap) (B0 : SBd Z h0 a t k cap xs) (cpt : Int32) (S_C : Sta Z Z.heap "java/lang/String" "COMPACT_STRINGS" "Z" (.int cpt)) (hcpt : ¬ cpt = 0) : Con 2 l Z [("com/example/record_guard/recordguard/conflict/SerializationFailureException", 27), ("com/example/record_guard/recordguard/conflict/SerializationFailureException", 30), ("java/lang/String", 7)] n0 (⟨"java/lang/AbstractStringBuilder", "length", "()I"⟩ : MethodName) jdk_68_method_6_code 1 (some .int) ({ frames := 0, cells := 0, slots := 0, locals := 0 } : Room) #[(.ref a)] [] h0 (fun v h D' => v = some (.int (Int32.ofNat xs.length)) ∧ h0 = h ∧ D' = []) := by
  refine Con.of_runs (ls := #[.val (.ref a)]) (by decide +kernel) (ef rfl rfl) ?_
  obtain ⟨BO, BA, BE, BL, hle, hcap⟩ := id B0
  refine Runs.aloadN i30_0 rfl rfl ?_
  refine Runs.getF i30_1 (host := "") (Or.inl (w85 hw)) Via.refl (BO.fld (i := 2) rfl) ?_
  exact Runs.retI (z := (Int32.ofNat xs.length)) i30_4 rfl (Or.inl rfl) rfl (by decide) (by decide) ⟨rfl, rfl, rfl⟩
set_option maxRecDepth 65536 in
set_option maxHeartbeats 4000000 in
theorem own_sln (l : Launch) (Z : State) (a0 : Array Value) (hw : Wds Z a0) (n0 : Nat) (a t : Addr) (k : ClassId) (cap : Nat) (xs : List Int32) (h0 : Heap) (B0 : SBd Z h0 a t k cap xs) (cpt : Int32) (S_C : Sta Z Z.heap "java/lang/String" "COMPACT_STRINGS" "Z" (.int cpt)) (hcpt : ¬ cpt = 0) : Con 2 l Z [("com/example/record_guard/recordguard/conflict/SerializationFailureException", 27), ("com/example/record_guard/recordguard/conflict/SerializationFailureException", 30), ("java/lang/String", 7)] n0 (⟨"java/lang/StringBuilder", "length", "()I"⟩ : MethodName) jdk_67_method_93_code 1 (some .int) ({ frames := 1, cells := 0, slots := 0, locals := 12 } : Room) #[(.ref a)] [] h0 (fun v h D' => v = some (.int (Int32.ofNat xs.length)) ∧ h0 = h ∧ D' = []) := by
  refine Con.of_runs (ls := #[.val (.ref a)]) (by decide +kernel) (ef rfl rfl) ?_
  obtain ⟨BO, BA, BE, BL, hle, hcap⟩ := id B0
  refine Runs.aloadN i29_0 rfl rfl ?_
  refine Runs.callUW (argsL := []) (rest := []) (W := 0) i29_1 (w159 hw) (same_of (w154 hw) (nf_same (notFace_of_selects (w90 hw)) (w88 hw) rfl) (by decide)) (w155 hw) (w72 hw) (w160 hw) (w57 hw) (by decide) BO.1 pd_9 rfl rfl rfl rfl (by decide) (by decide) (by decide) (by decide) all0 (by decide) (own_bln l Z a0 hw n0 a t k cap xs _ B0 cpt S_C hcpt) ?_
  intro v h1 D1 q hsz
  obtain ⟨rfl, rfl, rfl⟩ := q
  show Runs 2 l Z [("com/example/record_guard/recordguard/conflict/SerializationFailureException", 27), ("com/example/record_guard/recordguard/conflict/SerializationFailureException", 30), ("java/lang/String", 7)] n0 _ _ _ _ _ _ _ [] h0 0 0 4 #[.val (.ref a)] [(.int (Int32.ofNat xs.length))]
  exact Runs.retI (z := (Int32.ofNat xs.length)) i29_4 rfl (Or.inl rfl) rfl (by decide) (by decide) ⟨rfl, rfl, rfl⟩
set_option maxRecDepth 65536 in
set_option maxHeartbeats 4000000 in
theorem own_bil (l : Launch) (Z : State) (a0 : Array Value) (hw : Wds Z a0) (n0 : Nat) (a t : Addr) (k : ClassId) (cap : Nat) (xs : List Int32) (h0 : Heap) (B0 : SBd Z h0 a t k cap xs) (cpt : Int32) (S_C : Sta Z Z.heap "java/lang/String" "COMPACT_STRINGS" "Z" (.int cpt)) (hcpt : ¬ cpt = 0) : Con 2 l Z [("com/example/record_guard/recordguard/conflict/SerializationFailureException", 27), ("com/example/record_guard/recordguard/conflict/SerializationFailureException", 30), ("java/lang/String", 7)] n0 (⟨"java/lang/AbstractStringBuilder", "isLatin1", "()Z"⟩ : MethodName) jdk_68_method_68_code 1 (some .boolean) ({ frames := 0, cells := 0, slots := 0, locals := 0 } : Room) #[(.ref a)] [] h0 (fun v h D' => v = some (.int 1) ∧ h0 = h ∧ D' = []) := by
  refine Con.of_runs (ls := #[.val (.ref a)]) (by decide +kernel) (ef rfl rfl) ?_
  obtain ⟨BO, BA, BE, BL, hle, hcap⟩ := id B0
  refine Runs.getS i31_0 (w60 hw) Via.refl S_C ?_
  refine Runs.ifN i31_3 (feq hcpt).1 ?_
  refine Runs.aloadN i31_6 rfl rfl ?_
  refine Runs.getF i31_7 (host := "") (Or.inl (w63 hw)) Via.refl (BO.fld (i := 1) rfl) ?_
  refine Runs.ifN i31_10 (teq (by decide : (0 : Int32) = (0 : Int32))).2 ?_
  refine Runs.iconst (v := (1 : Int32)) i31_13 (by decide) ?_
  refine Runs.goto (t := 18) i31_14 (by decide) ?_
  exact Runs.retI (z := (1 : Int32)) i31_18 rfl (Or.inr (Or.inl rfl)) rfl (by decide) (by decide) ⟨rfl, rfl, rfl⟩
set_option maxRecDepth 65536 in
set_option maxHeartbeats 4000000 in
theorem own_cor (l : Launch) (Z : State) (a0 : Array Value) (hw : Wds Z a0) (n0 : Nat) (t : Addr) (k : ClassId) (c NS : Nat) (vs : List Value) (hNS : c ≤ NS ∧ NS < 10000000) (h0 : Heap) (T0 : Arv Z h0 t k .byte (Int32.ofNat c) vs (.int 0)) (E0 : Exa Z h0 t "[B") : Con 2 l Z [("com/example/record_guard/recordguard/conflict/SerializationFailureException", 27), ("com/example/record_guard/recordguard/conflict/SerializationFailureException", 30), ("java/lang/String", 7)] n0 (⟨"java/util/Arrays", "copyOfRange", "([BII)[B"⟩ : MethodName) jdk_65_method_132_code 3 (some (.array .byte)) ({ frames := 1, cells := 1, slots := NS, locals := 14 } : Room) #[(.ref t), (.int (0 : Int32)), (.int (Int32.ofNat c))] [] h0 (fun v h D' => ∃ b, v = some (.ref b) ∧ h0.size ≤ b ∧ Keep h0 h [] ∧ Arv Z h b k .byte (Int32.ofNat c) vs (.int 0) ∧ D' = [b]) := by
  refine Con.of_runs (ls := #[.val (.ref t), .val (.int (0 : Int32)), .val (.int (Int32.ofNat c))]) (by decide +kernel) (ef rfl rfl) ?_
  refine Runs.iloadN i32_0 rfl ?_
  refine Runs.ifN i32_1 (teq (by decide : (0 : Int32) = (0 : Int32))).2 ?_
  refine Runs.iloadN i32_4 rfl ?_
  refine Runs.aloadN i32_5 rfl rfl ?_
  refine Runs.arrlen i32_6 T0 ?_
  refine Runs.icY (t := 17) i32_7 (by decide) (teq (rfl : (Int32.ofNat c) = (Int32.ofNat c))).1 ?_
  refine Runs.aloadN i32_17 rfl rfl ?_
  refine Runs.clone (W := 0) (cap := NS) i32_18 (w169 hw) (w170 hw) (w174 hw) (w172 hw) (w173 hw) (w175 hw) T0 E0 rfl (by first | decide | (dsimp only; first | decide | omega)) rfl (by first | decide | (dsimp only; first | decide | omega)) (by rw [own_cl (n := c) (by omega)]; omega) (by first | decide | (dsimp only; first | decide | omega)) (by first | decide | (dsimp only; first | decide | omega)) ?_
  intro h_7 b_1 g_2 ge_3 K_4 A_5 E_6
  refine Runs.castY i32_21 (w176 hw) (Jvm.RoadKit.Ins.self E_6) ?_
  exact Runs.retA i32_24 rfl rfl rfl (by first | decide | (dsimp only; first | decide | omega)) (by first | decide | (dsimp only; first | decide | omega)) ⟨b_1, rfl, g_2, K_4, A_5, rfl⟩
set_option maxRecDepth 65536 in
set_option maxHeartbeats 4000000 in
theorem own_sia (l : Launch) (Z : State) (a0 : Array Value) (hw : Wds Z a0) (n0 : Nat) (a t : Addr) (k : ClassId) (xs : List Int32) (h0 : Heap) (B0 : SBd Z h0 a t k xs.length xs) (NS : Nat) (hNS : xs.length ≤ NS ∧ NS < 1000000) (s : Addr) (gs : n0 ≤ s) (O0 : Obj Z h0 s "java/lang/String" [("java/lang/String", "value", "[B", .null), ("java/lang/String", "coder", "B", (.int (0 : Int32)))]) (cpt : Int32) (S_C : Sta Z Z.heap "java/lang/String" "COMPACT_STRINGS" "Z" (.int cpt)) (hcpt : ¬ cpt = 0) : Con 2 l Z [("com/example/record_guard/recordguard/conflict/SerializationFailureException", 27), ("com/example/record_guard/recordguard/conflict/SerializationFailureException", 30), ("java/lang/String", 7)] n0 (⟨"java/lang/String", "<init>", "(Ljava/lang/AbstractStringBuilder;Ljava/lang/Void;)V"⟩ : MethodName) jdk_42_method_150_code 5 none ({ frames := 2, cells := 1, slots := NS, locals := 32 } : Room) #[(.ref s), (.ref a), .null] [s] h0 (fun v h D' => v = none ∧ ∃ u, h0.size ≤ u ∧ Keep h0 h [s] ∧ Str Z h s u k xs ∧ D' = []) := by
  refine Con.of_runs (ls := #[.val (.ref s), .val (.ref a), .val .null, .unset, .unset]) (by decide +kernel) (ef rfl rfl) ?_
  obtain ⟨BO, BA, BE, BL, hle, hcap⟩ := id B0
  refine Runs.aloadN i27_0 rfl rfl ?_
  refine Runs.initO (W := 0) i27_1 (w15 hw) (w16 hw) (w17 hw) rfl (by first | decide | (dsimp only; first | decide | omega)) rfl (by first | decide | (dsimp only; first | decide | omega)) ?_
  refine Runs.aloadN i27_4 rfl rfl ?_
  refine Runs.callVW (argsL := []) (rest := []) (W := 0) i27_5 (w148 hw) (w149 hw) (fun s hZ => notFace_of_selects (args := #[]) (mvT hZ (w151 hw))) (w151 hw) (w150 hw) (w152 hw) (w57 hw) (by decide) BO.1 pd_16 rfl rfl rfl rfl (by first | decide | (dsimp only; first | decide | omega)) (by first | decide | (dsimp only; first | decide | omega)) (by first | decide | (dsimp only; first | decide | omega)) (by first | decide | (dsimp only; first | decide | omega)) all0 (by decide) (own_bgv l Z a0 hw n0 a t k xs.length xs _ B0 cpt S_C hcpt) ?_
  intro v h1 D1 q hsz
  obtain ⟨rfl, rfl, rfl⟩ := q
  show Runs 2 l Z [("com/example/record_guard/recordguard/conflict/SerializationFailureException", 27), ("com/example/record_guard/recordguard/conflict/SerializationFailureException", 30), ("java/lang/String", 7)] n0 _ _ _ _ _ _ _ [s] h0 0 0 8 #[.val (.ref s), .val (.ref a), .val .null, .unset, .unset] [(.ref t)]
  refine Runs.astoreN (ls' := #[.val (.ref s), .val (.ref a), .val .null, .val (.ref t), .unset]) i27_8 rfl rfl ?_
  refine Runs.aloadN i27_9 rfl rfl ?_
  refine Runs.callVW (argsL := []) (rest := []) (W := 0) i27_10 (w153 hw) (w154 hw) (fun s hZ => nf_same (notFace_of_selects (args := #[]) (mvT hZ (w90 hw))) (mvT (args := #[]) hZ (w88 hw)) rfl) (w156 hw) (w157 hw) (w158 hw) (w49 hw) (by decide) BO.1 pd_9 rfl rfl rfl rfl (by first | decide | (dsimp only; first | decide | omega)) (by first | decide | (dsimp only; first | decide | omega)) (by first | decide | (dsimp only; first | decide | omega)) (by first | decide | (dsimp only; first | decide | omega)) all0 (by decide) (own_sln l Z a0 hw n0 a t k xs.length xs _ B0 cpt S_C hcpt) ?_
  intro v h1 D1 q hsz
  obtain ⟨rfl, rfl, rfl⟩ := q
  show Runs 2 l Z [("com/example/record_guard/recordguard/conflict/SerializationFailureException", 27), ("com/example/record_guard/recordguard/conflict/SerializationFailureException", 30), ("java/lang/String", 7)] n0 _ _ _ _ _ _ _ [s] h0 0 0 13 #[.val (.ref s), .val (.ref a), .val .null, .val (.ref t), .unset] [(.int (Int32.ofNat xs.length))]
  refine Runs.istore (ls' := #[.val (.ref s), .val (.ref a), .val .null, .val (.ref t), .val (.int (Int32.ofNat xs.length))]) i27_13 rfl ?_
  refine Runs.aloadN i27_15 rfl rfl ?_
  refine Runs.callVW (argsL := []) (rest := []) (W := 0) i27_16 (w161 hw) (w162 hw) (fun s hZ => notFace_of_selects (args := #[]) (mvT hZ (w164 hw))) (w164 hw) (w163 hw) (w165 hw) (w57 hw) (by decide) BO.1 pd_17 rfl rfl rfl rfl (by first | decide | (dsimp only; first | decide | omega)) (by first | decide | (dsimp only; first | decide | omega)) (by first | decide | (dsimp only; first | decide | omega)) (by first | decide | (dsimp only; first | decide | omega)) all0 (by decide) (own_bil l Z a0 hw n0 a t k xs.length xs _ B0 cpt S_C hcpt) ?_
  intro v h1 D1 q hsz
  obtain ⟨rfl, rfl, rfl⟩ := q
  show Runs 2 l Z [("com/example/record_guard/recordguard/conflict/SerializationFailureException", 27), ("com/example/record_guard/recordguard/conflict/SerializationFailureException", 30), ("java/lang/String", 7)] n0 _ _ _ _ _ _ _ [s] h0 0 0 19 #[.val (.ref s), .val (.ref a), .val .null, .val (.ref t), .val (.int (Int32.ofNat xs.length))] [(.int (1 : Int32))]
  refine Runs.ifN i27_19 (feq (by decide : ¬ ((1 : Int32) = (0 : Int32)))).1 ?_
  refine Runs.aloadN i27_22 rfl rfl ?_
  refine Runs.iconst (v := (0 : Int32)) i27_23 (by decide) ?_
  refine Runs.putF (i := 1) (ty := .byte) i27_24 (host := "") (Or.inl (w25 hw)) Via.refl O0 rfl (lay_1 hw) rfl (Or.inr ⟨(w21 hw), rfl, rfl⟩) (w5 hw) (by decide) rfl rfl gs (Or.inl (List.mem_of_getElem? (i := 0) rfl)) ?_
  intro h_1 K_2 (O_3 : Obj Z h_1 s "java/lang/String" [("java/lang/String", "value", "[B", .null), ("java/lang/String", "coder", "B", (.int (0 : Int32)))])
  refine Runs.aloadN i27_27 rfl rfl ?_
  refine Runs.aloadN i27_28 rfl rfl ?_
  refine Runs.iconst (v := (0 : Int32)) i27_29 (by decide) ?_
  refine Runs.iload i27_30 rfl ?_
  have A_4 := (BA.keep K_2 (ninS (Ne.symm (Exa.neArv O0.1 BA (w5 hw))) nin0))
  refine Runs.callSW (argsL := [(.ref t), (.int (0 : Int32)), (.int (Int32.ofNat xs.length))]) (rest := [(.ref s)]) (W := 1) i27_32 (w166 hw) (w167 hw) (w130 hw) (w168 hw) (by decide) pd_18 rfl rfl rfl rfl (by first | decide | (dsimp only; first | decide | omega)) (by first | decide | (dsimp only; first | decide | omega)) (by first | decide | (dsimp only; first | decide | omega)) (by first | decide | (dsimp only; first | decide | omega)) all0 (by decide) (own_cor l Z a0 hw n0 t k xs.length NS (xs.map own_b) (by omega) _ A_4 (BE.keep K_2)) ?_
  intro v h_9 D1 q hsz
  obtain ⟨b_5, rfl, g_6, K_7, A_8, rfl⟩ := q
  show Runs 2 l Z [("com/example/record_guard/recordguard/conflict/SerializationFailureException", 27), ("com/example/record_guard/recordguard/conflict/SerializationFailureException", 30), ("java/lang/String", 7)] n0 _ _ _ _ _ _ _ [b_5, s] h_9 1 (0 + NS) 35 #[.val (.ref s), .val (.ref a), .val .null, .val (.ref t), .val (.int (Int32.ofNat xs.length))] [(.ref b_5), (.ref s)]
  have O_10 := (O_3.keep K_7 nin0)
  refine Runs.putF (i := 0) (ty := (.array .byte)) i27_35 (host := "") (Or.inl (w24 hw)) Via.refl O_10 rfl (lay_1 hw) rfl (Or.inr ⟨(w20 hw), rfl, rfl⟩) (w5 hw) (by decide) rfl rfl gs (Or.inl (List.mem_of_getElem? (i := 1) rfl)) ?_
  intro h_11 K_12 (O_13 : Obj Z h_11 s "java/lang/String" [("java/lang/String", "value", "[B", (.ref b_5)), ("java/lang/String", "coder", "B", (.int (0 : Int32)))])
  refine Runs.goto (t := 97) i27_38 (by decide) ?_
  have A_14 := (A_8.keep K_12 (ninS (Nat.ne_of_gt (Nat.lt_of_lt_of_le (Nat.lt_of_lt_of_le O0.lt K_2.1) g_6)) nin0))
  refine Runs.weak (D1 := []) (fun _ q => nomatch q) ?_
  exact Runs.retV i27_97 rfl (by first | decide | (dsimp only; first | decide | omega)) (by first | decide | (dsimp only; first | decide | omega)) ⟨rfl, b_5, (Nat.le_trans K_2.1 g_6), ((((Keep.refl _ _).trans K_2 (allS (Or.inl (List.mem_of_getElem? (i := 0) rfl)) all0)).trans K_7 all0).trans K_12 (allS (Or.inl (List.mem_of_getElem? (i := 0) rfl)) all0)), ⟨O_13, A_14, BL, by omega⟩, rfl⟩
set_option maxRecDepth 65536 in
set_option maxHeartbeats 4000000 in
theorem own_sib (l : Launch) (Z : State) (a0 : Array Value) (hw : Wds Z a0) (n0 : Nat) (a t : Addr) (k : ClassId) (xs : List Int32) (h0 : Heap) (B0 : SBd Z h0 a t k xs.length xs) (NS : Nat) (hNS : xs.length ≤ NS ∧ NS < 1000000) (s : Addr) (gs : n0 ≤ s) (O0 : Obj Z h0 s "java/lang/String" [("java/lang/String", "value", "[B", .null), ("java/lang/String", "coder", "B", (.int (0 : Int32)))]) (cpt : Int32) (S_C : Sta Z Z.heap "java/lang/String" "COMPACT_STRINGS" "Z" (.int cpt)) (hcpt : ¬ cpt = 0) : Con 2 l Z [("com/example/record_guard/recordguard/conflict/SerializationFailureException", 27), ("com/example/record_guard/recordguard/conflict/SerializationFailureException", 30), ("java/lang/String", 7)] n0 (⟨"java/lang/String", "<init>", "(Ljava/lang/StringBuilder;)V"⟩ : MethodName) jdk_42_method_53_code 2 none ({ frames := 3, cells := 1, slots := NS, locals := 48 } : Room) #[(.ref s), (.ref a)] [s] h0 (fun v h D' => v = none ∧ ∃ u, h0.size ≤ u ∧ Keep h0 h [s] ∧ Str Z h s u k xs ∧ D' = []) := by
  refine Con.of_runs (ls := #[.val (.ref s), .val (.ref a)]) (by decide +kernel) (ef rfl rfl) ?_
  refine Runs.aloadN i26_0 rfl rfl ?_
  refine Runs.aloadN i26_1 rfl rfl ?_
  refine Runs.aconstNull i26_2 ?_
  refine Runs.callCW (argsL := [(.ref a), .null]) (rest := []) (W := 0) i26_3 rfl (w145 hw) (w146 hw) (w147 hw) (w6 hw) (by decide) pd_19 rfl rfl rfl rfl (by first | decide | (dsimp only; first | decide | omega)) (by first | decide | (dsimp only; first | decide | omega)) (by first | decide | (dsimp only; first | decide | omega)) (by first | decide | (dsimp only; first | decide | omega)) (allS (List.mem_of_getElem? (i := 0) rfl) all0) (by decide) (own_sia l Z a0 hw n0 a t k xs _ B0 NS hNS s gs O0 cpt S_C hcpt) ?_
  intro v h1 D1 q hsz
  obtain ⟨rfl, u1, g1, K1, S1, rfl⟩ := q
  show Runs 2 l Z [("com/example/record_guard/recordguard/conflict/SerializationFailureException", 27), ("com/example/record_guard/recordguard/conflict/SerializationFailureException", 30), ("java/lang/String", 7)] n0 _ _ _ _ _ _ _ [s] h1 1 (0 + NS) 6 #[.val (.ref s), .val (.ref a)] []
  refine Runs.weak (D1 := []) (fun _ q => nomatch q) ?_
  exact Runs.retV i26_6 rfl (by first | decide | (dsimp only; first | decide | omega)) (by first | decide | (dsimp only; first | decide | omega)) ⟨rfl, u1, g1, K1, S1, rfl⟩
set_option maxRecDepth 65536 in
set_option maxHeartbeats 4000000 in
theorem own_tos (l : Launch) (Z : State) (a0 : Array Value) (hw : Wds Z a0) (n0 : Nat) (a t : Addr) (k : ClassId) (xs : List Int32) (h0 : Heap) (B0 : SBd Z h0 a t k xs.length xs) (NS : Nat) (hNS : xs.length ≤ NS ∧ NS < 1000000) (cpt : Int32) (S_C : Sta Z Z.heap "java/lang/String" "COMPACT_STRINGS" "Z" (.int cpt)) (hcpt : ¬ cpt = 0) : Con 2 l Z [("com/example/record_guard/recordguard/conflict/SerializationFailureException", 27), ("com/example/record_guard/recordguard/conflict/SerializationFailureException", 30), ("java/lang/String", 7)] n0 (⟨"java/lang/StringBuilder", "toString", "()Ljava/lang/String;"⟩ : MethodName) jdk_67_method_42_code 1 (some (.object "java/lang/String")) ({ frames := 4, cells := 2, slots := (4 + NS), locals := 62 } : Room) #[(.ref a)] [] h0 (fun v h D' => ∃ b u k', v = some (.ref b) ∧ h0.size ≤ b ∧ h0.size ≤ u ∧ Keep h0 h [] ∧ Str Z h b u k' xs ∧ D' = []) := by
  refine Con.of_runs (ls := #[.val (.ref a)]) (by decide +kernel) (ef rfl rfl) ?_
  obtain ⟨BO, BA, BE, BL, hle, hcap⟩ := id B0
  refine Runs.newO i25_0 (w141 hw) (w5 hw) (w6 hw) (lay_1 hw) (by first | decide | (dsimp only; first | decide | omega)) (by first | decide | (dsimp only; first | decide | omega)) ?_
  intro h_1 b_2 g_5 ge_6 K_3 (O_4 : Obj Z h_1 b_2 "java/lang/String" [("java/lang/String", "value", "[B", .null), ("java/lang/String", "coder", "B", (.int (0 : Int32)))]) U_7
  refine Runs.dup i25_3 rfl ?_
  refine Runs.aloadN i25_4 rfl rfl ?_
  have B_8 : SBd Z h_1 a t k xs.length xs := ⟨BO.keep K_3 nin0, BA.keep K_3 nin0, BE.keep K_3, BL, hle, hcap⟩
  refine Runs.callCW (argsL := [(.ref a)]) (rest := [(.ref b_2)]) (W := 1) i25_5 rfl (w142 hw) (w143 hw) (w144 hw) (w6 hw) (by decide) pd_20 rfl rfl rfl rfl (by first | decide | (dsimp only; first | decide | omega)) (by first | decide | (dsimp only; first | decide | omega)) (by first | decide | (dsimp only; first | decide | omega)) (by first | decide | (dsimp only; first | decide | omega)) (allS (List.mem_of_getElem? (i := 0) rfl) all0) (by decide) (own_sib l Z a0 hw n0 a t k xs _ B_8 NS hNS b_2 ge_6 O_4 cpt S_C hcpt) ?_
  intro v h1 D1 q hsz
  obtain ⟨rfl, u1, g1, K1, S1, rfl⟩ := q
  show Runs 2 l Z [("com/example/record_guard/recordguard/conflict/SerializationFailureException", 27), ("com/example/record_guard/recordguard/conflict/SerializationFailureException", 30), ("java/lang/String", 7)] n0 _ _ _ _ _ _ _ [b_2] h1 2 (4 + NS) 8 #[.val (.ref a)] [(.ref b_2)]
  refine Runs.weak (D1 := []) (fun _ q => nomatch q) ?_
  exact Runs.retA i25_8 rfl rfl rfl (by first | decide | (dsimp only; first | decide | omega)) (by first | decide | (dsimp only; first | decide | omega)) ⟨b_2, u1, k, rfl, g_5, (Nat.le_trans K_3.1 g1), (((Keep.refl _ _).trans K_3 all0).trans K1 (allS (Or.inr (Nat.le_trans (Nat.le_refl _) g_5)) all0)), S1, rfl⟩
set_option maxRecDepth 65536 in
set_option maxHeartbeats 4000000 in
theorem own_can (l : Launch) (Z : State) (a0 : Array Value) (hw : Wds Z a0) (n0 : Nat) (c : Int32) (h0 : Heap) (hc : ¬ (255 : Int32) < c) : Con 2 l Z [("com/example/record_guard/recordguard/conflict/SerializationFailureException", 27), ("com/example/record_guard/recordguard/conflict/SerializationFailureException", 30), ("java/lang/String", 7)] n0 (⟨"java/lang/StringLatin1", "canEncode", "(C)Z"⟩ : MethodName) jdk_43_method_3_code 1 (some .boolean) ({ frames := 0, cells := 0, slots := 0, locals := 0 } : Room) #[(.int c)] [] h0 (fun v h D' => v = some (.int 1) ∧ h0 = h ∧ D' = []) := by
  refine Con.of_runs (ls := #[.val (.int c)]) (by decide +kernel) (ef rfl rfl) ?_
  refine Runs.iloadN i6_0 rfl ?_
  refine Runs.sipush (v := (255 : Int32)) i6_1 (by decide) ?_
  refine Runs.icN i6_4 (flt hc).2.2.1 ?_
  refine Runs.iconst (v := (1 : Int32)) i6_7 (by decide) ?_
  refine Runs.goto (t := 12) i6_8 (by decide) ?_
  exact Runs.retI (z := (1 : Int32)) i6_12 rfl (Or.inr (Or.inl rfl)) (by decide) (by decide) (by decide) ⟨rfl, rfl, rfl⟩
set_option maxRecDepth 65536 in
set_option maxHeartbeats 4000000 in
theorem own_tb1 (l : Launch) (Z : State) (a0 : Array Value) (hw : Wds Z a0) (n0 : Nat) (c : Int32) (h0 : Heap) : Con 2 l Z [("com/example/record_guard/recordguard/conflict/SerializationFailureException", 27), ("com/example/record_guard/recordguard/conflict/SerializationFailureException", 30), ("java/lang/String", 7)] n0 (⟨"java/lang/StringLatin1", "toBytes", "(C)[B"⟩ : MethodName) jdk_43_method_46_code 1 (some (.array .byte)) ({ frames := 0, cells := 1, slots := 1, locals := 0 } : Room) #[(.int c)] [] h0 (fun v h D' => ∃ b k, v = some (.ref b) ∧ h0.size ≤ b ∧ Keep h0 h [] ∧ Arv Z h b k .byte (1 : Int32) [.int ((Int32.toInt8 c).toInt32)] (.int 0) ∧ D' = [b]) := by
  refine Con.of_runs (ls := #[.val (.int c)]) (by decide +kernel) (ef rfl rfl) ?_
  refine Runs.iconst (v := (1 : Int32)) i7_0 (by decide) ?_
  refine Runs.newP (cap := 1) (ad := "[B") i7_1 (w19 hw) (by decide) (by decide) (by decide) (by decide) (by decide) rfl ?_
  intro h_1 b_2 k_3 g_6 ge_7 K_4 (A_5 : Arv Z h_1 b_2 k_3 .byte (1 : Int32) [] (.int (0 : Int32))) E_8
  have A_9 : Arv Z h_1 b_2 k_3 .byte (1 : Int32) [(.int (0 : Int32))] (.int (0 : Int32)) := A_5.pad (pad_rep [] (.int (0 : Int32)) 1)
  refine Runs.dup i7_3 rfl ?_
  refine Runs.iconst (v := (0 : Int32)) i7_4 (by decide) ?_
  refine Runs.iloadN i7_5 rfl ?_
  obtain ⟨x_10, hx_10⟩ : ∃ z : Int32, (Int32.toInt8 c).toInt32 = z := ⟨_, rfl⟩
  refine Runs.i2b i7_6 hx_10 ?_
  refine Runs.bastore (i := 0) (y := ((Int32.toInt8 c).toInt32)) i7_7 A_9 ⟨by decide, by decide⟩ (by decide) (Nat.le_of_ble_eq_true rfl) (by rw [← hx_10]; exact own_bb _) ge_7 (Or.inl (List.mem_of_getElem? (i := 0) rfl)) ?_
  intro h_11 K_12 (A_13 : Arv Z h_11 b_2 k_3 .byte (1 : Int32) [(.int ((Int32.toInt8 c).toInt32))] (.int (0 : Int32)))
  exact Runs.retA i7_8 rfl rfl rfl (by decide) (by decide) ⟨b_2, k_3, rfl, g_6, (((Keep.refl _ _).trans K_4 all0).trans K_12 (allS (Or.inr (Nat.le_trans (Nat.le_refl _) g_6)) all0)), A_13, rfl⟩
set_option maxRecDepth 65536 in
set_option maxHeartbeats 4000000 in
theorem own_sbb (l : Launch) (Z : State) (a0 : Array Value) (hw : Wds Z a0) (n0 : Nat) (a t : Addr) (cd : Int32) (hcn : narrow .byte (.int cd) = .int cd) (hcf : fits .byte (.int cd) = true) (h0 : Heap) (ga : n0 ≤ a) (O0 : Obj Z h0 a "java/lang/String" [("java/lang/String", "value", "[B", .null), ("java/lang/String", "coder", "B", (.int (0 : Int32)))]) : Con 2 l Z [("com/example/record_guard/recordguard/conflict/SerializationFailureException", 27), ("com/example/record_guard/recordguard/conflict/SerializationFailureException", 30), ("java/lang/String", 7)] n0 (⟨"java/lang/String", "<init>", "([BB)V"⟩ : MethodName) jdk_42_method_151_code 3 none ({ frames := 1, cells := 0, slots := 0, locals := 12 } : Room) #[(.ref a), (.ref t), (.int cd)] [a] h0 (fun v h D' => v = none ∧ Keep h0 h [a] ∧ Obj Z h a "java/lang/String" [("java/lang/String", "value", "[B", (.ref t)), ("java/lang/String", "coder", "B", (.int cd))] ∧ D' = []) := by
  refine Con.of_runs (ls := #[.val (.ref a), .val (.ref t), .val (.int cd)]) (by decide +kernel) (ef rfl rfl) ?_
  refine Runs.aloadN i8_0 rfl rfl ?_
  refine Runs.initO (W := 0) i8_1 (w15 hw) (w16 hw) (w17 hw) rfl (by decide) rfl (by decide) ?_
  refine Runs.aloadN i8_4 rfl rfl ?_
  refine Runs.aloadN i8_5 rfl rfl ?_
  refine Runs.putF (i := 0) (ty := (.array .byte)) i8_6 (host := "") (Or.inl (w24 hw)) Via.refl O0 rfl (lay_1 hw) rfl (Or.inr ⟨(w20 hw), rfl, rfl⟩) (w5 hw) (by decide) rfl rfl ga (Or.inl (List.mem_of_getElem? (i := 0) rfl)) ?_
  intro h_1 K_2 (O_3 : Obj Z h_1 a "java/lang/String" [("java/lang/String", "value", "[B", (.ref t)), ("java/lang/String", "coder", "B", (.int (0 : Int32)))])
  refine Runs.aloadN i8_9 rfl rfl ?_
  refine Runs.iloadN i8_10 rfl ?_
  refine Runs.putF (i := 1) (ty := .byte) i8_11 (host := "") (Or.inl (w25 hw)) Via.refl O_3 rfl (lay_1 hw) rfl (Or.inr ⟨(w21 hw), rfl, rfl⟩) (w5 hw) (by decide) hcn hcf ga (Or.inl (List.mem_of_getElem? (i := 0) rfl)) ?_
  intro h_4 K_5 (O_6 : Obj Z h_4 a "java/lang/String" [("java/lang/String", "value", "[B", (.ref t)), ("java/lang/String", "coder", "B", (.int cd))])
  exact Runs.weak (D1 := []) (fun _ q => nomatch q) (Runs.retV i8_14 rfl (by decide) (by decide) ⟨rfl, (((Keep.refl _ _).trans K_2 (allS (Or.inl (List.mem_of_getElem? (i := 0) rfl)) all0)).trans K_5 (allS (Or.inl (List.mem_of_getElem? (i := 0) rfl)) all0)), O_6, rfl⟩)
set_option maxRecDepth 65536 in
set_option maxHeartbeats 4000000 in
theorem own_vof (l : Launch) (Z : State) (a0 : Array Value) (hw : Wds Z a0) (n0 : Nat) (c cpt : Int32) (h0 : Heap) (hc : ¬ (255 : Int32) < c) (S_C : Sta Z Z.heap "java/lang/String" "COMPACT_STRINGS" "Z" (.int cpt)) (hcpt : ¬ cpt = 0) : Con 2 l Z [("com/example/record_guard/recordguard/conflict/SerializationFailureException", 27), ("com/example/record_guard/recordguard/conflict/SerializationFailureException", 30), ("java/lang/String", 7)] n0 (⟨"java/lang/String", "valueOf", "(C)Ljava/lang/String;"⟩ : MethodName) jdk_42_method_139_code 1 (some (.object "java/lang/String")) ({ frames := 2, cells := 2, slots := 5, locals := 27 } : Room) #[(.int c)] [] h0 (fun v h D' => ∃ b t k, v = some (.ref b) ∧ h0.size ≤ b ∧ h0.size ≤ t ∧ Keep h0 h [] ∧ Obj Z h b "java/lang/String" [("java/lang/String", "value", "[B", (.ref t)), ("java/lang/String", "coder", "B", (.int (0 : Int32)))] ∧ Arv Z h t k .byte (1 : Int32) [.int ((Int32.toInt8 c).toInt32)] (.int 0) ∧ D' = []) := by
  refine Con.of_runs (ls := #[.val (.int c)]) (by decide +kernel) (ef rfl rfl) ?_
  refine Runs.getS i5_0 (w29 hw) Via.refl S_C ?_
  refine Runs.ifN i5_3 (feq hcpt).1 ?_
  refine Runs.iloadN i5_6 rfl ?_
  refine Runs.callSW (argsL := [(.int c)]) (rest := []) (W := 0) i5_7 (w30 hw) (w31 hw) (w32 hw) (w33 hw) (by decide) pd_21 rfl rfl rfl rfl (by decide) (by decide) (by decide) (by decide) all0 (by decide) (own_can l Z a0 hw n0 c _ hc) ?_
  intro v h1 D1 q hsz
  obtain ⟨rfl, rfl, rfl⟩ := q
  show Runs 2 l Z [("com/example/record_guard/recordguard/conflict/SerializationFailureException", 27), ("com/example/record_guard/recordguard/conflict/SerializationFailureException", 30), ("java/lang/String", 7)] n0 _ _ _ _ _ _ _ [] h0 0 0 10 #[.val (.int c)] [(.int (1 : Int32))]
  refine Runs.ifN i5_10 (feq (by decide : ¬ ((1 : Int32) = (0 : Int32)))).1 ?_
  refine Runs.newO i5_13 (w34 hw) (w5 hw) (w6 hw) (lay_1 hw) (by decide) (by decide) ?_
  intro h_1 b_2 g_5 ge_6 K_3 (O_4 : Obj Z h_1 b_2 "java/lang/String" [("java/lang/String", "value", "[B", .null), ("java/lang/String", "coder", "B", (.int (0 : Int32)))]) U_7
  refine Runs.dup i5_16 rfl ?_
  refine Runs.iloadN i5_17 rfl ?_
  refine Runs.callSW (argsL := [(.int c)]) (rest := [(.ref b_2), (.ref b_2)]) (W := 2) i5_18 (w35 hw) (w36 hw) (w32 hw) (w37 hw) (by decide) pd_22 rfl rfl rfl rfl (by decide) (by decide) (by decide) (by decide) all0 (by decide) (own_tb1 l Z a0 hw n0 c _) ?_
  intro v h_13 D1 q hsz
  obtain ⟨b_8, k_9, rfl, g_10, K_11, A_12, rfl⟩ := q
  show Runs 2 l Z [("com/example/record_guard/recordguard/conflict/SerializationFailureException", 27), ("com/example/record_guard/recordguard/conflict/SerializationFailureException", 30), ("java/lang/String", 7)] n0 _ _ _ _ _ _ _ [b_8, b_2] h_13 2 5 21 #[.val (.int c)] [(.ref b_8), (.ref b_2), (.ref b_2)]
  refine Runs.iconst (v := (0 : Int32)) i5_21 (by decide) ?_
  have O_14 := (O_4.keep K_11 nin0)
  refine Runs.callCW (argsL := [(.ref b_8), (.int (0 : Int32))]) (rest := [(.ref b_2)]) (W := 1) i5_22 rfl (w38 hw) (w39 hw) (w40 hw) (w6 hw) (by decide) pd_23 rfl rfl rfl rfl (by decide) (by decide) (by decide) (by decide) (allS (List.mem_of_getElem? (i := 1) rfl) all0) (by decide) (own_sbb l Z a0 hw n0 b_2 b_8 (0 : Int32) rfl rfl _ ge_6 O_14) ?_
  intro v h_17 D1 q hsz
  obtain ⟨rfl, K_15, O_16, rfl⟩ := q
  show Runs 2 l Z [("com/example/record_guard/recordguard/conflict/SerializationFailureException", 27), ("com/example/record_guard/recordguard/conflict/SerializationFailureException", 30), ("java/lang/String", 7)] n0 _ _ _ _ _ _ _ [b_8, b_2] h_17 2 5 25 #[.val (.int c)] [(.ref b_2)]
  have A_18 := (A_12.keep K_15 (ninS (Nat.ne_of_gt (Nat.lt_of_lt_of_le (Nat.lt_of_lt_of_le O_4.lt (Nat.le_refl _)) g_10)) nin0))
  refine Runs.weak (D1 := []) (fun _ q => nomatch q) ?_
  exact Runs.retA i5_25 rfl rfl rfl (by decide) (by decide) ⟨b_2, b_8, k_9, rfl, g_5, (Nat.le_trans K_3.1 g_10), ((((Keep.refl _ _).trans K_3 all0).trans K_11 all0).trans K_15 (allS (Or.inr (Nat.le_trans (Nat.le_refl _) g_5)) all0)), O_16, A_18, rfl⟩
theorem own_b255 {c : Int32} (h : ¬ c < 0 ∧ ¬ (255 : Int32) < c) : (Int32.toInt8 c).toInt32 &&& 255 = c := by
  have e1 : (0 : Int32).toInt = 0 := rfl
  have e2 : (255 : Int32).toInt = 255 := rfl
  rw [Int32.lt_iff_toInt_lt, Int32.lt_iff_toInt_lt] at h
  have h1 := c_i2b c
  have h2 : ((Int32.toInt8 c).toInt32 &&& 255).toInt = ((Int32.toInt8 c).toInt32).toInt % (2 ^ 8 : Nat) := c_mask _ 255 8 (by decide) (by decide)
  apply Int32.toInt_inj.mp
  omega
theorem own_gbv (ys : List Int32) (i : Nat) : (ys.map own_b).getD i (.int 0) = .int ((Int32.toInt8 (ys.getD i 0)).toInt32) := by
  rw [own_mapb, own_getb]; congr 1; simp only [List.getD_eq_getElem?_getD, List.getElem?_map]; cases ys[i]? <;> rfl
theorem own_latg {ys : List Int32} (h : Lat ys) {i : Nat} (hi : i < ys.length) : ¬ ys.getD i 0 < 0 ∧ ¬ (255 : Int32) < ys.getD i 0 := by
  rw [List.getD_eq_getElem?_getD, List.getElem?_eq_getElem hi]; exact h _ (List.getElem_mem hi)
set_option maxRecDepth 65536 in
set_option maxHeartbeats 4000000 in
theorem own_pci (l : Launch) (Z : State) (a0 : Array Value) (hw : Wds Z a0) (n0 : Nat) (i c : Nat) (hi : i < c) (hc : c < 2147483648) (fm : Value) (hfm : fm.isRef = true) (h0 : Heap) : Con 2 l Z [("com/example/record_guard/recordguard/conflict/SerializationFailureException", 27), ("com/example/record_guard/recordguard/conflict/SerializationFailureException", 30), ("java/lang/String", 7)] n0 (⟨"jdk/internal/util/Preconditions", "checkIndex", "(IILjava/util/function/BiFunction;)I"⟩ : MethodName) jdk_41_method_11_code 3 (some .int) ({ frames := 0, cells := 0, slots := 0, locals := 0 } : Room) #[(.int (Int32.ofNat i)), (.int (Int32.ofNat c)), fm] [] h0 (fun v h D' => v = some (.int (Int32.ofNat i)) ∧ h0 = h ∧ D' = []) := by
  refine Con.of_runs (ls := #[.val (.int (Int32.ofNat i)), .val (.int (Int32.ofNat c)), .val fm]) (by decide +kernel) (fun m => by rcases ref_cases hfm with rfl | ⟨_, rfl⟩ <;> exact ef rfl rfl m) ?_
  refine Runs.iloadN i47_0 rfl ?_
  refine Runs.ifN i47_1 (flt (own_nn (by omega))).1 ?_
  refine Runs.iloadN i47_4 rfl ?_
  refine Runs.iloadN i47_5 rfl ?_
  refine Runs.icY (t := 16) i47_6 (by decide) (tlt (own_lt (a := i) (b := c) hi hc)).1 ?_
  refine Runs.iloadN i47_16 rfl ?_
  exact Runs.retI (z := (Int32.ofNat i)) i47_17 rfl (Or.inl rfl) rfl (by decide) (by decide) ⟨rfl, rfl, rfl⟩
set_option maxRecDepth 65536 in
set_option maxHeartbeats 4000000 in
theorem own_sci (l : Launch) (Z : State) (a0 : Array Value) (hw : Wds Z a0) (n0 : Nat) (i c : Nat) (hi : i < c) (hc : c < 2147483648) (fm : Value) (hfm : fm.isRef = true) (S_F : Sta Z Z.heap "jdk/internal/util/Preconditions" "SIOOBE_FORMATTER" "Ljava/util/function/BiFunction;" fm) (h0 : Heap) : Con 2 l Z [("com/example/record_guard/recordguard/conflict/SerializationFailureException", 27), ("com/example/record_guard/recordguard/conflict/SerializationFailureException", 30), ("java/lang/String", 7)] n0 (⟨"java/lang/String", "checkIndex", "(II)V"⟩ : MethodName) jdk_42_method_155_code 2 none ({ frames := 1, cells := 0, slots := 0, locals := 14 } : Room) #[(.int (Int32.ofNat i)), (.int (Int32.ofNat c))] [] h0 (fun v h D' => v = none ∧ h0 = h ∧ D' = []) := by
  refine Con.of_runs (ls := #[.val (.int (Int32.ofNat i)), .val (.int (Int32.ofNat c))]) (by decide +kernel) (ef rfl rfl) ?_
  refine Runs.iloadN i46_0 rfl ?_
  refine Runs.iloadN i46_1 rfl ?_
  refine Runs.getS i46_2 (w273 hw) Via.refl S_F ?_
  refine Runs.callSW (argsL := [(.int (Int32.ofNat i)), (.int (Int32.ofNat c)), fm]) (rest := []) (W := 0) i46_5 (w275 hw) (w276 hw) (w274 hw) (w277 hw) (by decide) pd_24 rfl rfl rfl rfl (by decide) (by decide) (by decide) (by decide) all0 (by decide) (own_pci l Z a0 hw n0 i c hi hc fm hfm _) ?_
  intro v h1 D1 q hsz
  obtain ⟨rfl, rfl, rfl⟩ := q
  show Runs 2 l Z [("com/example/record_guard/recordguard/conflict/SerializationFailureException", 27), ("com/example/record_guard/recordguard/conflict/SerializationFailureException", 30), ("java/lang/String", 7)] n0 _ _ _ _ _ _ _ [] h0 0 0 8 #[.val (.int (Int32.ofNat i)), .val (.int (Int32.ofNat c))] [(.int (Int32.ofNat i))]
  refine Runs.pop i46_8 rfl ?_
  exact Runs.retV i46_9 rfl (by decide) (by decide) ⟨rfl, rfl, rfl⟩
set_option maxRecDepth 65536 in
set_option maxHeartbeats 4000000 in
theorem own_sil (l : Launch) (Z : State) (a0 : Array Value) (hw : Wds Z a0) (n0 : Nat) (b u : Addr) (k2 : ClassId) (ys : List Int32) (h0 : Heap) (S0 : Str Z h0 b u k2 ys) (cpt : Int32) (S_C : Sta Z Z.heap "java/lang/String" "COMPACT_STRINGS" "Z" (.int cpt)) (hcpt : ¬ cpt = 0) : Con 2 l Z [("com/example/record_guard/recordguard/conflict/SerializationFailureException", 27), ("com/example/record_guard/recordguard/conflict/SerializationFailureException", 30), ("java/lang/String", 7)] n0 (⟨"java/lang/String", "isLatin1", "()Z"⟩ : MethodName) jdk_42_method_154_code 1 (some .boolean) ({ frames := 0, cells := 0, slots := 0, locals := 0 } : Room) #[(.ref b)] [] h0 (fun v h D' => v = some (.int 1) ∧ h0 = h ∧ D' = []) := by
  refine Con.of_runs (ls := #[.val (.ref b)]) (by decide +kernel) (ef rfl rfl) ?_
  refine Runs.getS i44_0 (w29 hw) Via.refl S_C ?_
  refine Runs.ifN i44_3 (feq hcpt).1 ?_
  refine Runs.aloadN i44_6 rfl rfl ?_
  refine Runs.getF i44_7 (host := "") (Or.inl (w25 hw)) Via.refl (S0.1.fld (i := 1) rfl) ?_
  refine Runs.ifN i44_10 (teq (by decide : (0 : Int32) = (0 : Int32))).2 ?_
  refine Runs.iconst (v := (1 : Int32)) i44_13 (by decide) ?_
  refine Runs.goto (t := 18) i44_14 (by decide) ?_
  exact Runs.retI (z := (1 : Int32)) i44_18 rfl (Or.inr (Or.inl rfl)) (by decide) (by decide) (by decide) ⟨rfl, rfl, rfl⟩
set_option maxRecDepth 65536 in
set_option maxHeartbeats 4000000 in
theorem own_lca (l : Launch) (Z : State) (a0 : Array Value) (hw : Wds Z a0) (n0 : Nat) (u : Addr) (k2 : ClassId) (ys : List Int32) (h0 : Heap) (U0 : Arv Z h0 u k2 .byte (Int32.ofNat ys.length) (ys.map own_b) (.int 0)) (hL : Lat ys) (hy : ys.length < 2147483648) (i : Nat) (hi : i < ys.length) (fm : Value) (hfm : fm.isRef = true) (S_F : Sta Z Z.heap "jdk/internal/util/Preconditions" "SIOOBE_FORMATTER" "Ljava/util/function/BiFunction;" fm) : Con 2 l Z [("com/example/record_guard/recordguard/conflict/SerializationFailureException", 27), ("com/example/record_guard/recordguard/conflict/SerializationFailureException", 30), ("java/lang/String", 7)] n0 (⟨"java/lang/StringLatin1", "charAt", "([BI)C"⟩ : MethodName) jdk_43_method_2_code 2 (some .char) ({ frames := 2, cells := 0, slots := 0, locals := 27 } : Room) #[(.ref u), (.int (Int32.ofNat i))] [] h0 (fun v h D' => v = some (.int (ys.getD i 0)) ∧ h0 = h ∧ D' = []) := by
  refine Con.of_runs (ls := #[.val (.ref u), .val (.int (Int32.ofNat i))]) (by decide +kernel) (ef rfl rfl) ?_
  refine Runs.iloadN i45_0 rfl ?_
  refine Runs.aloadN i45_1 rfl rfl ?_
  refine Runs.arrlen i45_2 U0 ?_
  refine Runs.callSW (argsL := [(.int (Int32.ofNat i)), (.int (Int32.ofNat ys.length))]) (rest := []) (W := 0) i45_3 (w270 hw) (w271 hw) (w6 hw) (w272 hw) (by decide) pd_25 rfl rfl rfl rfl (by decide) (by decide) (by decide) (by decide) all0 (by decide) (own_sci l Z a0 hw n0 i ys.length hi (by omega) fm hfm S_F _) ?_
  intro v h1 D1 q hsz
  obtain ⟨rfl, rfl, rfl⟩ := q
  show Runs 2 l Z [("com/example/record_guard/recordguard/conflict/SerializationFailureException", 27), ("com/example/record_guard/recordguard/conflict/SerializationFailureException", 30), ("java/lang/String", 7)] n0 _ _ _ _ _ _ _ [] h0 0 0 6 #[.val (.ref u), .val (.int (Int32.ofNat i))] []
  refine Runs.aloadN i45_6 rfl rfl ?_
  refine Runs.iloadN i45_7 rfl ?_
  refine Runs.baload (v := .int ((Int32.toInt8 (ys.getD i 0)).toInt32)) i45_8 U0 ⟨own_nn (by omega), own_lt hi (by omega)⟩ (by rw [own_cl (by omega)]; exact own_gbv _ _) ?_
  refine Runs.sipush (v := (255 : Int32)) i45_9 (by decide) ?_
  refine Runs.iand (z := ys.getD i 0) i45_12 (own_b255 (own_latg hL hi)) ?_
  refine Runs.i2c (z := ys.getD i 0) i45_13 (own_i2c (own_latg hL hi)) ?_
  exact Runs.retI (z := (ys.getD i 0)) i45_14 rfl (Or.inr (Or.inr (Or.inr (Or.inl rfl)))) (congrArg Value.int (own_cc (own_255 (own_latg hL hi)))) (by decide) (by decide) ⟨rfl, rfl, rfl⟩
set_option maxRecDepth 65536 in
set_option maxHeartbeats 4000000 in
theorem own_cha (l : Launch) (Z : State) (a0 : Array Value) (hw : Wds Z a0) (n0 : Nat) (b u : Addr) (k2 : ClassId) (ys : List Int32) (h0 : Heap) (S0 : Str Z h0 b u k2 ys) (i : Nat) (hi : i < ys.length) (cpt : Int32) (S_C : Sta Z Z.heap "java/lang/String" "COMPACT_STRINGS" "Z" (.int cpt)) (hcpt : ¬ cpt = 0) (fm : Value) (hfm : fm.isRef = true) (S_F : Sta Z Z.heap "jdk/internal/util/Preconditions" "SIOOBE_FORMATTER" "Ljava/util/function/BiFunction;" fm) : Con 2 l Z [("com/example/record_guard/recordguard/conflict/SerializationFailureException", 27), ("com/example/record_guard/recordguard/conflict/SerializationFailureException", 30), ("java/lang/String", 7)] n0 (⟨"java/lang/String", "charAt", "(I)C"⟩ : MethodName) jdk_42_method_56_code 2 (some .char) ({ frames := 3, cells := 0, slots := 0, locals := 42 } : Room) #[(.ref b), (.int (Int32.ofNat i))] [] h0 (fun v h D' => v = some (.int (ys.getD i 0)) ∧ h0 = h ∧ D' = []) := by
  refine Con.of_runs (ls := #[.val (.ref b), .val (.int (Int32.ofNat i))]) (by decide +kernel) (ef rfl rfl) ?_
  refine Runs.aloadN i43_0 rfl rfl ?_
  refine Runs.callVW (argsL := []) (rest := []) (W := 0) i43_1 (w262 hw) (w263 hw) (fun s hZ => notFace_of_selects (args := #[]) (mvT hZ (w265 hw))) (w265 hw) (w264 hw) (w266 hw) (w6 hw) (by decide) S0.1.1 pd_17 rfl rfl rfl rfl (by decide) (by decide) (by decide) (by decide) all0 (by decide) (own_sil l Z a0 hw n0 b u k2 ys _ S0 cpt S_C hcpt) ?_
  intro v h1 D1 q hsz
  obtain ⟨rfl, rfl, rfl⟩ := q
  show Runs 2 l Z [("com/example/record_guard/recordguard/conflict/SerializationFailureException", 27), ("com/example/record_guard/recordguard/conflict/SerializationFailureException", 30), ("java/lang/String", 7)] n0 _ _ _ _ _ _ _ [] h0 0 0 4 #[.val (.ref b), .val (.int (Int32.ofNat i))] [(.int (1 : Int32))]
  refine Runs.ifN i43_4 (feq (by decide : ¬ ((1 : Int32) = (0 : Int32)))).1 ?_
  refine Runs.aloadN i43_7 rfl rfl ?_
  refine Runs.getF i43_8 (host := "") (Or.inl (w24 hw)) Via.refl (S0.1.fld (i := 0) rfl) ?_
  refine Runs.iloadN i43_11 rfl ?_
  refine Runs.callSW (argsL := [(.ref u), (.int (Int32.ofNat i))]) (rest := []) (W := 0) i43_12 (w267 hw) (w268 hw) (w32 hw) (w269 hw) (by decide) pd_26 rfl rfl rfl rfl (by decide) (by decide) (by decide) (by decide) all0 (by decide) (own_lca l Z a0 hw n0 u k2 ys _ S0.2.1 S0.2.2.1 (by have := S0.2.2.2; omega) i hi fm hfm S_F) ?_
  intro v h1 D1 q hsz
  obtain ⟨rfl, rfl, rfl⟩ := q
  show Runs 2 l Z [("com/example/record_guard/recordguard/conflict/SerializationFailureException", 27), ("com/example/record_guard/recordguard/conflict/SerializationFailureException", 30), ("java/lang/String", 7)] n0 _ _ _ _ _ _ _ [] h0 0 0 15 #[.val (.ref b), .val (.int (Int32.ofNat i))] [(.int (ys.getD i 0))]
  exact Runs.retI (z := (ys.getD i 0)) i43_15 rfl (Or.inr (Or.inr (Or.inr (Or.inl rfl)))) (congrArg Value.int (own_cc (own_255 (own_latg S0.2.2.1 hi)))) (by decide) (by decide) ⟨rfl, rfl, rfl⟩
set_option maxRecDepth 65536 in
set_option maxHeartbeats 4000000 in
theorem own_eql (l : Launch) (Z : State) (a0 : Array Value) (hw : Wds Z a0) (n0 : Nat) (xs ys : List Int32) (hx : xs.length < 2147483647) (hy : ys.length < 2147483647) (t u : Addr) (k k2 : ClassId) (h0 : Heap) (X0 : Arv Z h0 t k .byte (Int32.ofNat xs.length) (xs.map Value.int) (.int 0)) (Y0 : Arv Z h0 u k2 .byte (Int32.ofNat ys.length) (ys.map Value.int) (.int 0)) (hl : xs.length = ys.length) (d : Nat) : ∀ i : Nat, d + i = ys.length → xs.take i = ys.take i → Runs 2 l Z [("com/example/record_guard/recordguard/conflict/SerializationFailureException", 27), ("com/example/record_guard/recordguard/conflict/SerializationFailureException", 30), ("java/lang/String", 7)] n0 "java/lang/StringLatin1" "equals" jdk_43_method_13_code 3 (some .boolean) ({ frames := 0, cells := 0, slots := 0, locals := 0 } : Room) (fun v h D' => v = some (.int (if xs = ys then 1 else 0)) ∧ h0 = h ∧ D' = []) [] h0 0 0 9 #[.val (.ref t), .val (.ref u), .val (.int (Int32.ofNat i))] [] := by
  induction d with
  | zero =>
    intro i hd hp
    refine Runs.iloadN i49_9 rfl ?_
    refine Runs.aloadN i49_10 rfl rfl ?_
    refine Runs.arrlen i49_11 X0 ?_
    refine Runs.icY (t := 32) i49_12 (by decide) (flt (own_nlt (by omega) (by omega))).2.1 ?_
    refine Runs.iconst (v := (1 : Int32)) i49_32 (by decide) ?_
    exact Runs.retI (z := (1 : Int32)) i49_33 rfl (Or.inr (Or.inl rfl)) (by decide) (by decide) (by decide) ⟨by rw [if_pos (own_all hl (by omega) hp)], rfl, rfl⟩
  | succ d ih =>
    intro i hd hp
    refine Runs.iloadN i49_9 rfl ?_
    refine Runs.aloadN i49_10 rfl rfl ?_
    refine Runs.arrlen i49_11 X0 ?_
    refine Runs.icN i49_12 (tlt (own_lt (by omega) (by omega))).2.1 ?_
    refine Runs.aloadN i49_15 rfl rfl ?_
    refine Runs.iloadN i49_16 rfl ?_
    refine Runs.baload (v := .int (xs.getD i 0)) i49_17 X0 ⟨own_nn (by omega), own_lt (by omega) (by omega)⟩ (by rw [own_cl (by omega)]; exact own_getb _ _) ?_
    refine Runs.aloadN i49_18 rfl rfl ?_
    refine Runs.iloadN i49_19 rfl ?_
    refine Runs.baload (v := .int (ys.getD i 0)) i49_20 Y0 ⟨own_nn (by omega), own_lt (by omega) (by omega)⟩ (by rw [own_cl (by omega)]; exact own_getb _ _) ?_
    by_cases hc21 : (xs.getD i 0) = (ys.getD i 0)
    · refine Runs.icY (t := 26) i49_21 (by decide) (teq hc21).1 ?_
      refine Runs.iinc (z := Int32.ofNat (i + 1)) (ls' := #[.val (.ref t), .val (.ref u), .val (.int (Int32.ofNat (i + 1)))]) i49_26 rfl (own_add (b := 1) (by omega)) rfl ?_
      refine Runs.goto (t := 9) i49_29 (by decide) ?_
      exact ih (i + 1) (by omega) (own_take hp hc21 (by omega) (by omega))
    · refine Runs.icN i49_21 (feq hc21).1 ?_
      refine Runs.iconst (v := (0 : Int32)) i49_24 (by decide) ?_
      exact Runs.retI (z := (0 : Int32)) i49_25 rfl (Or.inr (Or.inl rfl)) (by decide) (by decide) (by decide) ⟨by rw [if_neg (own_drop hc21)], rfl, rfl⟩
set_option maxRecDepth 65536 in
set_option maxHeartbeats 4000000 in
theorem own_eqB (l : Launch) (Z : State) (a0 : Array Value) (hw : Wds Z a0) (n0 : Nat) (xs ys : List Int32) (hx : xs.length < 2147483647) (hy : ys.length < 2147483647) (t u : Addr) (k k2 : ClassId) (h0 : Heap) (X0 : Arv Z h0 t k .byte (Int32.ofNat xs.length) (xs.map Value.int) (.int 0)) (Y0 : Arv Z h0 u k2 .byte (Int32.ofNat ys.length) (ys.map Value.int) (.int 0)) : Con 2 l Z [("com/example/record_guard/recordguard/conflict/SerializationFailureException", 27), ("com/example/record_guard/recordguard/conflict/SerializationFailureException", 30), ("java/lang/String", 7)] n0 (⟨"java/lang/StringLatin1", "equals", "([B[B)Z"⟩ : MethodName) jdk_43_method_13_code 3 (some .boolean) ({ frames := 0, cells := 0, slots := 0, locals := 0 } : Room) #[(.ref t), (.ref u)] [] h0 (fun v h D' => v = some (.int (if xs = ys then 1 else 0)) ∧ h0 = h ∧ D' = []) := by
  refine Con.of_runs (ls := #[.val (.ref t), .val (.ref u), .unset]) (by decide +kernel) (ef rfl rfl) ?_
  refine Runs.aloadN i49_0 rfl rfl ?_
  refine Runs.arrlen i49_1 X0 ?_
  refine Runs.aloadN i49_2 rfl rfl ?_
  refine Runs.arrlen i49_3 Y0 ?_
  by_cases hc4 : (Int32.ofNat xs.length) = (Int32.ofNat ys.length)
  · refine Runs.icN i49_4 (teq hc4).2 ?_
    have hl : xs.length = ys.length := (own_inj (by omega) (by omega)).mp hc4
    refine Runs.iconst (v := (0 : Int32)) i49_7 (by decide) ?_
    refine Runs.istoreN (ls' := #[.val (.ref t), .val (.ref u), .val (.int (0 : Int32))]) i49_8 rfl ?_
    exact own_eql l Z a0 hw n0 xs ys hx hy t u k k2 h0 X0 Y0 hl ys.length 0 (by omega) rfl
  · refine Runs.icY (t := 34) i49_4 (by decide) (feq hc4).2 ?_
    refine Runs.iconst (v := (0 : Int32)) i49_34 (by decide) ?_
    exact Runs.retI (z := (0 : Int32)) i49_35 rfl (Or.inr (Or.inl rfl)) (by decide) (by decide) (by decide) ⟨by rw [if_neg (fun q => hc4 (by rw [q]))], rfl, rfl⟩
set_option maxRecDepth 65536 in
set_option maxHeartbeats 4000000 in
theorem own_eqS (l : Launch) (Z : State) (a0 : Array Value) (hw : Wds Z a0) (n0 : Nat) (a b t u : Addr) (k k2 : ClassId) (cs ds : List Int32) (cpt : Int32) (h0 : Heap) (hab : ¬ a = b) (S1 : Str Z h0 a t k cs) (S2 : Str Z h0 b u k2 ds) (S_C : Sta Z Z.heap "java/lang/String" "COMPACT_STRINGS" "Z" (.int cpt)) (hcpt : ¬ cpt = 0) : Con 2 l Z [("com/example/record_guard/recordguard/conflict/SerializationFailureException", 27), ("com/example/record_guard/recordguard/conflict/SerializationFailureException", 30), ("java/lang/String", 7)] n0 (⟨"java/lang/String", "equals", "(Ljava/lang/Object;)Z"⟩ : MethodName) jdk_42_method_66_code 3 (some .boolean) ({ frames := 1, cells := 0, slots := 0, locals := 14 } : Room) #[(.ref a), (.ref b)] [] h0 (fun v h D' => v = some (.int (if cs = ds then 1 else 0)) ∧ h0 = h ∧ D' = []) := by
  refine Con.of_runs (ls := #[.val (.ref a), .val (.ref b), .unset]) (by decide +kernel) (ef rfl rfl) ?_
  refine Runs.aloadN i48_0 rfl rfl ?_
  refine Runs.aloadN i48_1 rfl rfl ?_
  refine Runs.acY (t := 7) i48_2 (by decide) rfl rfl (Jvm.Free.XT.aa_ne_t (fun q => hab (Value.ref.inj q))) ?_
  refine Runs.aloadN i48_7 rfl rfl ?_
  refine Runs.instY i48_8 (w34 hw) (Jvm.RoadKit.Ins.self S2.1.1) ?_
  refine Runs.ifN i48_11 (feq (by decide : ¬ ((1 : Int32) = (0 : Int32)))).1 ?_
  refine Runs.aloadN i48_14 rfl rfl ?_
  refine Runs.castY i48_15 (w34 hw) (Jvm.RoadKit.Ins.self S2.1.1) ?_
  refine Runs.astoreN (ls' := #[.val (.ref a), .val (.ref b), .val (.ref b)]) i48_18 rfl rfl ?_
  refine Runs.getS i48_19 (w29 hw) Via.refl S_C ?_
  refine Runs.ifN i48_22 (feq hcpt).1 ?_
  refine Runs.aloadN i48_25 rfl rfl ?_
  refine Runs.getF i48_26 (host := "") (Or.inl (w25 hw)) Via.refl (S1.1.fld (i := 1) rfl) ?_
  refine Runs.aloadN i48_29 rfl rfl ?_
  refine Runs.getF i48_30 (host := "") (Or.inl (w25 hw)) Via.refl (S2.1.fld (i := 1) rfl) ?_
  refine Runs.icN i48_33 (teq (by decide : (0 : Int32) = (0 : Int32))).2 ?_
  refine Runs.aloadN i48_36 rfl rfl ?_
  refine Runs.getF i48_37 (host := "") (Or.inl (w24 hw)) Via.refl (S1.1.fld (i := 0) rfl) ?_
  refine Runs.aloadN i48_40 rfl rfl ?_
  refine Runs.getF i48_41 (host := "") (Or.inl (w24 hw)) Via.refl (S2.1.fld (i := 0) rfl) ?_
  refine Runs.callSW (argsL := [(.ref t), (.ref u)]) (rest := []) (W := 0) i48_44 (w283 hw) (w284 hw) (w32 hw) (w285 hw) (by decide) pd_27 rfl rfl rfl rfl (by decide) (by decide) (by decide) (by decide) all0 (by decide) (own_eqB l Z a0 hw n0 (cs.map fun c => (Int32.toInt8 c).toInt32) (ds.map fun c => (Int32.toInt8 c).toInt32) (by rw [List.length_map]; have := S1.2.2.2; omega) (by rw [List.length_map]; have := S2.2.2.2; omega) t u k k2 _ (by rw [List.length_map, ← own_mapb]; exact S1.2.1) (by rw [List.length_map, ← own_mapb]; exact S2.2.1)) ?_
  simp only [own_bmap S1.2.2.1 S2.2.2.1]
  intro v h1 D1 q hsz
  obtain ⟨rfl, rfl, rfl⟩ := q
  show Runs 2 l Z [("com/example/record_guard/recordguard/conflict/SerializationFailureException", 27), ("com/example/record_guard/recordguard/conflict/SerializationFailureException", 30), ("java/lang/String", 7)] n0 _ _ _ _ _ _ _ [] h0 0 0 47 #[.val (.ref a), .val (.ref b), .val (.ref b)] [(.int (if cs = ds then 1 else 0))]
  by_cases hq : cs = ds
  · rw [if_pos hq]
    refine Runs.ifN i48_47 (by decide) ?_
    refine Runs.iconst (v := (1 : Int32)) i48_50 (by decide) ?_
    refine Runs.goto (t := 55) i48_51 (by decide) ?_
    exact Runs.retI (z := (1 : Int32)) i48_55 rfl (Or.inr (Or.inl rfl)) (by decide) (by decide) (by decide) ⟨by simp [hq], rfl, rfl⟩
  · rw [if_neg hq]
    refine Runs.ifY (t := 54) i48_47 (by decide) (by decide) ?_
    refine Runs.iconst (v := (0 : Int32)) i48_54 (by decide) ?_
    exact Runs.retI (z := (0 : Int32)) i48_55 rfl (Or.inr (Or.inl rfl)) (by decide) (by decide) (by decide) ⟨by simp [hq], rfl, rfl⟩
set_option maxRecDepth 65536 in
set_option maxHeartbeats 4000000 in
theorem own_f30 (l : Launch) (Z : State) (a0 : Array Value) (hw : Wds Z a0) (n0 : Nat) (s u : Addr) (k2 : ClassId) (cs : List Int32) (hcs : cs.length ≤ 3) (h0 : Heap) (S0 : Str Z h0 s u k2 cs) (cpt : Int32) (S_C : Sta Z Z.heap "java/lang/String" "COMPACT_STRINGS" "Z" (.int cpt)) (hcpt : ¬ cpt = 0) (hl : l.stackTraces = true) (uS uP : Value) (huS : uS.isRef = true) (huP : uP.isRef = true) (S_U : Sta Z Z.heap "java/lang/Throwable" "UNASSIGNED_STACK" "[Ljava/lang/StackTraceElement;" uS) (S_P : Sta Z Z.heap "java/lang/Throwable" "SUPPRESSED_SENTINEL" "Ljava/util/List;" uP) : Con 2 l Z [("com/example/record_guard/recordguard/conflict/SerializationFailureException", 27), ("com/example/record_guard/recordguard/conflict/SerializationFailureException", 30), ("java/lang/String", 7)] n0 (⟨"com/example/record_guard/recordguard/conflict/SerializationFailureException", "notInCallersSnapshot", "(Ljava/lang/String;)Lcom/example/record_guard/recordguard/conflict/SerializationFailureException;"⟩ : MethodName) prog_64_method_4_code 1 (some (.object "com/example/record_guard/recordguard/conflict/SerializationFailureException")) ({ frames := 8, cells := 9, slots := 4088, locals := 108 } : Room) #[(.ref s)] [] h0 (fun v h D' => ∃ e m u' k', v = some (.ref e) ∧ h0.size ≤ e ∧ h0.size ≤ m ∧ Keep h0 h [] ∧ Obj Z h e "com/example/record_guard/recordguard/conflict/SerializationFailureException" [("java/lang/Throwable", "detailMessage", "Ljava/lang/String;", (.ref m)), ("java/lang/Throwable", "cause", "Ljava/lang/Throwable;", (.ref e))] ∧ Unt h e ∧ Str Z h m u' k' (cs ++ (own_T 112)) ∧ D' = []) := by
  refine Con.of_runs (ls := #[.val (.ref s)]) (by decide +kernel) (ef rfl rfl) ?_
  refine Runs.newO i9_0 (w45 hw) (w46 hw) (w43 hw) (lay_0 hw) (by decide) (by decide) ?_
  intro h_1 b_2 g_5 ge_6 K_3 (O_4 : Obj Z h_1 b_2 "com/example/record_guard/recordguard/conflict/SerializationFailureException" [("java/lang/Throwable", "cause", "Ljava/lang/Throwable;", .null), ("java/lang/Throwable", "stackTrace", "[Ljava/lang/StackTraceElement;", .null), ("java/lang/Throwable", "suppressedExceptions", "Ljava/util/List;", .null), ("java/lang/Throwable", "detailMessage", "Ljava/lang/String;", .null), ("java/lang/Throwable", "backtrace", "Ljava/lang/Object;", .null), ("java/lang/Throwable", "depth", "I", (.int (0 : Int32)))]) U_7
  refine Runs.dup i9_3 rfl ?_
  refine Runs.newO i9_4 (w47 hw) (w48 hw) (w49 hw) (lay_2 hw) (by decide) (by decide) ?_
  intro h_8 b_9 g_12 ge_13 K_10 (O_11 : Obj Z h_8 b_9 "java/lang/StringBuilder" [("java/lang/AbstractStringBuilder", "value", "[B", .null), ("java/lang/AbstractStringBuilder", "coder", "B", (.int (0 : Int32))), ("java/lang/AbstractStringBuilder", "count", "I", (.int (0 : Int32)))]) U_14
  refine Runs.dup i9_7 rfl ?_
  refine Runs.callCW (argsL := []) (rest := [(.ref b_9), (.ref b_2), (.ref b_2)]) (W := 3) i9_8 rfl (w50 hw) (w51 hw) (w52 hw) (w49 hw) (by decide) pd_28 rfl rfl rfl rfl (by decide) (by decide) (by decide) (by decide) all0 (by decide) (own_bi l Z a0 hw n0 b_9 _ ge_13 O_11 cpt S_C hcpt) ?_
  intro v h_20 D1 q hsz
  obtain ⟨rfl, t_15, k_16, g_17, K_18, B_19, rfl⟩ := q
  show Runs 2 l Z [("com/example/record_guard/recordguard/conflict/SerializationFailureException", 27), ("com/example/record_guard/recordguard/conflict/SerializationFailureException", 30), ("java/lang/String", 7)] n0 _ _ _ _ _ _ _ [t_15, b_9, b_2] h_20 3 26 11 #[.val (.ref s)] [(.ref b_9), (.ref b_2), (.ref b_2)]
  have ge_t_15 : n0 ≤ t_15 := Nat.le_trans ge_13 (Nat.le_trans (Nat.le_of_lt O_11.lt) g_17)
  refine Runs.aloadN i9_11 rfl rfl ?_
  have O_22 := (((S0.1.keep K_3 nin0).keep K_10 nin0).keep K_18 (ninS (Nat.ne_of_lt (Nat.lt_of_lt_of_le (Nat.lt_of_lt_of_le S0.1.lt K_3.1) g_12)) nin0))
  have A_23 := (((S0.2.1.keep K_3 nin0).keep K_10 nin0).keep K_18 (ninS (Nat.ne_of_lt (Nat.lt_of_lt_of_le (Nat.lt_of_lt_of_le S0.2.1.lt K_3.1) g_12)) nin0))
  have S_21 : Str Z h_20 s u k2 cs := ⟨O_22, A_23, S0.2.2⟩
  refine Runs.callVW (argsL := [(.ref s)]) (rest := [(.ref b_2), (.ref b_2)]) (W := 2) i9_12 (w65 hw) (w66 hw) (fun s hZ => notFace_of_selects (args := #[]) (mvT hZ (w68 hw))) (w68 hw) (w67 hw) (w69 hw) (w49 hw) (by decide) B_19.1.1 pd_29 rfl rfl rfl rfl (by decide) (by decide) (by decide) (by decide) (allS (List.mem_of_getElem? (i := 0) rfl) all0) (by decide) (own_apf l Z a0 hw n0 b_9 t_15 k_16 16 [] _ B_19 s u k2 cs S_21 (by rw [List.length_nil]; omega) ge_t_15 ge_13 cpt S_C hcpt) ?_
  intro v h_26 D1 q hsz
  obtain ⟨rfl, K_24, B_25, rfl⟩ := q
  show Runs 2 l Z [("com/example/record_guard/recordguard/conflict/SerializationFailureException", 27), ("com/example/record_guard/recordguard/conflict/SerializationFailureException", 30), ("java/lang/String", 7)] n0 _ _ _ _ _ _ _ [t_15, b_9, b_2] h_26 3 26 15 #[.val (.ref s)] [(.ref b_9), (.ref b_2), (.ref b_2)]
  have B_27 : SBd Z h_26 b_9 t_15 k_16 16 cs := B_25
  refine Runs.ldcT (vs := (own_T 112).map own_b) (z := Int32.ofNat (own_T 112).length) (n := 864) (by decide) i9_15 (own_k112 hw) (own_sa hw) (own_EW hw) (List.mem_of_getElem? (i := 1) rfl) ⟨own_c112, own_Tb own_c112⟩ (own_nn (by rw [own_L112]; decide)) (by rw [own_cl (by rw [own_L112]; decide), List.length_map]) (by rw [← own_Tlen, own_L112]; decide) (by decide) (by decide) (by decide) ?_
  intro h_28 s_29 t_30 k_31 K_32 O_33 A_34 dd_35
  have S_36 : Str Z h_28 s_29 t_30 k_31 (own_T 112) := ⟨O_33, A_34, own_Tl own_c112, by rw [own_L112]; decide⟩
  have B_37 : SBd Z h_28 b_9 t_15 k_16 16 cs := ⟨B_27.1.keep K_32 nin0, B_27.2.1.keep K_32 nin0, B_27.2.2.1.keep K_32, B_27.2.2.2⟩
  show Runs 2 l Z [("com/example/record_guard/recordguard/conflict/SerializationFailureException", 27), ("com/example/record_guard/recordguard/conflict/SerializationFailureException", 30), ("java/lang/String", 7)] n0 _ _ _ _ _ _ _ [t_15, b_9, b_2] h_28 5 894 17 #[.val (.ref s)] [(.ref s_29), (.ref b_9), (.ref b_2), (.ref b_2)]
  refine Runs.callVW (argsL := [(.ref s_29)]) (rest := [(.ref b_2), (.ref b_2)]) (W := 2) i9_17 (w65 hw) (w66 hw) (fun s hZ => notFace_of_selects (args := #[]) (mvT hZ (w68 hw))) (w68 hw) (w67 hw) (w69 hw) (w49 hw) (by decide) B_37.1.1 pd_29 rfl rfl rfl rfl (by decide) (by decide) (by decide) (by decide) all0 (by decide) (own_apg l Z a0 hw n0 b_9 t_15 k_16 16 cs _ B_37 s_29 t_30 k_31 (own_T 112) S_36 219 (by rw [own_L112]; omega) (by rw [own_L112]; omega) (Nat.le_trans ge_13 (Nat.le_of_lt B_37.1.lt)) ge_13 cpt S_C hcpt) ?_
  intro v h_43 D1 q hsz
  obtain ⟨rfl, t_38, k_39, g_40, K_41, B_42, rfl⟩ := q
  show Runs 2 l Z [("com/example/record_guard/recordguard/conflict/SerializationFailureException", 27), ("com/example/record_guard/recordguard/conflict/SerializationFailureException", 30), ("java/lang/String", 7)] n0 _ _ _ _ _ _ _ [t_38, t_15, b_9, b_2] h_43 6 1113 20 #[.val (.ref s)] [(.ref b_9), (.ref b_2), (.ref b_2)]
  have B_44 : SBd Z h_43 b_9 t_38 k_39 (cs ++ (own_T 112)).length (cs ++ (own_T 112)) := by
    rw [show 16 + max (cs.length + (own_T 112).length - 16) (16 + 2) = (cs ++ (own_T 112)).length by rw [List.length_append, own_L112]; omega] at B_42
    exact B_42
  refine Runs.callVW (argsL := []) (rest := [(.ref b_2), (.ref b_2)]) (W := 2) i9_20 (w136 hw) (w137 hw) (fun s hZ => notFace_of_selects (args := #[]) (mvT hZ (w139 hw))) (w139 hw) (w138 hw) (w140 hw) (w49 hw) (by decide) B_44.1.1 pd_30 rfl rfl rfl rfl (by decide) (by decide) (by decide) (by decide) all0 (by decide) (own_tos l Z a0 hw n0 b_9 t_38 k_39 (cs ++ (own_T 112)) _ B_44 219 (by rw [List.length_append, own_L112]; omega) cpt S_C hcpt) ?_
  intro v h_52 D1 q hsz
  obtain ⟨m_45, u_46, k_47, rfl, g_48, g_49, K_50, S_51, rfl⟩ := q
  show Runs 2 l Z [("com/example/record_guard/recordguard/conflict/SerializationFailureException", 27), ("com/example/record_guard/recordguard/conflict/SerializationFailureException", 30), ("java/lang/String", 7)] n0 _ _ _ _ _ _ _ [t_38, t_15, b_9, b_2] h_52 8 1336 23 #[.val (.ref s)] [(.ref m_45), (.ref b_2), (.ref b_2)]
  have O_53 := ((((((O_4.keep K_10 nin0).keep K_18 (ninS (Nat.ne_of_lt (Nat.lt_of_lt_of_le (Nat.lt_of_lt_of_le O_4.lt (Nat.le_refl _)) g_12)) nin0)).keep K_24 (ninS (Nat.ne_of_lt (Nat.lt_of_lt_of_le (Nat.lt_of_lt_of_le O_4.lt (Nat.le_refl _)) g_12)) (ninS (Nat.ne_of_lt (Nat.lt_of_lt_of_le (Nat.lt_of_lt_of_le O_4.lt K_10.1) g_17)) nin0))).keep K_32 nin0).keep K_41 (ninS (Nat.ne_of_lt (Nat.lt_of_lt_of_le (Nat.lt_of_lt_of_le O_4.lt (Nat.le_refl _)) g_12)) nin0)).keep K_50 nin0)
  refine Runs.callCW (argsL := [(.ref m_45)]) (rest := [(.ref b_2)]) (W := 1) i9_23 rfl (w178 hw) (w179 hw) (w180 hw) (w43 hw) (by decide) pd_0 rfl rfl rfl rfl (by decide) (by decide) (by decide) (by decide) all0 (by decide) (own_x0 l Z a0 hw n0 b_2 m_45 _ ge_6 O_53 (Unt.keep K_50 nin0 (Unt.keep K_41 (ninS (Nat.ne_of_lt (Nat.lt_of_lt_of_le (Nat.lt_of_lt_of_le O_4.lt (Nat.le_refl _)) g_12)) nin0) (Unt.keep K_32 nin0 (Unt.keep K_24 (ninS (Nat.ne_of_lt (Nat.lt_of_lt_of_le (Nat.lt_of_lt_of_le O_4.lt (Nat.le_refl _)) g_12)) (ninS (Nat.ne_of_lt (Nat.lt_of_lt_of_le (Nat.lt_of_lt_of_le O_4.lt K_10.1) g_17)) nin0)) (Unt.keep K_18 (ninS (Nat.ne_of_lt (Nat.lt_of_lt_of_le (Nat.lt_of_lt_of_le O_4.lt (Nat.le_refl _)) g_12)) nin0) (Unt.keep K_10 nin0 U_7)))))) hl uS uP huS huP S_U S_P) ?_
  intro v h_54 D1 q hsz
  obtain ⟨rfl, K_55, O_57, U_56, rfl⟩ := q
  show Runs 2 l Z [("com/example/record_guard/recordguard/conflict/SerializationFailureException", 27), ("com/example/record_guard/recordguard/conflict/SerializationFailureException", 30), ("java/lang/String", 7)] n0 _ _ _ _ _ _ _ [t_38, t_15, b_9, b_2] h_54 9 4088 26 #[.val (.ref s)] [(.ref b_2)]
  have S_58 := S_51.keep K_55 (ninS (Exa.ne S_51.1.1 O_53.1 (by decide)) nin0) (ninS (Ne.symm (Exa.neArv O_53.1 S_51.2.1 (w46 hw))) nin0)
  refine Runs.weak (D1 := []) (fun _ q => nomatch q) ?_
  exact Runs.retA i9_26 rfl rfl rfl (by decide) (by decide) ⟨b_2, m_45, u_46, k_47, rfl, g_5, (Nat.le_trans (Nat.le_trans (Nat.le_trans (Nat.le_trans (Nat.le_trans (Nat.le_trans K_3.1 K_10.1) K_18.1) K_24.1) K_32.1) K_41.1) g_48), (((((((((Keep.refl _ _).trans K_3 all0).trans K_10 all0).trans K_18 (allS (Or.inr (Nat.le_trans K_3.1 g_12)) all0)).trans K_24 (allS (Or.inr (Nat.le_trans K_3.1 g_12)) (allS (Or.inr (Nat.le_trans (Nat.le_trans K_3.1 K_10.1) g_17)) all0))).trans K_32 all0).trans K_41 (allS (Or.inr (Nat.le_trans K_3.1 g_12)) all0)).trans K_50 all0).trans K_55 (allS (Or.inr (Nat.le_trans (Nat.le_refl _) g_5)) all0)), O_57, U_56, S_58, rfl⟩
set_option maxRecDepth 65536 in
set_option maxHeartbeats 4000000 in
theorem own_f27 (l : Launch) (Z : State) (a0 : Array Value) (hw : Wds Z a0) (n0 : Nat) (s u : Addr) (k2 : ClassId) (cs : List Int32) (hcs : cs.length ≤ 3) (h0 : Heap) (S0 : Str Z h0 s u k2 cs) (cpt : Int32) (S_C : Sta Z Z.heap "java/lang/String" "COMPACT_STRINGS" "Z" (.int cpt)) (hcpt : ¬ cpt = 0) (hl : l.stackTraces = true) (uS uP : Value) (huS : uS.isRef = true) (huP : uP.isRef = true) (S_U : Sta Z Z.heap "java/lang/Throwable" "UNASSIGNED_STACK" "[Ljava/lang/StackTraceElement;" uS) (S_P : Sta Z Z.heap "java/lang/Throwable" "SUPPRESSED_SENTINEL" "Ljava/util/List;" uP) : Con 2 l Z [("com/example/record_guard/recordguard/conflict/SerializationFailureException", 27), ("com/example/record_guard/recordguard/conflict/SerializationFailureException", 30), ("java/lang/String", 7)] n0 (⟨"com/example/record_guard/recordguard/conflict/SerializationFailureException", "notInSnapshot", "(Ljava/lang/String;)Lcom/example/record_guard/recordguard/conflict/SerializationFailureException;"⟩ : MethodName) prog_64_method_3_code 1 (some (.object "com/example/record_guard/recordguard/conflict/SerializationFailureException")) ({ frames := 8, cells := 9, slots := 3968, locals := 108 } : Room) #[(.ref s)] [] h0 (fun v h D' => ∃ e m u' k', v = some (.ref e) ∧ h0.size ≤ e ∧ h0.size ≤ m ∧ Keep h0 h [] ∧ Obj Z h e "com/example/record_guard/recordguard/conflict/SerializationFailureException" [("java/lang/Throwable", "detailMessage", "Ljava/lang/String;", (.ref m)), ("java/lang/Throwable", "cause", "Ljava/lang/Throwable;", (.ref e))] ∧ Unt h e ∧ Str Z h m u' k' (cs ++ (own_T 243)) ∧ D' = []) := by
  refine Con.of_runs (ls := #[.val (.ref s)]) (by decide +kernel) (ef rfl rfl) ?_
  refine Runs.newO i40_0 (w45 hw) (w46 hw) (w43 hw) (lay_0 hw) (by decide) (by decide) ?_
  intro h_1 b_2 g_5 ge_6 K_3 (O_4 : Obj Z h_1 b_2 "com/example/record_guard/recordguard/conflict/SerializationFailureException" [("java/lang/Throwable", "cause", "Ljava/lang/Throwable;", .null), ("java/lang/Throwable", "stackTrace", "[Ljava/lang/StackTraceElement;", .null), ("java/lang/Throwable", "suppressedExceptions", "Ljava/util/List;", .null), ("java/lang/Throwable", "detailMessage", "Ljava/lang/String;", .null), ("java/lang/Throwable", "backtrace", "Ljava/lang/Object;", .null), ("java/lang/Throwable", "depth", "I", (.int (0 : Int32)))]) U_7
  refine Runs.dup i40_3 rfl ?_
  refine Runs.newO i40_4 (w47 hw) (w48 hw) (w49 hw) (lay_2 hw) (by decide) (by decide) ?_
  intro h_8 b_9 g_12 ge_13 K_10 (O_11 : Obj Z h_8 b_9 "java/lang/StringBuilder" [("java/lang/AbstractStringBuilder", "value", "[B", .null), ("java/lang/AbstractStringBuilder", "coder", "B", (.int (0 : Int32))), ("java/lang/AbstractStringBuilder", "count", "I", (.int (0 : Int32)))]) U_14
  refine Runs.dup i40_7 rfl ?_
  refine Runs.callCW (argsL := []) (rest := [(.ref b_9), (.ref b_2), (.ref b_2)]) (W := 3) i40_8 rfl (w50 hw) (w51 hw) (w52 hw) (w49 hw) (by decide) pd_28 rfl rfl rfl rfl (by decide) (by decide) (by decide) (by decide) all0 (by decide) (own_bi l Z a0 hw n0 b_9 _ ge_13 O_11 cpt S_C hcpt) ?_
  intro v h_20 D1 q hsz
  obtain ⟨rfl, t_15, k_16, g_17, K_18, B_19, rfl⟩ := q
  show Runs 2 l Z [("com/example/record_guard/recordguard/conflict/SerializationFailureException", 27), ("com/example/record_guard/recordguard/conflict/SerializationFailureException", 30), ("java/lang/String", 7)] n0 _ _ _ _ _ _ _ [t_15, b_9, b_2] h_20 3 26 11 #[.val (.ref s)] [(.ref b_9), (.ref b_2), (.ref b_2)]
  have ge_t_15 : n0 ≤ t_15 := Nat.le_trans ge_13 (Nat.le_trans (Nat.le_of_lt O_11.lt) g_17)
  refine Runs.aloadN i40_11 rfl rfl ?_
  have O_22 := (((S0.1.keep K_3 nin0).keep K_10 nin0).keep K_18 (ninS (Nat.ne_of_lt (Nat.lt_of_lt_of_le (Nat.lt_of_lt_of_le S0.1.lt K_3.1) g_12)) nin0))
  have A_23 := (((S0.2.1.keep K_3 nin0).keep K_10 nin0).keep K_18 (ninS (Nat.ne_of_lt (Nat.lt_of_lt_of_le (Nat.lt_of_lt_of_le S0.2.1.lt K_3.1) g_12)) nin0))
  have S_21 : Str Z h_20 s u k2 cs := ⟨O_22, A_23, S0.2.2⟩
  refine Runs.callVW (argsL := [(.ref s)]) (rest := [(.ref b_2), (.ref b_2)]) (W := 2) i40_12 (w65 hw) (w66 hw) (fun s hZ => notFace_of_selects (args := #[]) (mvT hZ (w68 hw))) (w68 hw) (w67 hw) (w69 hw) (w49 hw) (by decide) B_19.1.1 pd_29 rfl rfl rfl rfl (by decide) (by decide) (by decide) (by decide) (allS (List.mem_of_getElem? (i := 0) rfl) all0) (by decide) (own_apf l Z a0 hw n0 b_9 t_15 k_16 16 [] _ B_19 s u k2 cs S_21 (by rw [List.length_nil]; omega) ge_t_15 ge_13 cpt S_C hcpt) ?_
  intro v h_26 D1 q hsz
  obtain ⟨rfl, K_24, B_25, rfl⟩ := q
  show Runs 2 l Z [("com/example/record_guard/recordguard/conflict/SerializationFailureException", 27), ("com/example/record_guard/recordguard/conflict/SerializationFailureException", 30), ("java/lang/String", 7)] n0 _ _ _ _ _ _ _ [t_15, b_9, b_2] h_26 3 26 15 #[.val (.ref s)] [(.ref b_9), (.ref b_2), (.ref b_2)]
  have B_27 : SBd Z h_26 b_9 t_15 k_16 16 cs := B_25
  refine Runs.ldcT (vs := (own_T 243).map own_b) (z := Int32.ofNat (own_T 243).length) (n := 784) (by decide) i40_15 (own_k243 hw) (own_sa hw) (own_EW hw) (List.mem_of_getElem? (i := 0) rfl) ⟨own_c243, own_Tb own_c243⟩ (own_nn (by rw [own_L243]; decide)) (by rw [own_cl (by rw [own_L243]; decide), List.length_map]) (by rw [← own_Tlen, own_L243]; decide) (by decide) (by decide) (by decide) ?_
  intro h_28 s_29 t_30 k_31 K_32 O_33 A_34 dd_35
  have S_36 : Str Z h_28 s_29 t_30 k_31 (own_T 243) := ⟨O_33, A_34, own_Tl own_c243, by rw [own_L243]; decide⟩
  have B_37 : SBd Z h_28 b_9 t_15 k_16 16 cs := ⟨B_27.1.keep K_32 nin0, B_27.2.1.keep K_32 nin0, B_27.2.2.1.keep K_32, B_27.2.2.2⟩
  show Runs 2 l Z [("com/example/record_guard/recordguard/conflict/SerializationFailureException", 27), ("com/example/record_guard/recordguard/conflict/SerializationFailureException", 30), ("java/lang/String", 7)] n0 _ _ _ _ _ _ _ [t_15, b_9, b_2] h_28 5 814 17 #[.val (.ref s)] [(.ref s_29), (.ref b_9), (.ref b_2), (.ref b_2)]
  refine Runs.callVW (argsL := [(.ref s_29)]) (rest := [(.ref b_2), (.ref b_2)]) (W := 2) i40_17 (w65 hw) (w66 hw) (fun s hZ => notFace_of_selects (args := #[]) (mvT hZ (w68 hw))) (w68 hw) (w67 hw) (w69 hw) (w49 hw) (by decide) B_37.1.1 pd_29 rfl rfl rfl rfl (by decide) (by decide) (by decide) (by decide) all0 (by decide) (own_apg l Z a0 hw n0 b_9 t_15 k_16 16 cs _ B_37 s_29 t_30 k_31 (own_T 243) S_36 199 (by rw [own_L243]; omega) (by rw [own_L243]; omega) (Nat.le_trans ge_13 (Nat.le_of_lt B_37.1.lt)) ge_13 cpt S_C hcpt) ?_
  intro v h_43 D1 q hsz
  obtain ⟨rfl, t_38, k_39, g_40, K_41, B_42, rfl⟩ := q
  show Runs 2 l Z [("com/example/record_guard/recordguard/conflict/SerializationFailureException", 27), ("com/example/record_guard/recordguard/conflict/SerializationFailureException", 30), ("java/lang/String", 7)] n0 _ _ _ _ _ _ _ [t_38, t_15, b_9, b_2] h_43 6 1013 20 #[.val (.ref s)] [(.ref b_9), (.ref b_2), (.ref b_2)]
  have B_44 : SBd Z h_43 b_9 t_38 k_39 (cs ++ (own_T 243)).length (cs ++ (own_T 243)) := by
    rw [show 16 + max (cs.length + (own_T 243).length - 16) (16 + 2) = (cs ++ (own_T 243)).length by rw [List.length_append, own_L243]; omega] at B_42
    exact B_42
  refine Runs.callVW (argsL := []) (rest := [(.ref b_2), (.ref b_2)]) (W := 2) i40_20 (w136 hw) (w137 hw) (fun s hZ => notFace_of_selects (args := #[]) (mvT hZ (w139 hw))) (w139 hw) (w138 hw) (w140 hw) (w49 hw) (by decide) B_44.1.1 pd_30 rfl rfl rfl rfl (by decide) (by decide) (by decide) (by decide) all0 (by decide) (own_tos l Z a0 hw n0 b_9 t_38 k_39 (cs ++ (own_T 243)) _ B_44 199 (by rw [List.length_append, own_L243]; omega) cpt S_C hcpt) ?_
  intro v h_52 D1 q hsz
  obtain ⟨m_45, u_46, k_47, rfl, g_48, g_49, K_50, S_51, rfl⟩ := q
  show Runs 2 l Z [("com/example/record_guard/recordguard/conflict/SerializationFailureException", 27), ("com/example/record_guard/recordguard/conflict/SerializationFailureException", 30), ("java/lang/String", 7)] n0 _ _ _ _ _ _ _ [t_38, t_15, b_9, b_2] h_52 8 1216 23 #[.val (.ref s)] [(.ref m_45), (.ref b_2), (.ref b_2)]
  have O_53 := ((((((O_4.keep K_10 nin0).keep K_18 (ninS (Nat.ne_of_lt (Nat.lt_of_lt_of_le (Nat.lt_of_lt_of_le O_4.lt (Nat.le_refl _)) g_12)) nin0)).keep K_24 (ninS (Nat.ne_of_lt (Nat.lt_of_lt_of_le (Nat.lt_of_lt_of_le O_4.lt (Nat.le_refl _)) g_12)) (ninS (Nat.ne_of_lt (Nat.lt_of_lt_of_le (Nat.lt_of_lt_of_le O_4.lt K_10.1) g_17)) nin0))).keep K_32 nin0).keep K_41 (ninS (Nat.ne_of_lt (Nat.lt_of_lt_of_le (Nat.lt_of_lt_of_le O_4.lt (Nat.le_refl _)) g_12)) nin0)).keep K_50 nin0)
  refine Runs.callCW (argsL := [(.ref m_45)]) (rest := [(.ref b_2)]) (W := 1) i40_23 rfl (w178 hw) (w179 hw) (w180 hw) (w43 hw) (by decide) pd_0 rfl rfl rfl rfl (by decide) (by decide) (by decide) (by decide) all0 (by decide) (own_x0 l Z a0 hw n0 b_2 m_45 _ ge_6 O_53 (Unt.keep K_50 nin0 (Unt.keep K_41 (ninS (Nat.ne_of_lt (Nat.lt_of_lt_of_le (Nat.lt_of_lt_of_le O_4.lt (Nat.le_refl _)) g_12)) nin0) (Unt.keep K_32 nin0 (Unt.keep K_24 (ninS (Nat.ne_of_lt (Nat.lt_of_lt_of_le (Nat.lt_of_lt_of_le O_4.lt (Nat.le_refl _)) g_12)) (ninS (Nat.ne_of_lt (Nat.lt_of_lt_of_le (Nat.lt_of_lt_of_le O_4.lt K_10.1) g_17)) nin0)) (Unt.keep K_18 (ninS (Nat.ne_of_lt (Nat.lt_of_lt_of_le (Nat.lt_of_lt_of_le O_4.lt (Nat.le_refl _)) g_12)) nin0) (Unt.keep K_10 nin0 U_7)))))) hl uS uP huS huP S_U S_P) ?_
  intro v h_54 D1 q hsz
  obtain ⟨rfl, K_55, O_57, U_56, rfl⟩ := q
  show Runs 2 l Z [("com/example/record_guard/recordguard/conflict/SerializationFailureException", 27), ("com/example/record_guard/recordguard/conflict/SerializationFailureException", 30), ("java/lang/String", 7)] n0 _ _ _ _ _ _ _ [t_38, t_15, b_9, b_2] h_54 9 3968 26 #[.val (.ref s)] [(.ref b_2)]
  have S_58 := S_51.keep K_55 (ninS (Exa.ne S_51.1.1 O_53.1 (by decide)) nin0) (ninS (Ne.symm (Exa.neArv O_53.1 S_51.2.1 (w46 hw))) nin0)
  refine Runs.weak (D1 := []) (fun _ q => nomatch q) ?_
  exact Runs.retA i40_26 rfl rfl rfl (by decide) (by decide) ⟨b_2, m_45, u_46, k_47, rfl, g_5, (Nat.le_trans (Nat.le_trans (Nat.le_trans (Nat.le_trans (Nat.le_trans (Nat.le_trans K_3.1 K_10.1) K_18.1) K_24.1) K_32.1) K_41.1) g_48), (((((((((Keep.refl _ _).trans K_3 all0).trans K_10 all0).trans K_18 (allS (Or.inr (Nat.le_trans K_3.1 g_12)) all0)).trans K_24 (allS (Or.inr (Nat.le_trans K_3.1 g_12)) (allS (Or.inr (Nat.le_trans (Nat.le_trans K_3.1 K_10.1) g_17)) all0))).trans K_32 all0).trans K_41 (allS (Or.inr (Nat.le_trans K_3.1 g_12)) all0)).trans K_50 all0).trans K_55 (allS (Or.inr (Nat.le_trans (Nat.le_refl _) g_5)) all0)), O_57, U_56, S_58, rfl⟩
set_option maxRecDepth 65536 in
set_option maxHeartbeats 4000000 in
theorem own_gm (l : Launch) (Z : State) (a0 : Array Value) (hw : Wds Z a0) (n0 : Nat) (e m : Addr) (h0 : Heap) (O0 : Obj Z h0 e "com/example/record_guard/recordguard/conflict/SerializationFailureException" [("java/lang/Throwable", "detailMessage", "Ljava/lang/String;", (.ref m)), ("java/lang/Throwable", "cause", "Ljava/lang/Throwable;", (.ref e))]) : Con 2 l Z [("com/example/record_guard/recordguard/conflict/SerializationFailureException", 27), ("com/example/record_guard/recordguard/conflict/SerializationFailureException", 30), ("java/lang/String", 7)] n0 (⟨"java/lang/Throwable", "getMessage", "()Ljava/lang/String;"⟩ : MethodName) jdk_78_method_6_code 1 (some (.object "java/lang/String")) ({ frames := 0, cells := 0, slots := 0, locals := 0 } : Room) #[(.ref e)] [] h0 (fun v h D' => v = some (.ref m) ∧ h0 = h ∧ D' = []) := by
  refine Con.of_runs (ls := #[.val (.ref e)]) (by decide +kernel) (ef rfl rfl) ?_
  refine Runs.aloadN i42_0 rfl rfl ?_
  refine Runs.getF i42_1 (host := "") (Or.inl (w239 hw)) Via.refl (O0.fld (i := 0) rfl) ?_
  exact Runs.retA i42_4 rfl rfl rfl (by decide) (by decide) ⟨rfl, rfl, rfl⟩
def own_ch (x : Int32) : Int32 := x &&& 255
theorem own_chr (x : Int32) : ¬ own_ch x < 0 ∧ ¬ (255 : Int32) < own_ch x := own_m255 x
set_option maxRecDepth 65536 in
set_option maxHeartbeats 4000000 in
theorem own_law0 (l : Launch) (Z : State) (a0 : Array Value) (hw : Wds Z a0) (n0 : Nat) (p0 p1 p2 p3 p4 : Int32) (cpt : Int32) (S_C : Sta Z Z.heap "java/lang/String" "COMPACT_STRINGS" "Z" (.int cpt)) (hcpt : ¬ cpt = 0) (fm : Value) (hfm : fm.isRef = true) (S_F : Sta Z Z.heap "jdk/internal/util/Preconditions" "SIOOBE_FORMATTER" "Ljava/util/function/BiFunction;" fm) (hl : l.stackTraces = true) (uS uP : Value) (huS : uS.isRef = true) (huP : uP.isRef = true) (S_U : Sta Z Z.heap "java/lang/Throwable" "UNASSIGNED_STACK" "[Ljava/lang/StackTraceElement;" uS) (S_P : Sta Z Z.heap "java/lang/Throwable" "SUPPRESSED_SENTINEL" "Ljava/util/List;" uP) : Runs 2 l Z [("com/example/record_guard/recordguard/conflict/SerializationFailureException", 27), ("com/example/record_guard/recordguard/conflict/SerializationFailureException", 30), ("java/lang/String", 7)] n0 x.cls x.name code maxLocals ret room_1 (fun v h D' => v = some (.int 1)) [] Z.heap 0 0 29 #[.val (.int p0), .val (.int p1), .val (.int p2), .val (.int p3), .val (.int p4), .val (.int (0 : Int32)), .val (.int (own_ch p1)), .val (.int (own_ch p2)), .val (.int (own_ch p3)), .unset, .unset, .unset, .unset, .unset, .unset, .unset, .unset] [] := by
  refine Runs.iload i0_29 rfl ?_
  refine Runs.iload i0_31 rfl ?_
  refine Runs.iload i0_33 rfl ?_
  refine Runs.iload i0_35 rfl ?_
  refine Runs.callSW (argsL := [(.int (0 : Int32)), (.int (own_ch p1)), (.int (own_ch p2)), (.int (own_ch p3))]) (rest := []) (W := 0) i0_37 (w0 hw) (w1 hw) (w2 hw) (w3 hw) (by decide) pd_31 rfl rfl rfl rfl (by decide) (by decide) (by decide) (by decide) all0 (by decide) (own_mk0 l Z a0 hw n0 (own_ch p1) (own_ch p2) (own_ch p3) (own_chr p1) (own_chr p2) (own_chr p3) _ cpt S_C hcpt) ?_
  intro v h_7 D1 q hsz
  obtain ⟨b_1, t_2, k_3, rfl, g_4, K_5, S_6, rfl⟩ := q
  show Runs 2 l Z [("com/example/record_guard/recordguard/conflict/SerializationFailureException", 27), ("com/example/record_guard/recordguard/conflict/SerializationFailureException", 30), ("java/lang/String", 7)] n0 _ _ _ _ _ _ _ [] h_7 6 12 40 #[.val (.int p0), .val (.int p1), .val (.int p2), .val (.int p3), .val (.int p4), .val (.int (0 : Int32)), .val (.int (own_ch p1)), .val (.int (own_ch p2)), .val (.int (own_ch p3)), .unset, .unset, .unset, .unset, .unset, .unset, .unset, .unset] [(.ref b_1)]
  refine Runs.astore (ls' := #[.val (.int p0), .val (.int p1), .val (.int p2), .val (.int p3), .val (.int p4), .val (.int (0 : Int32)), .val (.int (own_ch p1)), .val (.int (own_ch p2)), .val (.int (own_ch p3)), .val (.ref b_1), .unset, .unset, .unset, .unset, .unset, .unset, .unset]) i0_40 rfl rfl ?_
  refine Runs.iload i0_42 rfl ?_
  refine Runs.sipush (v := (255 : Int32)) i0_44 (by decide) ?_
  refine Runs.iand (z := (own_ch p4)) i0_47 rfl ?_
  refine Runs.i2c (z := (own_ch p4)) i0_48 (own_i2c (own_chr p4)) ?_
  refine Runs.callSW (argsL := [(.int (own_ch p4))]) (rest := []) (W := 0) i0_49 (w26 hw) (w27 hw) (w6 hw) (w28 hw) (by decide) pd_32 rfl rfl rfl rfl (by decide) (by decide) (by decide) (by decide) all0 (by decide) (own_vof l Z a0 hw n0 (own_ch p4) cpt _ (own_chr p4).2 S_C hcpt) ?_
  intro v h_16 D1 q hsz
  obtain ⟨b_8, t_9, k_10, rfl, g_11, g_12, K_13, O_14, A_15, rfl⟩ := q
  show Runs 2 l Z [("com/example/record_guard/recordguard/conflict/SerializationFailureException", 27), ("com/example/record_guard/recordguard/conflict/SerializationFailureException", 30), ("java/lang/String", 7)] n0 _ _ _ _ _ _ _ [] h_16 8 17 52 #[.val (.int p0), .val (.int p1), .val (.int p2), .val (.int p3), .val (.int p4), .val (.int (0 : Int32)), .val (.int (own_ch p1)), .val (.int (own_ch p2)), .val (.int (own_ch p3)), .val (.ref b_1), .unset, .unset, .unset, .unset, .unset, .unset, .unset] [(.ref b_8)]
  have S_17 : Str Z h_16 b_8 t_9 k_10 [(own_ch p4)] := ⟨O_14, A_15, own_lat1 (own_chr p4), by simp⟩
  refine Runs.astore (ls' := #[.val (.int p0), .val (.int p1), .val (.int p2), .val (.int p3), .val (.int p4), .val (.int (0 : Int32)), .val (.int (own_ch p1)), .val (.int (own_ch p2)), .val (.int (own_ch p3)), .val (.ref b_1), .val (.ref b_8), .unset, .unset, .unset, .unset, .unset, .unset]) i0_52 rfl rfl ?_
  refine Runs.aload i0_54 rfl rfl ?_
  have S_18 := (S_6.keep K_13 nin0 nin0)
  refine Runs.callSW (argsL := [(.ref b_1)]) (rest := []) (W := 0) i0_56 (w41 hw) (w42 hw) (w43 hw) (w44 hw) (by decide) pd_33 rfl rfl rfl rfl (by decide) (by decide) (by decide) (by decide) all0 (by decide) (own_f30 l Z a0 hw n0 b_1 t_2 k_3 [] (by simp) _ S_18 cpt S_C hcpt hl uS uP huS huP S_U S_P) ?_
  intro v h_29 D1 q hsz
  obtain ⟨e_19, m_20, u_21, k_22, rfl, g_23, g_24, K_25, O_26, U_27, S_28, rfl⟩ := q
  show Runs 2 l Z [("com/example/record_guard/recordguard/conflict/SerializationFailureException", 27), ("com/example/record_guard/recordguard/conflict/SerializationFailureException", 30), ("java/lang/String", 7)] n0 _ _ _ _ _ _ _ [] h_29 17 4105 59 #[.val (.int p0), .val (.int p1), .val (.int p2), .val (.int p3), .val (.int p4), .val (.int (0 : Int32)), .val (.int (own_ch p1)), .val (.int (own_ch p2)), .val (.int (own_ch p3)), .val (.ref b_1), .val (.ref b_8), .unset, .unset, .unset, .unset, .unset, .unset] [(.ref e_19)]
  refine Runs.astore (ls' := #[.val (.int p0), .val (.int p1), .val (.int p2), .val (.int p3), .val (.int p4), .val (.int (0 : Int32)), .val (.int (own_ch p1)), .val (.int (own_ch p2)), .val (.int (own_ch p3)), .val (.ref b_1), .val (.ref b_8), .val (.ref e_19), .unset, .unset, .unset, .unset, .unset]) i0_59 rfl rfl ?_
  refine Runs.aload i0_61 rfl rfl ?_
  have S_30 := (S_17.keep K_25 nin0 nin0)
  refine Runs.callSW (argsL := [(.ref b_8)]) (rest := []) (W := 0) i0_63 (w41 hw) (w42 hw) (w43 hw) (w44 hw) (by decide) pd_33 rfl rfl rfl rfl (by decide) (by decide) (by decide) (by decide) all0 (by decide) (own_f30 l Z a0 hw n0 b_8 t_9 k_10 [(own_ch p4)] (by simp) _ S_30 cpt S_C hcpt hl uS uP huS huP S_U S_P) ?_
  intro v h_41 D1 q hsz
  obtain ⟨e_31, m_32, u_33, k_34, rfl, g_35, g_36, K_37, O_38, U_39, S_40, rfl⟩ := q
  show Runs 2 l Z [("com/example/record_guard/recordguard/conflict/SerializationFailureException", 27), ("com/example/record_guard/recordguard/conflict/SerializationFailureException", 30), ("java/lang/String", 7)] n0 _ _ _ _ _ _ _ [] h_41 26 8193 66 #[.val (.int p0), .val (.int p1), .val (.int p2), .val (.int p3), .val (.int p4), .val (.int (0 : Int32)), .val (.int (own_ch p1)), .val (.int (own_ch p2)), .val (.int (own_ch p3)), .val (.ref b_1), .val (.ref b_8), .val (.ref e_19), .unset, .unset, .unset, .unset, .unset] [(.ref e_31)]
  refine Runs.astore (ls' := #[.val (.int p0), .val (.int p1), .val (.int p2), .val (.int p3), .val (.int p4), .val (.int (0 : Int32)), .val (.int (own_ch p1)), .val (.int (own_ch p2)), .val (.int (own_ch p3)), .val (.ref b_1), .val (.ref b_8), .val (.ref e_19), .val (.ref e_31), .unset, .unset, .unset, .unset]) i0_66 rfl rfl ?_
  refine Runs.aload i0_68 rfl rfl ?_
  have S_42 := (S_28.keep K_37 nin0 nin0)
  have S_43 := ((S_18.keep K_25 nin0 nin0).keep K_37 nin0 nin0)
  refine Runs.callSW (argsL := [(.ref b_1)]) (rest := []) (W := 0) i0_70 (w240 hw) (w241 hw) (w43 hw) (w242 hw) (by decide) pd_33 rfl rfl rfl rfl (by decide) (by decide) (by decide) (by decide) all0 (by decide) (own_f27 l Z a0 hw n0 b_1 t_2 k_3 [] (by simp) _ S_43 cpt S_C hcpt hl uS uP huS huP S_U S_P) ?_
  intro v h_54 D1 q hsz
  obtain ⟨e_44, m_45, u_46, k_47, rfl, g_48, g_49, K_50, O_51, U_52, S_53, rfl⟩ := q
  show Runs 2 l Z [("com/example/record_guard/recordguard/conflict/SerializationFailureException", 27), ("com/example/record_guard/recordguard/conflict/SerializationFailureException", 30), ("java/lang/String", 7)] n0 _ _ _ _ _ _ _ [] h_54 35 12161 73 #[.val (.int p0), .val (.int p1), .val (.int p2), .val (.int p3), .val (.int p4), .val (.int (0 : Int32)), .val (.int (own_ch p1)), .val (.int (own_ch p2)), .val (.int (own_ch p3)), .val (.ref b_1), .val (.ref b_8), .val (.ref e_19), .val (.ref e_31), .unset, .unset, .unset, .unset] [(.ref e_44)]
  refine Runs.astore (ls' := #[.val (.int p0), .val (.int p1), .val (.int p2), .val (.int p3), .val (.int p4), .val (.int (0 : Int32)), .val (.int (own_ch p1)), .val (.int (own_ch p2)), .val (.int (own_ch p3)), .val (.ref b_1), .val (.ref b_8), .val (.ref e_19), .val (.ref e_31), .val (.ref e_44), .unset, .unset, .unset]) i0_73 rfl rfl ?_
  refine Runs.aload i0_75 rfl rfl ?_
  refine Runs.nullN i0_77 ?_
  refine Runs.aload i0_80 rfl rfl ?_
  refine Runs.nullN i0_82 ?_
  refine Runs.aload i0_85 rfl rfl ?_
  refine Runs.nnullY (t := 92) i0_87 (by decide) ?_
  refine Runs.aload i0_92 rfl rfl ?_
  refine Runs.gcause (W := 0) i0_94 (w244 hw) (w245 hw) (w246 hw) (w248 hw) (w249 hw) (w247 hw) (w201 hw) (w204 hw) ((O_26.keep K_37 nin0).keep K_50 nin0).1 (Unt.keep K_50 nin0 (Unt.keep K_37 nin0 U_27)) (((O_26.keep K_37 nin0).keep K_50 nin0).fld (i := 1) rfl) rfl rfl rfl (by decide) (by decide) (by decide) (by decide) ?_
  rw [show Jvm.RoadKit.gcV e_19 (.ref e_19) = Value.null from if_pos rfl]
  refine Runs.nullY (t := 102) i0_97 (by decide) ?_
  refine Runs.aload i0_102 rfl rfl ?_
  refine Runs.callVUW (argsL := []) (rest := []) (W := 0) i0_104 (w250 hw) (w251 hw) (w252 hw) (by decide) (w254 hw) (w253 hw) (w255 hw) (w201 hw) ((O_26.keep K_37 nin0).keep K_50 nin0).1 pd_30 rfl rfl rfl rfl (by decide) (by decide) (by decide) (by decide) all0 (by decide) (own_gm l Z a0 hw n0 e_19 m_20 _ ((O_26.keep K_37 nin0).keep K_50 nin0)) ?_
  intro v h1 D1 q hsz
  obtain ⟨rfl, rfl, rfl⟩ := q
  show Runs 2 l Z [("com/example/record_guard/recordguard/conflict/SerializationFailureException", 27), ("com/example/record_guard/recordguard/conflict/SerializationFailureException", 30), ("java/lang/String", 7)] n0 _ _ _ _ _ _ _ [] h_54 35 12161 107 #[.val (.int p0), .val (.int p1), .val (.int p2), .val (.int p3), .val (.int p4), .val (.int (0 : Int32)), .val (.int (own_ch p1)), .val (.int (own_ch p2)), .val (.int (own_ch p3)), .val (.ref b_1), .val (.ref b_8), .val (.ref e_19), .val (.ref e_31), .val (.ref e_44), .unset, .unset, .unset] [(.ref m_20)]
  refine Runs.astore (ls' := #[.val (.int p0), .val (.int p1), .val (.int p2), .val (.int p3), .val (.int p4), .val (.int (0 : Int32)), .val (.int (own_ch p1)), .val (.int (own_ch p2)), .val (.int (own_ch p3)), .val (.ref b_1), .val (.ref b_8), .val (.ref e_19), .val (.ref e_31), .val (.ref e_44), .val (.ref m_20), .unset, .unset]) i0_107 rfl rfl ?_
  refine Runs.aload i0_109 rfl rfl ?_
  refine Runs.callVUW (argsL := []) (rest := []) (W := 0) i0_111 (w250 hw) (w251 hw) (w252 hw) (by decide) (w254 hw) (w253 hw) (w255 hw) (w201 hw) (O_38.keep K_50 nin0).1 pd_30 rfl rfl rfl rfl (by decide) (by decide) (by decide) (by decide) all0 (by decide) (own_gm l Z a0 hw n0 e_31 m_32 _ (O_38.keep K_50 nin0)) ?_
  intro v h1 D1 q hsz
  obtain ⟨rfl, rfl, rfl⟩ := q
  show Runs 2 l Z [("com/example/record_guard/recordguard/conflict/SerializationFailureException", 27), ("com/example/record_guard/recordguard/conflict/SerializationFailureException", 30), ("java/lang/String", 7)] n0 _ _ _ _ _ _ _ [] h_54 35 12161 114 #[.val (.int p0), .val (.int p1), .val (.int p2), .val (.int p3), .val (.int p4), .val (.int (0 : Int32)), .val (.int (own_ch p1)), .val (.int (own_ch p2)), .val (.int (own_ch p3)), .val (.ref b_1), .val (.ref b_8), .val (.ref e_19), .val (.ref e_31), .val (.ref e_44), .val (.ref m_20), .unset, .unset] [(.ref m_32)]
  refine Runs.astore (ls' := #[.val (.int p0), .val (.int p1), .val (.int p2), .val (.int p3), .val (.int p4), .val (.int (0 : Int32)), .val (.int (own_ch p1)), .val (.int (own_ch p2)), .val (.int (own_ch p3)), .val (.ref b_1), .val (.ref b_8), .val (.ref e_19), .val (.ref e_31), .val (.ref e_44), .val (.ref m_20), .val (.ref m_32), .unset]) i0_114 rfl rfl ?_
  refine Runs.aload i0_116 rfl rfl ?_
  refine Runs.callVUW (argsL := []) (rest := []) (W := 0) i0_118 (w250 hw) (w251 hw) (w252 hw) (by decide) (w254 hw) (w253 hw) (w255 hw) (w201 hw) O_51.1 pd_30 rfl rfl rfl rfl (by decide) (by decide) (by decide) (by decide) all0 (by decide) (own_gm l Z a0 hw n0 e_44 m_45 _ O_51) ?_
  intro v h1 D1 q hsz
  obtain ⟨rfl, rfl, rfl⟩ := q
  show Runs 2 l Z [("com/example/record_guard/recordguard/conflict/SerializationFailureException", 27), ("com/example/record_guard/recordguard/conflict/SerializationFailureException", 30), ("java/lang/String", 7)] n0 _ _ _ _ _ _ _ [] h_54 35 12161 121 #[.val (.int p0), .val (.int p1), .val (.int p2), .val (.int p3), .val (.int p4), .val (.int (0 : Int32)), .val (.int (own_ch p1)), .val (.int (own_ch p2)), .val (.int (own_ch p3)), .val (.ref b_1), .val (.ref b_8), .val (.ref e_19), .val (.ref e_31), .val (.ref e_44), .val (.ref m_20), .val (.ref m_32), .unset] [(.ref m_45)]
  refine Runs.astore (ls' := #[.val (.int p0), .val (.int p1), .val (.int p2), .val (.int p3), .val (.int p4), .val (.int (0 : Int32)), .val (.int (own_ch p1)), .val (.int (own_ch p2)), .val (.int (own_ch p3)), .val (.ref b_1), .val (.ref b_8), .val (.ref e_19), .val (.ref e_31), .val (.ref e_44), .val (.ref m_20), .val (.ref m_32), .val (.ref m_45)]) i0_121 rfl rfl ?_
  refine Runs.aload i0_123 rfl rfl ?_
  refine Runs.nullN i0_125 ?_
  refine Runs.aload i0_128 rfl rfl ?_
  refine Runs.nullN i0_130 ?_
  refine Runs.aload i0_133 rfl rfl ?_
  refine Runs.nnullY (t := 140) i0_135 (by decide) ?_
  refine Runs.aload i0_140 rfl rfl ?_
  have S_55 := (S_42.keep K_50 nin0 nin0)
  refine Runs.callVW (argsL := []) (rest := []) (W := 0) i0_142 (w256 hw) (w76 hw) (fun s hZ => notFace_of_selects (args := #[]) (mvT hZ (w78 hw))) (w78 hw) (w77 hw) (w79 hw) (w6 hw) (by decide) S_55.1.1 pd_9 rfl rfl rfl rfl (by decide) (by decide) (by decide) (by decide) all0 (by decide) (own_len l Z a0 hw n0 m_20 u_21 k_22 (([] : List Int32) ++ (own_T 112)) _ S_55 cpt S_C hcpt) ?_
  rw [show (([] : List Int32) ++ (own_T 112)).length = 216 from (by rw [List.length_append, own_L112]; rfl)]
  intro v h1 D1 q hsz
  obtain ⟨rfl, rfl, rfl⟩ := q
  show Runs 2 l Z [("com/example/record_guard/recordguard/conflict/SerializationFailureException", 27), ("com/example/record_guard/recordguard/conflict/SerializationFailureException", 30), ("java/lang/String", 7)] n0 _ _ _ _ _ _ _ [] h_54 35 12161 145 #[.val (.int p0), .val (.int p1), .val (.int p2), .val (.int p3), .val (.int p4), .val (.int (0 : Int32)), .val (.int (own_ch p1)), .val (.int (own_ch p2)), .val (.int (own_ch p3)), .val (.ref b_1), .val (.ref b_8), .val (.ref e_19), .val (.ref e_31), .val (.ref e_44), .val (.ref m_20), .val (.ref m_32), .val (.ref m_45)] [(.int (216 : Int32))]
  refine Runs.iload i0_145 rfl ?_
  refine Runs.iconst (v := (4 : Int32)) i0_147 (by decide) ?_
  refine Runs.iadd (z := (4 : Int32)) i0_148 (by decide) ?_
  refine Runs.icN i0_149 (flt (by decide : ¬ ((216 : Int32) < (4 : Int32)))).1 ?_
  refine Runs.aload i0_152 rfl rfl ?_
  have S_56 := (S_40.keep K_50 nin0 nin0)
  refine Runs.callVW (argsL := []) (rest := []) (W := 0) i0_154 (w256 hw) (w76 hw) (fun s hZ => notFace_of_selects (args := #[]) (mvT hZ (w78 hw))) (w78 hw) (w77 hw) (w79 hw) (w6 hw) (by decide) S_56.1.1 pd_9 rfl rfl rfl rfl (by decide) (by decide) (by decide) (by decide) all0 (by decide) (own_len l Z a0 hw n0 m_32 u_33 k_34 (([(own_ch p4)] : List Int32) ++ (own_T 112)) _ S_56 cpt S_C hcpt) ?_
  rw [show (([(own_ch p4)] : List Int32) ++ (own_T 112)).length = 217 from (by rw [List.length_append, own_L112]; rfl)]
  intro v h1 D1 q hsz
  obtain ⟨rfl, rfl, rfl⟩ := q
  show Runs 2 l Z [("com/example/record_guard/recordguard/conflict/SerializationFailureException", 27), ("com/example/record_guard/recordguard/conflict/SerializationFailureException", 30), ("java/lang/String", 7)] n0 _ _ _ _ _ _ _ [] h_54 35 12161 157 #[.val (.int p0), .val (.int p1), .val (.int p2), .val (.int p3), .val (.int p4), .val (.int (0 : Int32)), .val (.int (own_ch p1)), .val (.int (own_ch p2)), .val (.int (own_ch p3)), .val (.ref b_1), .val (.ref b_8), .val (.ref e_19), .val (.ref e_31), .val (.ref e_44), .val (.ref m_20), .val (.ref m_32), .val (.ref m_45)] [(.int (217 : Int32))]
  refine Runs.iconst (v := (5 : Int32)) i0_157 (by decide) ?_
  refine Runs.icY (t := 163) i0_158 (by decide) (flt (by decide : ¬ ((217 : Int32) < (5 : Int32)))).2.1 ?_
  refine Runs.aload i0_163 rfl rfl ?_
  refine Runs.callVW (argsL := []) (rest := []) (W := 0) i0_165 (w256 hw) (w76 hw) (fun s hZ => notFace_of_selects (args := #[]) (mvT hZ (w78 hw))) (w78 hw) (w77 hw) (w79 hw) (w6 hw) (by decide) S_55.1.1 pd_9 rfl rfl rfl rfl (by decide) (by decide) (by decide) (by decide) all0 (by decide) (own_len l Z a0 hw n0 m_20 u_21 k_22 (([] : List Int32) ++ (own_T 112)) _ S_55 cpt S_C hcpt) ?_
  rw [show (([] : List Int32) ++ (own_T 112)).length = 216 from (by rw [List.length_append, own_L112]; rfl)]
  intro v h1 D1 q hsz
  obtain ⟨rfl, rfl, rfl⟩ := q
  show Runs 2 l Z [("com/example/record_guard/recordguard/conflict/SerializationFailureException", 27), ("com/example/record_guard/recordguard/conflict/SerializationFailureException", 30), ("java/lang/String", 7)] n0 _ _ _ _ _ _ _ [] h_54 35 12161 168 #[.val (.int p0), .val (.int p1), .val (.int p2), .val (.int p3), .val (.int p4), .val (.int (0 : Int32)), .val (.int (own_ch p1)), .val (.int (own_ch p2)), .val (.int (own_ch p3)), .val (.ref b_1), .val (.ref b_8), .val (.ref e_19), .val (.ref e_31), .val (.ref e_44), .val (.ref m_20), .val (.ref m_32), .val (.ref m_45)] [(.int (216 : Int32))]
  refine Runs.iload i0_168 rfl ?_
  refine Runs.isub (z := (216 : Int32)) i0_170 (by decide) ?_
  refine Runs.aload i0_171 rfl rfl ?_
  refine Runs.callVW (argsL := []) (rest := [(.int (216 : Int32))]) (W := 1) i0_173 (w256 hw) (w76 hw) (fun s hZ => notFace_of_selects (args := #[]) (mvT hZ (w78 hw))) (w78 hw) (w77 hw) (w79 hw) (w6 hw) (by decide) S_56.1.1 pd_9 rfl rfl rfl rfl (by decide) (by decide) (by decide) (by decide) all0 (by decide) (own_len l Z a0 hw n0 m_32 u_33 k_34 (([(own_ch p4)] : List Int32) ++ (own_T 112)) _ S_56 cpt S_C hcpt) ?_
  rw [show (([(own_ch p4)] : List Int32) ++ (own_T 112)).length = 217 from (by rw [List.length_append, own_L112]; rfl)]
  intro v h1 D1 q hsz
  obtain ⟨rfl, rfl, rfl⟩ := q
  show Runs 2 l Z [("com/example/record_guard/recordguard/conflict/SerializationFailureException", 27), ("com/example/record_guard/recordguard/conflict/SerializationFailureException", 30), ("java/lang/String", 7)] n0 _ _ _ _ _ _ _ [] h_54 35 12161 176 #[.val (.int p0), .val (.int p1), .val (.int p2), .val (.int p3), .val (.int p4), .val (.int (0 : Int32)), .val (.int (own_ch p1)), .val (.int (own_ch p2)), .val (.int (own_ch p3)), .val (.ref b_1), .val (.ref b_8), .val (.ref e_19), .val (.ref e_31), .val (.ref e_44), .val (.ref m_20), .val (.ref m_32), .val (.ref m_45)] [(.int (217 : Int32)), (.int (216 : Int32))]
  refine Runs.iconst (v := (1 : Int32)) i0_176 (by decide) ?_
  refine Runs.isub (z := (216 : Int32)) i0_177 (by decide) ?_
  refine Runs.icY (t := 183) i0_178 (by decide) (teq (by decide : (216 : Int32) = (216 : Int32))).1 ?_
  refine Runs.iload i0_183 rfl ?_
  refine Runs.ifY (t := 201) i0_185 (by decide) (flt (by decide : ¬ ((0 : Int32) < (0 : Int32)))).2.2.2 ?_
  refine Runs.iload i0_201 rfl ?_
  refine Runs.iconst (v := (1 : Int32)) i0_203 (by decide) ?_
  refine Runs.icY (t := 220) i0_204 (by decide) (flt (by decide : ¬ ((1 : Int32) < (0 : Int32)))).2.2.2 ?_
  refine Runs.iload i0_220 rfl ?_
  refine Runs.iconst (v := (2 : Int32)) i0_222 (by decide) ?_
  refine Runs.icY (t := 239) i0_223 (by decide) (flt (by decide : ¬ ((2 : Int32) < (0 : Int32)))).2.2.2 ?_
  refine Runs.aload i0_239 rfl rfl ?_
  refine Runs.iload i0_241 rfl ?_
  refine Runs.callVW (argsL := [(.int (0 : Int32))]) (rest := []) (W := 0) i0_243 (w257 hw) (w258 hw) (fun s hZ => notFace_of_selects (args := #[]) (mvT hZ (w260 hw))) (w260 hw) (w259 hw) (w261 hw) (w6 hw) (by decide) S_55.1.1 pd_34 rfl rfl rfl rfl (by decide) (by decide) (by decide) (by decide) all0 (by decide) (own_cha l Z a0 hw n0 m_20 u_21 k_22 (([] : List Int32) ++ (own_T 112)) _ S_55 0 (by rw [List.length_append, own_L112]; exact Nat.le_of_ble_eq_true rfl) cpt S_C hcpt fm hfm S_F) ?_
  rw [show (([] : List Int32) ++ (own_T 112)).getD 0 0 = ((own_T 112).getD 0 0) from own_app_r [] _ 0]
  intro v h1 D1 q hsz
  obtain ⟨rfl, rfl, rfl⟩ := q
  show Runs 2 l Z [("com/example/record_guard/recordguard/conflict/SerializationFailureException", 27), ("com/example/record_guard/recordguard/conflict/SerializationFailureException", 30), ("java/lang/String", 7)] n0 _ _ _ _ _ _ _ [] h_54 35 12161 246 #[.val (.int p0), .val (.int p1), .val (.int p2), .val (.int p3), .val (.int p4), .val (.int (0 : Int32)), .val (.int (own_ch p1)), .val (.int (own_ch p2)), .val (.int (own_ch p3)), .val (.ref b_1), .val (.ref b_8), .val (.ref e_19), .val (.ref e_31), .val (.ref e_44), .val (.ref m_20), .val (.ref m_32), .val (.ref m_45)] [(.int ((own_T 112).getD 0 0))]
  refine Runs.bipush (v := (58 : Int32)) i0_246 (by decide) ?_
  refine Runs.icN i0_248 (teq own_T0).2 ?_
  refine Runs.aload i0_251 rfl rfl ?_
  refine Runs.iload i0_253 rfl ?_
  refine Runs.iconst (v := (1 : Int32)) i0_255 (by decide) ?_
  refine Runs.iadd (z := (1 : Int32)) i0_256 (by decide) ?_
  refine Runs.callVW (argsL := [(.int (1 : Int32))]) (rest := []) (W := 0) i0_257 (w257 hw) (w258 hw) (fun s hZ => notFace_of_selects (args := #[]) (mvT hZ (w260 hw))) (w260 hw) (w259 hw) (w261 hw) (w6 hw) (by decide) S_55.1.1 pd_34 rfl rfl rfl rfl (by decide) (by decide) (by decide) (by decide) all0 (by decide) (own_cha l Z a0 hw n0 m_20 u_21 k_22 (([] : List Int32) ++ (own_T 112)) _ S_55 1 (by rw [List.length_append, own_L112]; exact Nat.le_of_ble_eq_true rfl) cpt S_C hcpt fm hfm S_F) ?_
  rw [show (([] : List Int32) ++ (own_T 112)).getD 1 0 = ((own_T 112).getD 1 0) from own_app_r [] _ 1]
  intro v h1 D1 q hsz
  obtain ⟨rfl, rfl, rfl⟩ := q
  show Runs 2 l Z [("com/example/record_guard/recordguard/conflict/SerializationFailureException", 27), ("com/example/record_guard/recordguard/conflict/SerializationFailureException", 30), ("java/lang/String", 7)] n0 _ _ _ _ _ _ _ [] h_54 35 12161 260 #[.val (.int p0), .val (.int p1), .val (.int p2), .val (.int p3), .val (.int p4), .val (.int (0 : Int32)), .val (.int (own_ch p1)), .val (.int (own_ch p2)), .val (.int (own_ch p3)), .val (.ref b_1), .val (.ref b_8), .val (.ref e_19), .val (.ref e_31), .val (.ref e_44), .val (.ref m_20), .val (.ref m_32), .val (.ref m_45)] [(.int ((own_T 112).getD 1 0))]
  refine Runs.bipush (v := (32 : Int32)) i0_260 (by decide) ?_
  refine Runs.icY (t := 267) i0_262 (by decide) (teq own_T1).1 ?_
  refine Runs.aload i0_267 rfl rfl ?_
  refine Runs.iconst (v := (0 : Int32)) i0_269 (by decide) ?_
  refine Runs.callVW (argsL := [(.int (0 : Int32))]) (rest := []) (W := 0) i0_270 (w257 hw) (w258 hw) (fun s hZ => notFace_of_selects (args := #[]) (mvT hZ (w260 hw))) (w260 hw) (w259 hw) (w261 hw) (w6 hw) (by decide) S_56.1.1 pd_34 rfl rfl rfl rfl (by decide) (by decide) (by decide) (by decide) all0 (by decide) (own_cha l Z a0 hw n0 m_32 u_33 k_34 (([(own_ch p4)] : List Int32) ++ (own_T 112)) _ S_56 0 (by rw [List.length_append, own_L112]; exact Nat.le_of_ble_eq_true rfl) cpt S_C hcpt fm hfm S_F) ?_
  rw [show (([(own_ch p4)] : List Int32) ++ (own_T 112)).getD 0 0 = (own_ch p4) from rfl]
  intro v h1 D1 q hsz
  obtain ⟨rfl, rfl, rfl⟩ := q
  show Runs 2 l Z [("com/example/record_guard/recordguard/conflict/SerializationFailureException", 27), ("com/example/record_guard/recordguard/conflict/SerializationFailureException", 30), ("java/lang/String", 7)] n0 _ _ _ _ _ _ _ [] h_54 35 12161 273 #[.val (.int p0), .val (.int p1), .val (.int p2), .val (.int p3), .val (.int p4), .val (.int (0 : Int32)), .val (.int (own_ch p1)), .val (.int (own_ch p2)), .val (.int (own_ch p3)), .val (.ref b_1), .val (.ref b_8), .val (.ref e_19), .val (.ref e_31), .val (.ref e_44), .val (.ref m_20), .val (.ref m_32), .val (.ref m_45)] [(.int (own_ch p4))]
  refine Runs.iload i0_273 rfl ?_
  refine Runs.sipush (v := (255 : Int32)) i0_275 (by decide) ?_
  refine Runs.iand (z := (own_ch p4)) i0_278 rfl ?_
  refine Runs.i2c (z := (own_ch p4)) i0_279 (own_i2c (own_chr p4)) ?_
  refine Runs.icY (t := 285) i0_280 (by decide) (teq (rfl : (own_ch p4) = (own_ch p4))).1 ?_
  refine Runs.aload i0_285 rfl rfl ?_
  refine Runs.iload i0_287 rfl ?_
  refine Runs.iconst (v := (2 : Int32)) i0_289 (by decide) ?_
  refine Runs.iadd (z := (2 : Int32)) i0_290 (by decide) ?_
  refine Runs.callVW (argsL := [(.int (2 : Int32))]) (rest := []) (W := 0) i0_291 (w257 hw) (w258 hw) (fun s hZ => notFace_of_selects (args := #[]) (mvT hZ (w260 hw))) (w260 hw) (w259 hw) (w261 hw) (w6 hw) (by decide) S_55.1.1 pd_34 rfl rfl rfl rfl (by decide) (by decide) (by decide) (by decide) all0 (by decide) (own_cha l Z a0 hw n0 m_20 u_21 k_22 (([] : List Int32) ++ (own_T 112)) _ S_55 2 (by rw [List.length_append, own_L112]; exact Nat.le_of_ble_eq_true rfl) cpt S_C hcpt fm hfm S_F) ?_
  rw [show (([] : List Int32) ++ (own_T 112)).getD 2 0 = ((own_T 112).getD 2 0) from own_app_r [] _ 2]
  intro v h1 D1 q hsz
  obtain ⟨rfl, rfl, rfl⟩ := q
  show Runs 2 l Z [("com/example/record_guard/recordguard/conflict/SerializationFailureException", 27), ("com/example/record_guard/recordguard/conflict/SerializationFailureException", 30), ("java/lang/String", 7)] n0 _ _ _ _ _ _ _ [] h_54 35 12161 294 #[.val (.int p0), .val (.int p1), .val (.int p2), .val (.int p3), .val (.int p4), .val (.int (0 : Int32)), .val (.int (own_ch p1)), .val (.int (own_ch p2)), .val (.int (own_ch p3)), .val (.ref b_1), .val (.ref b_8), .val (.ref e_19), .val (.ref e_31), .val (.ref e_44), .val (.ref m_20), .val (.ref m_32), .val (.ref m_45)] [(.int ((own_T 112).getD 2 0))]
  refine Runs.aload i0_294 rfl rfl ?_
  refine Runs.iconst (v := (3 : Int32)) i0_296 (by decide) ?_
  refine Runs.callVW (argsL := [(.int (3 : Int32))]) (rest := [(.int ((own_T 112).getD 2 0))]) (W := 1) i0_297 (w257 hw) (w258 hw) (fun s hZ => notFace_of_selects (args := #[]) (mvT hZ (w260 hw))) (w260 hw) (w259 hw) (w261 hw) (w6 hw) (by decide) S_56.1.1 pd_34 rfl rfl rfl rfl (by decide) (by decide) (by decide) (by decide) all0 (by decide) (own_cha l Z a0 hw n0 m_32 u_33 k_34 (([(own_ch p4)] : List Int32) ++ (own_T 112)) _ S_56 3 (by rw [List.length_append, own_L112]; exact Nat.le_of_ble_eq_true rfl) cpt S_C hcpt fm hfm S_F) ?_
  rw [show (([(own_ch p4)] : List Int32) ++ (own_T 112)).getD 3 0 = ((own_T 112).getD 2 0) from own_app_r [(own_ch p4)] _ 2]
  intro v h1 D1 q hsz
  obtain ⟨rfl, rfl, rfl⟩ := q
  show Runs 2 l Z [("com/example/record_guard/recordguard/conflict/SerializationFailureException", 27), ("com/example/record_guard/recordguard/conflict/SerializationFailureException", 30), ("java/lang/String", 7)] n0 _ _ _ _ _ _ _ [] h_54 35 12161 300 #[.val (.int p0), .val (.int p1), .val (.int p2), .val (.int p3), .val (.int p4), .val (.int (0 : Int32)), .val (.int (own_ch p1)), .val (.int (own_ch p2)), .val (.int (own_ch p3)), .val (.ref b_1), .val (.ref b_8), .val (.ref e_19), .val (.ref e_31), .val (.ref e_44), .val (.ref m_20), .val (.ref m_32), .val (.ref m_45)] [(.int ((own_T 112).getD 2 0)), (.int ((own_T 112).getD 2 0))]
  refine Runs.icY (t := 305) i0_300 (by decide) (teq (rfl : ((own_T 112).getD 2 0) = ((own_T 112).getD 2 0))).1 ?_
  refine Runs.aload i0_305 rfl rfl ?_
  refine Runs.iload i0_307 rfl ?_
  refine Runs.iconst (v := (3 : Int32)) i0_309 (by decide) ?_
  refine Runs.iadd (z := (3 : Int32)) i0_310 (by decide) ?_
  refine Runs.callVW (argsL := [(.int (3 : Int32))]) (rest := []) (W := 0) i0_311 (w257 hw) (w258 hw) (fun s hZ => notFace_of_selects (args := #[]) (mvT hZ (w260 hw))) (w260 hw) (w259 hw) (w261 hw) (w6 hw) (by decide) S_55.1.1 pd_34 rfl rfl rfl rfl (by decide) (by decide) (by decide) (by decide) all0 (by decide) (own_cha l Z a0 hw n0 m_20 u_21 k_22 (([] : List Int32) ++ (own_T 112)) _ S_55 3 (by rw [List.length_append, own_L112]; exact Nat.le_of_ble_eq_true rfl) cpt S_C hcpt fm hfm S_F) ?_
  rw [show (([] : List Int32) ++ (own_T 112)).getD 3 0 = ((own_T 112).getD 3 0) from own_app_r [] _ 3]
  intro v h1 D1 q hsz
  obtain ⟨rfl, rfl, rfl⟩ := q
  show Runs 2 l Z [("com/example/record_guard/recordguard/conflict/SerializationFailureException", 27), ("com/example/record_guard/recordguard/conflict/SerializationFailureException", 30), ("java/lang/String", 7)] n0 _ _ _ _ _ _ _ [] h_54 35 12161 314 #[.val (.int p0), .val (.int p1), .val (.int p2), .val (.int p3), .val (.int p4), .val (.int (0 : Int32)), .val (.int (own_ch p1)), .val (.int (own_ch p2)), .val (.int (own_ch p3)), .val (.ref b_1), .val (.ref b_8), .val (.ref e_19), .val (.ref e_31), .val (.ref e_44), .val (.ref m_20), .val (.ref m_32), .val (.ref m_45)] [(.int ((own_T 112).getD 3 0))]
  refine Runs.aload i0_314 rfl rfl ?_
  refine Runs.iconst (v := (4 : Int32)) i0_316 (by decide) ?_
  refine Runs.callVW (argsL := [(.int (4 : Int32))]) (rest := [(.int ((own_T 112).getD 3 0))]) (W := 1) i0_317 (w257 hw) (w258 hw) (fun s hZ => notFace_of_selects (args := #[]) (mvT hZ (w260 hw))) (w260 hw) (w259 hw) (w261 hw) (w6 hw) (by decide) S_56.1.1 pd_34 rfl rfl rfl rfl (by decide) (by decide) (by decide) (by decide) all0 (by decide) (own_cha l Z a0 hw n0 m_32 u_33 k_34 (([(own_ch p4)] : List Int32) ++ (own_T 112)) _ S_56 4 (by rw [List.length_append, own_L112]; exact Nat.le_of_ble_eq_true rfl) cpt S_C hcpt fm hfm S_F) ?_
  rw [show (([(own_ch p4)] : List Int32) ++ (own_T 112)).getD 4 0 = ((own_T 112).getD 3 0) from own_app_r [(own_ch p4)] _ 3]
  intro v h1 D1 q hsz
  obtain ⟨rfl, rfl, rfl⟩ := q
  show Runs 2 l Z [("com/example/record_guard/recordguard/conflict/SerializationFailureException", 27), ("com/example/record_guard/recordguard/conflict/SerializationFailureException", 30), ("java/lang/String", 7)] n0 _ _ _ _ _ _ _ [] h_54 35 12161 320 #[.val (.int p0), .val (.int p1), .val (.int p2), .val (.int p3), .val (.int p4), .val (.int (0 : Int32)), .val (.int (own_ch p1)), .val (.int (own_ch p2)), .val (.int (own_ch p3)), .val (.ref b_1), .val (.ref b_8), .val (.ref e_19), .val (.ref e_31), .val (.ref e_44), .val (.ref m_20), .val (.ref m_32), .val (.ref m_45)] [(.int ((own_T 112).getD 3 0)), (.int ((own_T 112).getD 3 0))]
  refine Runs.icY (t := 325) i0_320 (by decide) (teq (rfl : ((own_T 112).getD 3 0) = ((own_T 112).getD 3 0))).1 ?_
  refine Runs.aload i0_325 rfl rfl ?_
  refine Runs.aload i0_327 rfl rfl ?_
  refine Runs.callVW (argsL := []) (rest := [(.ref m_20)]) (W := 1) i0_329 (w256 hw) (w76 hw) (fun s hZ => notFace_of_selects (args := #[]) (mvT hZ (w78 hw))) (w78 hw) (w77 hw) (w79 hw) (w6 hw) (by decide) S_55.1.1 pd_9 rfl rfl rfl rfl (by decide) (by decide) (by decide) (by decide) all0 (by decide) (own_len l Z a0 hw n0 m_20 u_21 k_22 (([] : List Int32) ++ (own_T 112)) _ S_55 cpt S_C hcpt) ?_
  rw [show (([] : List Int32) ++ (own_T 112)).length = 216 from (by rw [List.length_append, own_L112]; rfl)]
  intro v h1 D1 q hsz
  obtain ⟨rfl, rfl, rfl⟩ := q
  show Runs 2 l Z [("com/example/record_guard/recordguard/conflict/SerializationFailureException", 27), ("com/example/record_guard/recordguard/conflict/SerializationFailureException", 30), ("java/lang/String", 7)] n0 _ _ _ _ _ _ _ [] h_54 35 12161 332 #[.val (.int p0), .val (.int p1), .val (.int p2), .val (.int p3), .val (.int p4), .val (.int (0 : Int32)), .val (.int (own_ch p1)), .val (.int (own_ch p2)), .val (.int (own_ch p3)), .val (.ref b_1), .val (.ref b_8), .val (.ref e_19), .val (.ref e_31), .val (.ref e_44), .val (.ref m_20), .val (.ref m_32), .val (.ref m_45)] [(.int (216 : Int32)), (.ref m_20)]
  refine Runs.iconst (v := (1 : Int32)) i0_332 (by decide) ?_
  refine Runs.isub (z := (215 : Int32)) i0_333 (by decide) ?_
  refine Runs.callVW (argsL := [(.int (215 : Int32))]) (rest := []) (W := 0) i0_334 (w257 hw) (w258 hw) (fun s hZ => notFace_of_selects (args := #[]) (mvT hZ (w260 hw))) (w260 hw) (w259 hw) (w261 hw) (w6 hw) (by decide) S_55.1.1 pd_34 rfl rfl rfl rfl (by decide) (by decide) (by decide) (by decide) all0 (by decide) (own_cha l Z a0 hw n0 m_20 u_21 k_22 (([] : List Int32) ++ (own_T 112)) _ S_55 215 (by rw [List.length_append, own_L112]; exact Nat.le_of_ble_eq_true rfl) cpt S_C hcpt fm hfm S_F) ?_
  rw [show (([] : List Int32) ++ (own_T 112)).getD 215 0 = ((own_T 112).getD 215 0) from own_app_r [] _ 215]
  intro v h1 D1 q hsz
  obtain ⟨rfl, rfl, rfl⟩ := q
  show Runs 2 l Z [("com/example/record_guard/recordguard/conflict/SerializationFailureException", 27), ("com/example/record_guard/recordguard/conflict/SerializationFailureException", 30), ("java/lang/String", 7)] n0 _ _ _ _ _ _ _ [] h_54 35 12161 337 #[.val (.int p0), .val (.int p1), .val (.int p2), .val (.int p3), .val (.int p4), .val (.int (0 : Int32)), .val (.int (own_ch p1)), .val (.int (own_ch p2)), .val (.int (own_ch p3)), .val (.ref b_1), .val (.ref b_8), .val (.ref e_19), .val (.ref e_31), .val (.ref e_44), .val (.ref m_20), .val (.ref m_32), .val (.ref m_45)] [(.int ((own_T 112).getD 215 0))]
  refine Runs.aload i0_337 rfl rfl ?_
  refine Runs.aload i0_339 rfl rfl ?_
  refine Runs.callVW (argsL := []) (rest := [(.ref m_32), (.int ((own_T 112).getD 215 0))]) (W := 2) i0_341 (w256 hw) (w76 hw) (fun s hZ => notFace_of_selects (args := #[]) (mvT hZ (w78 hw))) (w78 hw) (w77 hw) (w79 hw) (w6 hw) (by decide) S_56.1.1 pd_9 rfl rfl rfl rfl (by decide) (by decide) (by decide) (by decide) all0 (by decide) (own_len l Z a0 hw n0 m_32 u_33 k_34 (([(own_ch p4)] : List Int32) ++ (own_T 112)) _ S_56 cpt S_C hcpt) ?_
  rw [show (([(own_ch p4)] : List Int32) ++ (own_T 112)).length = 217 from (by rw [List.length_append, own_L112]; rfl)]
  intro v h1 D1 q hsz
  obtain ⟨rfl, rfl, rfl⟩ := q
  show Runs 2 l Z [("com/example/record_guard/recordguard/conflict/SerializationFailureException", 27), ("com/example/record_guard/recordguard/conflict/SerializationFailureException", 30), ("java/lang/String", 7)] n0 _ _ _ _ _ _ _ [] h_54 35 12161 344 #[.val (.int p0), .val (.int p1), .val (.int p2), .val (.int p3), .val (.int p4), .val (.int (0 : Int32)), .val (.int (own_ch p1)), .val (.int (own_ch p2)), .val (.int (own_ch p3)), .val (.ref b_1), .val (.ref b_8), .val (.ref e_19), .val (.ref e_31), .val (.ref e_44), .val (.ref m_20), .val (.ref m_32), .val (.ref m_45)] [(.int (217 : Int32)), (.ref m_32), (.int ((own_T 112).getD 215 0))]
  refine Runs.iconst (v := (1 : Int32)) i0_344 (by decide) ?_
  refine Runs.isub (z := (216 : Int32)) i0_345 (by decide) ?_
  refine Runs.callVW (argsL := [(.int (216 : Int32))]) (rest := [(.int ((own_T 112).getD 215 0))]) (W := 1) i0_346 (w257 hw) (w258 hw) (fun s hZ => notFace_of_selects (args := #[]) (mvT hZ (w260 hw))) (w260 hw) (w259 hw) (w261 hw) (w6 hw) (by decide) S_56.1.1 pd_34 rfl rfl rfl rfl (by decide) (by decide) (by decide) (by decide) all0 (by decide) (own_cha l Z a0 hw n0 m_32 u_33 k_34 (([(own_ch p4)] : List Int32) ++ (own_T 112)) _ S_56 216 (by rw [List.length_append, own_L112]; exact Nat.le_of_ble_eq_true rfl) cpt S_C hcpt fm hfm S_F) ?_
  rw [show (([(own_ch p4)] : List Int32) ++ (own_T 112)).getD 216 0 = ((own_T 112).getD 215 0) from own_app_r [(own_ch p4)] _ 215]
  intro v h1 D1 q hsz
  obtain ⟨rfl, rfl, rfl⟩ := q
  show Runs 2 l Z [("com/example/record_guard/recordguard/conflict/SerializationFailureException", 27), ("com/example/record_guard/recordguard/conflict/SerializationFailureException", 30), ("java/lang/String", 7)] n0 _ _ _ _ _ _ _ [] h_54 35 12161 349 #[.val (.int p0), .val (.int p1), .val (.int p2), .val (.int p3), .val (.int p4), .val (.int (0 : Int32)), .val (.int (own_ch p1)), .val (.int (own_ch p2)), .val (.int (own_ch p3)), .val (.ref b_1), .val (.ref b_8), .val (.ref e_19), .val (.ref e_31), .val (.ref e_44), .val (.ref m_20), .val (.ref m_32), .val (.ref m_45)] [(.int ((own_T 112).getD 215 0)), (.int ((own_T 112).getD 215 0))]
  refine Runs.icY (t := 354) i0_349 (by decide) (teq (rfl : ((own_T 112).getD 215 0) = ((own_T 112).getD 215 0))).1 ?_
  refine Runs.aload i0_354 rfl rfl ?_
  refine Runs.aload i0_356 rfl rfl ?_
  refine Runs.callVW (argsL := [(.ref m_45)]) (rest := []) (W := 0) i0_358 (w278 hw) (w279 hw) (fun s hZ => notFace_of_selects (args := #[]) (mvT hZ (w281 hw))) (w281 hw) (w280 hw) (w282 hw) (w6 hw) (by decide) S_55.1.1 pd_35 rfl rfl rfl rfl (by decide) (by decide) (by decide) (by decide) all0 (by decide) (own_eqS l Z a0 hw n0 m_20 m_45 u_21 u_46 k_22 k_47 (([] : List Int32) ++ (own_T 112)) (([] : List Int32) ++ (own_T 243)) cpt _ (Nat.ne_of_lt (Nat.lt_of_lt_of_le S_42.1.lt g_49)) S_55 S_53 S_C hcpt) ?_
  rw [if_neg (own_neT [])]
  intro v h1 D1 q hsz
  obtain ⟨rfl, rfl, rfl⟩ := q
  show Runs 2 l Z [("com/example/record_guard/recordguard/conflict/SerializationFailureException", 27), ("com/example/record_guard/recordguard/conflict/SerializationFailureException", 30), ("java/lang/String", 7)] n0 _ _ _ _ _ _ _ [] h_54 35 12161 361 #[.val (.int p0), .val (.int p1), .val (.int p2), .val (.int p3), .val (.int p4), .val (.int (0 : Int32)), .val (.int (own_ch p1)), .val (.int (own_ch p2)), .val (.int (own_ch p3)), .val (.ref b_1), .val (.ref b_8), .val (.ref e_19), .val (.ref e_31), .val (.ref e_44), .val (.ref m_20), .val (.ref m_32), .val (.ref m_45)] [(.int (0 : Int32))]
  refine Runs.ifN i0_361 (teq (by decide : (0 : Int32) = (0 : Int32))).2 ?_
  refine Runs.iconst (v := (1 : Int32)) i0_364 (by decide) ?_
  refine Runs.goto (t := 369) i0_365 (by decide) ?_
  exact Runs.retI (z := (1 : Int32)) i0_369 rfl (Or.inr (Or.inl rfl)) (by decide) (by decide) (by decide) rfl
set_option maxRecDepth 65536 in
set_option maxHeartbeats 4000000 in
theorem own_law1 (l : Launch) (Z : State) (a0 : Array Value) (hw : Wds Z a0) (n0 : Nat) (p0 p1 p2 p3 p4 : Int32) (cpt : Int32) (S_C : Sta Z Z.heap "java/lang/String" "COMPACT_STRINGS" "Z" (.int cpt)) (hcpt : ¬ cpt = 0) (fm : Value) (hfm : fm.isRef = true) (S_F : Sta Z Z.heap "jdk/internal/util/Preconditions" "SIOOBE_FORMATTER" "Ljava/util/function/BiFunction;" fm) (hl : l.stackTraces = true) (uS uP : Value) (huS : uS.isRef = true) (huP : uP.isRef = true) (S_U : Sta Z Z.heap "java/lang/Throwable" "UNASSIGNED_STACK" "[Ljava/lang/StackTraceElement;" uS) (S_P : Sta Z Z.heap "java/lang/Throwable" "SUPPRESSED_SENTINEL" "Ljava/util/List;" uP) : Runs 2 l Z [("com/example/record_guard/recordguard/conflict/SerializationFailureException", 27), ("com/example/record_guard/recordguard/conflict/SerializationFailureException", 30), ("java/lang/String", 7)] n0 x.cls x.name code maxLocals ret room_1 (fun v h D' => v = some (.int 1)) [] Z.heap 0 0 29 #[.val (.int p0), .val (.int p1), .val (.int p2), .val (.int p3), .val (.int p4), .val (.int (1 : Int32)), .val (.int (own_ch p1)), .val (.int (own_ch p2)), .val (.int (own_ch p3)), .unset, .unset, .unset, .unset, .unset, .unset, .unset, .unset] [] := by
  refine Runs.iload i0_29 rfl ?_
  refine Runs.iload i0_31 rfl ?_
  refine Runs.iload i0_33 rfl ?_
  refine Runs.iload i0_35 rfl ?_
  refine Runs.callSW (argsL := [(.int (1 : Int32)), (.int (own_ch p1)), (.int (own_ch p2)), (.int (own_ch p3))]) (rest := []) (W := 0) i0_37 (w0 hw) (w1 hw) (w2 hw) (w3 hw) (by decide) pd_31 rfl rfl rfl rfl (by decide) (by decide) (by decide) (by decide) all0 (by decide) (own_mk1 l Z a0 hw n0 (own_ch p1) (own_ch p2) (own_ch p3) (own_chr p1) (own_chr p2) (own_chr p3) _ cpt S_C hcpt) ?_
  intro v h_7 D1 q hsz
  obtain ⟨b_1, t_2, k_3, rfl, g_4, K_5, S_6, rfl⟩ := q
  show Runs 2 l Z [("com/example/record_guard/recordguard/conflict/SerializationFailureException", 27), ("com/example/record_guard/recordguard/conflict/SerializationFailureException", 30), ("java/lang/String", 7)] n0 _ _ _ _ _ _ _ [] h_7 6 12 40 #[.val (.int p0), .val (.int p1), .val (.int p2), .val (.int p3), .val (.int p4), .val (.int (1 : Int32)), .val (.int (own_ch p1)), .val (.int (own_ch p2)), .val (.int (own_ch p3)), .unset, .unset, .unset, .unset, .unset, .unset, .unset, .unset] [(.ref b_1)]
  refine Runs.astore (ls' := #[.val (.int p0), .val (.int p1), .val (.int p2), .val (.int p3), .val (.int p4), .val (.int (1 : Int32)), .val (.int (own_ch p1)), .val (.int (own_ch p2)), .val (.int (own_ch p3)), .val (.ref b_1), .unset, .unset, .unset, .unset, .unset, .unset, .unset]) i0_40 rfl rfl ?_
  refine Runs.iload i0_42 rfl ?_
  refine Runs.sipush (v := (255 : Int32)) i0_44 (by decide) ?_
  refine Runs.iand (z := (own_ch p4)) i0_47 rfl ?_
  refine Runs.i2c (z := (own_ch p4)) i0_48 (own_i2c (own_chr p4)) ?_
  refine Runs.callSW (argsL := [(.int (own_ch p4))]) (rest := []) (W := 0) i0_49 (w26 hw) (w27 hw) (w6 hw) (w28 hw) (by decide) pd_32 rfl rfl rfl rfl (by decide) (by decide) (by decide) (by decide) all0 (by decide) (own_vof l Z a0 hw n0 (own_ch p4) cpt _ (own_chr p4).2 S_C hcpt) ?_
  intro v h_16 D1 q hsz
  obtain ⟨b_8, t_9, k_10, rfl, g_11, g_12, K_13, O_14, A_15, rfl⟩ := q
  show Runs 2 l Z [("com/example/record_guard/recordguard/conflict/SerializationFailureException", 27), ("com/example/record_guard/recordguard/conflict/SerializationFailureException", 30), ("java/lang/String", 7)] n0 _ _ _ _ _ _ _ [] h_16 8 17 52 #[.val (.int p0), .val (.int p1), .val (.int p2), .val (.int p3), .val (.int p4), .val (.int (1 : Int32)), .val (.int (own_ch p1)), .val (.int (own_ch p2)), .val (.int (own_ch p3)), .val (.ref b_1), .unset, .unset, .unset, .unset, .unset, .unset, .unset] [(.ref b_8)]
  have S_17 : Str Z h_16 b_8 t_9 k_10 [(own_ch p4)] := ⟨O_14, A_15, own_lat1 (own_chr p4), by simp⟩
  refine Runs.astore (ls' := #[.val (.int p0), .val (.int p1), .val (.int p2), .val (.int p3), .val (.int p4), .val (.int (1 : Int32)), .val (.int (own_ch p1)), .val (.int (own_ch p2)), .val (.int (own_ch p3)), .val (.ref b_1), .val (.ref b_8), .unset, .unset, .unset, .unset, .unset, .unset]) i0_52 rfl rfl ?_
  refine Runs.aload i0_54 rfl rfl ?_
  have S_18 := (S_6.keep K_13 nin0 nin0)
  refine Runs.callSW (argsL := [(.ref b_1)]) (rest := []) (W := 0) i0_56 (w41 hw) (w42 hw) (w43 hw) (w44 hw) (by decide) pd_33 rfl rfl rfl rfl (by decide) (by decide) (by decide) (by decide) all0 (by decide) (own_f30 l Z a0 hw n0 b_1 t_2 k_3 [(own_ch p1)] (by simp) _ S_18 cpt S_C hcpt hl uS uP huS huP S_U S_P) ?_
  intro v h_29 D1 q hsz
  obtain ⟨e_19, m_20, u_21, k_22, rfl, g_23, g_24, K_25, O_26, U_27, S_28, rfl⟩ := q
  show Runs 2 l Z [("com/example/record_guard/recordguard/conflict/SerializationFailureException", 27), ("com/example/record_guard/recordguard/conflict/SerializationFailureException", 30), ("java/lang/String", 7)] n0 _ _ _ _ _ _ _ [] h_29 17 4105 59 #[.val (.int p0), .val (.int p1), .val (.int p2), .val (.int p3), .val (.int p4), .val (.int (1 : Int32)), .val (.int (own_ch p1)), .val (.int (own_ch p2)), .val (.int (own_ch p3)), .val (.ref b_1), .val (.ref b_8), .unset, .unset, .unset, .unset, .unset, .unset] [(.ref e_19)]
  refine Runs.astore (ls' := #[.val (.int p0), .val (.int p1), .val (.int p2), .val (.int p3), .val (.int p4), .val (.int (1 : Int32)), .val (.int (own_ch p1)), .val (.int (own_ch p2)), .val (.int (own_ch p3)), .val (.ref b_1), .val (.ref b_8), .val (.ref e_19), .unset, .unset, .unset, .unset, .unset]) i0_59 rfl rfl ?_
  refine Runs.aload i0_61 rfl rfl ?_
  have S_30 := (S_17.keep K_25 nin0 nin0)
  refine Runs.callSW (argsL := [(.ref b_8)]) (rest := []) (W := 0) i0_63 (w41 hw) (w42 hw) (w43 hw) (w44 hw) (by decide) pd_33 rfl rfl rfl rfl (by decide) (by decide) (by decide) (by decide) all0 (by decide) (own_f30 l Z a0 hw n0 b_8 t_9 k_10 [(own_ch p4)] (by simp) _ S_30 cpt S_C hcpt hl uS uP huS huP S_U S_P) ?_
  intro v h_41 D1 q hsz
  obtain ⟨e_31, m_32, u_33, k_34, rfl, g_35, g_36, K_37, O_38, U_39, S_40, rfl⟩ := q
  show Runs 2 l Z [("com/example/record_guard/recordguard/conflict/SerializationFailureException", 27), ("com/example/record_guard/recordguard/conflict/SerializationFailureException", 30), ("java/lang/String", 7)] n0 _ _ _ _ _ _ _ [] h_41 26 8193 66 #[.val (.int p0), .val (.int p1), .val (.int p2), .val (.int p3), .val (.int p4), .val (.int (1 : Int32)), .val (.int (own_ch p1)), .val (.int (own_ch p2)), .val (.int (own_ch p3)), .val (.ref b_1), .val (.ref b_8), .val (.ref e_19), .unset, .unset, .unset, .unset, .unset] [(.ref e_31)]
  refine Runs.astore (ls' := #[.val (.int p0), .val (.int p1), .val (.int p2), .val (.int p3), .val (.int p4), .val (.int (1 : Int32)), .val (.int (own_ch p1)), .val (.int (own_ch p2)), .val (.int (own_ch p3)), .val (.ref b_1), .val (.ref b_8), .val (.ref e_19), .val (.ref e_31), .unset, .unset, .unset, .unset]) i0_66 rfl rfl ?_
  refine Runs.aload i0_68 rfl rfl ?_
  have S_42 := (S_28.keep K_37 nin0 nin0)
  have S_43 := ((S_18.keep K_25 nin0 nin0).keep K_37 nin0 nin0)
  refine Runs.callSW (argsL := [(.ref b_1)]) (rest := []) (W := 0) i0_70 (w240 hw) (w241 hw) (w43 hw) (w242 hw) (by decide) pd_33 rfl rfl rfl rfl (by decide) (by decide) (by decide) (by decide) all0 (by decide) (own_f27 l Z a0 hw n0 b_1 t_2 k_3 [(own_ch p1)] (by simp) _ S_43 cpt S_C hcpt hl uS uP huS huP S_U S_P) ?_
  intro v h_54 D1 q hsz
  obtain ⟨e_44, m_45, u_46, k_47, rfl, g_48, g_49, K_50, O_51, U_52, S_53, rfl⟩ := q
  show Runs 2 l Z [("com/example/record_guard/recordguard/conflict/SerializationFailureException", 27), ("com/example/record_guard/recordguard/conflict/SerializationFailureException", 30), ("java/lang/String", 7)] n0 _ _ _ _ _ _ _ [] h_54 35 12161 73 #[.val (.int p0), .val (.int p1), .val (.int p2), .val (.int p3), .val (.int p4), .val (.int (1 : Int32)), .val (.int (own_ch p1)), .val (.int (own_ch p2)), .val (.int (own_ch p3)), .val (.ref b_1), .val (.ref b_8), .val (.ref e_19), .val (.ref e_31), .unset, .unset, .unset, .unset] [(.ref e_44)]
  refine Runs.astore (ls' := #[.val (.int p0), .val (.int p1), .val (.int p2), .val (.int p3), .val (.int p4), .val (.int (1 : Int32)), .val (.int (own_ch p1)), .val (.int (own_ch p2)), .val (.int (own_ch p3)), .val (.ref b_1), .val (.ref b_8), .val (.ref e_19), .val (.ref e_31), .val (.ref e_44), .unset, .unset, .unset]) i0_73 rfl rfl ?_
  refine Runs.aload i0_75 rfl rfl ?_
  refine Runs.nullN i0_77 ?_
  refine Runs.aload i0_80 rfl rfl ?_
  refine Runs.nullN i0_82 ?_
  refine Runs.aload i0_85 rfl rfl ?_
  refine Runs.nnullY (t := 92) i0_87 (by decide) ?_
  refine Runs.aload i0_92 rfl rfl ?_
  refine Runs.gcause (W := 0) i0_94 (w244 hw) (w245 hw) (w246 hw) (w248 hw) (w249 hw) (w247 hw) (w201 hw) (w204 hw) ((O_26.keep K_37 nin0).keep K_50 nin0).1 (Unt.keep K_50 nin0 (Unt.keep K_37 nin0 U_27)) (((O_26.keep K_37 nin0).keep K_50 nin0).fld (i := 1) rfl) rfl rfl rfl (by decide) (by decide) (by decide) (by decide) ?_
  rw [show Jvm.RoadKit.gcV e_19 (.ref e_19) = Value.null from if_pos rfl]
  refine Runs.nullY (t := 102) i0_97 (by decide) ?_
  refine Runs.aload i0_102 rfl rfl ?_
  refine Runs.callVUW (argsL := []) (rest := []) (W := 0) i0_104 (w250 hw) (w251 hw) (w252 hw) (by decide) (w254 hw) (w253 hw) (w255 hw) (w201 hw) ((O_26.keep K_37 nin0).keep K_50 nin0).1 pd_30 rfl rfl rfl rfl (by decide) (by decide) (by decide) (by decide) all0 (by decide) (own_gm l Z a0 hw n0 e_19 m_20 _ ((O_26.keep K_37 nin0).keep K_50 nin0)) ?_
  intro v h1 D1 q hsz
  obtain ⟨rfl, rfl, rfl⟩ := q
  show Runs 2 l Z [("com/example/record_guard/recordguard/conflict/SerializationFailureException", 27), ("com/example/record_guard/recordguard/conflict/SerializationFailureException", 30), ("java/lang/String", 7)] n0 _ _ _ _ _ _ _ [] h_54 35 12161 107 #[.val (.int p0), .val (.int p1), .val (.int p2), .val (.int p3), .val (.int p4), .val (.int (1 : Int32)), .val (.int (own_ch p1)), .val (.int (own_ch p2)), .val (.int (own_ch p3)), .val (.ref b_1), .val (.ref b_8), .val (.ref e_19), .val (.ref e_31), .val (.ref e_44), .unset, .unset, .unset] [(.ref m_20)]
  refine Runs.astore (ls' := #[.val (.int p0), .val (.int p1), .val (.int p2), .val (.int p3), .val (.int p4), .val (.int (1 : Int32)), .val (.int (own_ch p1)), .val (.int (own_ch p2)), .val (.int (own_ch p3)), .val (.ref b_1), .val (.ref b_8), .val (.ref e_19), .val (.ref e_31), .val (.ref e_44), .val (.ref m_20), .unset, .unset]) i0_107 rfl rfl ?_
  refine Runs.aload i0_109 rfl rfl ?_
  refine Runs.callVUW (argsL := []) (rest := []) (W := 0) i0_111 (w250 hw) (w251 hw) (w252 hw) (by decide) (w254 hw) (w253 hw) (w255 hw) (w201 hw) (O_38.keep K_50 nin0).1 pd_30 rfl rfl rfl rfl (by decide) (by decide) (by decide) (by decide) all0 (by decide) (own_gm l Z a0 hw n0 e_31 m_32 _ (O_38.keep K_50 nin0)) ?_
  intro v h1 D1 q hsz
  obtain ⟨rfl, rfl, rfl⟩ := q
  show Runs 2 l Z [("com/example/record_guard/recordguard/conflict/SerializationFailureException", 27), ("com/example/record_guard/recordguard/conflict/SerializationFailureException", 30), ("java/lang/String", 7)] n0 _ _ _ _ _ _ _ [] h_54 35 12161 114 #[.val (.int p0), .val (.int p1), .val (.int p2), .val (.int p3), .val (.int p4), .val (.int (1 : Int32)), .val (.int (own_ch p1)), .val (.int (own_ch p2)), .val (.int (own_ch p3)), .val (.ref b_1), .val (.ref b_8), .val (.ref e_19), .val (.ref e_31), .val (.ref e_44), .val (.ref m_20), .unset, .unset] [(.ref m_32)]
  refine Runs.astore (ls' := #[.val (.int p0), .val (.int p1), .val (.int p2), .val (.int p3), .val (.int p4), .val (.int (1 : Int32)), .val (.int (own_ch p1)), .val (.int (own_ch p2)), .val (.int (own_ch p3)), .val (.ref b_1), .val (.ref b_8), .val (.ref e_19), .val (.ref e_31), .val (.ref e_44), .val (.ref m_20), .val (.ref m_32), .unset]) i0_114 rfl rfl ?_
  refine Runs.aload i0_116 rfl rfl ?_
  refine Runs.callVUW (argsL := []) (rest := []) (W := 0) i0_118 (w250 hw) (w251 hw) (w252 hw) (by decide) (w254 hw) (w253 hw) (w255 hw) (w201 hw) O_51.1 pd_30 rfl rfl rfl rfl (by decide) (by decide) (by decide) (by decide) all0 (by decide) (own_gm l Z a0 hw n0 e_44 m_45 _ O_51) ?_
  intro v h1 D1 q hsz
  obtain ⟨rfl, rfl, rfl⟩ := q
  show Runs 2 l Z [("com/example/record_guard/recordguard/conflict/SerializationFailureException", 27), ("com/example/record_guard/recordguard/conflict/SerializationFailureException", 30), ("java/lang/String", 7)] n0 _ _ _ _ _ _ _ [] h_54 35 12161 121 #[.val (.int p0), .val (.int p1), .val (.int p2), .val (.int p3), .val (.int p4), .val (.int (1 : Int32)), .val (.int (own_ch p1)), .val (.int (own_ch p2)), .val (.int (own_ch p3)), .val (.ref b_1), .val (.ref b_8), .val (.ref e_19), .val (.ref e_31), .val (.ref e_44), .val (.ref m_20), .val (.ref m_32), .unset] [(.ref m_45)]
  refine Runs.astore (ls' := #[.val (.int p0), .val (.int p1), .val (.int p2), .val (.int p3), .val (.int p4), .val (.int (1 : Int32)), .val (.int (own_ch p1)), .val (.int (own_ch p2)), .val (.int (own_ch p3)), .val (.ref b_1), .val (.ref b_8), .val (.ref e_19), .val (.ref e_31), .val (.ref e_44), .val (.ref m_20), .val (.ref m_32), .val (.ref m_45)]) i0_121 rfl rfl ?_
  refine Runs.aload i0_123 rfl rfl ?_
  refine Runs.nullN i0_125 ?_
  refine Runs.aload i0_128 rfl rfl ?_
  refine Runs.nullN i0_130 ?_
  refine Runs.aload i0_133 rfl rfl ?_
  refine Runs.nnullY (t := 140) i0_135 (by decide) ?_
  refine Runs.aload i0_140 rfl rfl ?_
  have S_55 := (S_42.keep K_50 nin0 nin0)
  refine Runs.callVW (argsL := []) (rest := []) (W := 0) i0_142 (w256 hw) (w76 hw) (fun s hZ => notFace_of_selects (args := #[]) (mvT hZ (w78 hw))) (w78 hw) (w77 hw) (w79 hw) (w6 hw) (by decide) S_55.1.1 pd_9 rfl rfl rfl rfl (by decide) (by decide) (by decide) (by decide) all0 (by decide) (own_len l Z a0 hw n0 m_20 u_21 k_22 (([(own_ch p1)] : List Int32) ++ (own_T 112)) _ S_55 cpt S_C hcpt) ?_
  rw [show (([(own_ch p1)] : List Int32) ++ (own_T 112)).length = 217 from (by rw [List.length_append, own_L112]; rfl)]
  intro v h1 D1 q hsz
  obtain ⟨rfl, rfl, rfl⟩ := q
  show Runs 2 l Z [("com/example/record_guard/recordguard/conflict/SerializationFailureException", 27), ("com/example/record_guard/recordguard/conflict/SerializationFailureException", 30), ("java/lang/String", 7)] n0 _ _ _ _ _ _ _ [] h_54 35 12161 145 #[.val (.int p0), .val (.int p1), .val (.int p2), .val (.int p3), .val (.int p4), .val (.int (1 : Int32)), .val (.int (own_ch p1)), .val (.int (own_ch p2)), .val (.int (own_ch p3)), .val (.ref b_1), .val (.ref b_8), .val (.ref e_19), .val (.ref e_31), .val (.ref e_44), .val (.ref m_20), .val (.ref m_32), .val (.ref m_45)] [(.int (217 : Int32))]
  refine Runs.iload i0_145 rfl ?_
  refine Runs.iconst (v := (4 : Int32)) i0_147 (by decide) ?_
  refine Runs.iadd (z := (5 : Int32)) i0_148 (by decide) ?_
  refine Runs.icN i0_149 (flt (by decide : ¬ ((217 : Int32) < (5 : Int32)))).1 ?_
  refine Runs.aload i0_152 rfl rfl ?_
  have S_56 := (S_40.keep K_50 nin0 nin0)
  refine Runs.callVW (argsL := []) (rest := []) (W := 0) i0_154 (w256 hw) (w76 hw) (fun s hZ => notFace_of_selects (args := #[]) (mvT hZ (w78 hw))) (w78 hw) (w77 hw) (w79 hw) (w6 hw) (by decide) S_56.1.1 pd_9 rfl rfl rfl rfl (by decide) (by decide) (by decide) (by decide) all0 (by decide) (own_len l Z a0 hw n0 m_32 u_33 k_34 (([(own_ch p4)] : List Int32) ++ (own_T 112)) _ S_56 cpt S_C hcpt) ?_
  rw [show (([(own_ch p4)] : List Int32) ++ (own_T 112)).length = 217 from (by rw [List.length_append, own_L112]; rfl)]
  intro v h1 D1 q hsz
  obtain ⟨rfl, rfl, rfl⟩ := q
  show Runs 2 l Z [("com/example/record_guard/recordguard/conflict/SerializationFailureException", 27), ("com/example/record_guard/recordguard/conflict/SerializationFailureException", 30), ("java/lang/String", 7)] n0 _ _ _ _ _ _ _ [] h_54 35 12161 157 #[.val (.int p0), .val (.int p1), .val (.int p2), .val (.int p3), .val (.int p4), .val (.int (1 : Int32)), .val (.int (own_ch p1)), .val (.int (own_ch p2)), .val (.int (own_ch p3)), .val (.ref b_1), .val (.ref b_8), .val (.ref e_19), .val (.ref e_31), .val (.ref e_44), .val (.ref m_20), .val (.ref m_32), .val (.ref m_45)] [(.int (217 : Int32))]
  refine Runs.iconst (v := (5 : Int32)) i0_157 (by decide) ?_
  refine Runs.icY (t := 163) i0_158 (by decide) (flt (by decide : ¬ ((217 : Int32) < (5 : Int32)))).2.1 ?_
  refine Runs.aload i0_163 rfl rfl ?_
  refine Runs.callVW (argsL := []) (rest := []) (W := 0) i0_165 (w256 hw) (w76 hw) (fun s hZ => notFace_of_selects (args := #[]) (mvT hZ (w78 hw))) (w78 hw) (w77 hw) (w79 hw) (w6 hw) (by decide) S_55.1.1 pd_9 rfl rfl rfl rfl (by decide) (by decide) (by decide) (by decide) all0 (by decide) (own_len l Z a0 hw n0 m_20 u_21 k_22 (([(own_ch p1)] : List Int32) ++ (own_T 112)) _ S_55 cpt S_C hcpt) ?_
  rw [show (([(own_ch p1)] : List Int32) ++ (own_T 112)).length = 217 from (by rw [List.length_append, own_L112]; rfl)]
  intro v h1 D1 q hsz
  obtain ⟨rfl, rfl, rfl⟩ := q
  show Runs 2 l Z [("com/example/record_guard/recordguard/conflict/SerializationFailureException", 27), ("com/example/record_guard/recordguard/conflict/SerializationFailureException", 30), ("java/lang/String", 7)] n0 _ _ _ _ _ _ _ [] h_54 35 12161 168 #[.val (.int p0), .val (.int p1), .val (.int p2), .val (.int p3), .val (.int p4), .val (.int (1 : Int32)), .val (.int (own_ch p1)), .val (.int (own_ch p2)), .val (.int (own_ch p3)), .val (.ref b_1), .val (.ref b_8), .val (.ref e_19), .val (.ref e_31), .val (.ref e_44), .val (.ref m_20), .val (.ref m_32), .val (.ref m_45)] [(.int (217 : Int32))]
  refine Runs.iload i0_168 rfl ?_
  refine Runs.isub (z := (216 : Int32)) i0_170 (by decide) ?_
  refine Runs.aload i0_171 rfl rfl ?_
  refine Runs.callVW (argsL := []) (rest := [(.int (216 : Int32))]) (W := 1) i0_173 (w256 hw) (w76 hw) (fun s hZ => notFace_of_selects (args := #[]) (mvT hZ (w78 hw))) (w78 hw) (w77 hw) (w79 hw) (w6 hw) (by decide) S_56.1.1 pd_9 rfl rfl rfl rfl (by decide) (by decide) (by decide) (by decide) all0 (by decide) (own_len l Z a0 hw n0 m_32 u_33 k_34 (([(own_ch p4)] : List Int32) ++ (own_T 112)) _ S_56 cpt S_C hcpt) ?_
  rw [show (([(own_ch p4)] : List Int32) ++ (own_T 112)).length = 217 from (by rw [List.length_append, own_L112]; rfl)]
  intro v h1 D1 q hsz
  obtain ⟨rfl, rfl, rfl⟩ := q
  show Runs 2 l Z [("com/example/record_guard/recordguard/conflict/SerializationFailureException", 27), ("com/example/record_guard/recordguard/conflict/SerializationFailureException", 30), ("java/lang/String", 7)] n0 _ _ _ _ _ _ _ [] h_54 35 12161 176 #[.val (.int p0), .val (.int p1), .val (.int p2), .val (.int p3), .val (.int p4), .val (.int (1 : Int32)), .val (.int (own_ch p1)), .val (.int (own_ch p2)), .val (.int (own_ch p3)), .val (.ref b_1), .val (.ref b_8), .val (.ref e_19), .val (.ref e_31), .val (.ref e_44), .val (.ref m_20), .val (.ref m_32), .val (.ref m_45)] [(.int (217 : Int32)), (.int (216 : Int32))]
  refine Runs.iconst (v := (1 : Int32)) i0_176 (by decide) ?_
  refine Runs.isub (z := (216 : Int32)) i0_177 (by decide) ?_
  refine Runs.icY (t := 183) i0_178 (by decide) (teq (by decide : (216 : Int32) = (216 : Int32))).1 ?_
  refine Runs.iload i0_183 rfl ?_
  refine Runs.ifN i0_185 (tlt (by decide : (0 : Int32) < (1 : Int32))).2.2.2 ?_
  refine Runs.aload i0_188 rfl rfl ?_
  refine Runs.iconst (v := (0 : Int32)) i0_190 (by decide) ?_
  refine Runs.callVW (argsL := [(.int (0 : Int32))]) (rest := []) (W := 0) i0_191 (w257 hw) (w258 hw) (fun s hZ => notFace_of_selects (args := #[]) (mvT hZ (w260 hw))) (w260 hw) (w259 hw) (w261 hw) (w6 hw) (by decide) S_55.1.1 pd_34 rfl rfl rfl rfl (by decide) (by decide) (by decide) (by decide) all0 (by decide) (own_cha l Z a0 hw n0 m_20 u_21 k_22 (([(own_ch p1)] : List Int32) ++ (own_T 112)) _ S_55 0 (by rw [List.length_append, own_L112]; exact Nat.le_of_ble_eq_true rfl) cpt S_C hcpt fm hfm S_F) ?_
  rw [show (([(own_ch p1)] : List Int32) ++ (own_T 112)).getD 0 0 = (own_ch p1) from rfl]
  intro v h1 D1 q hsz
  obtain ⟨rfl, rfl, rfl⟩ := q
  show Runs 2 l Z [("com/example/record_guard/recordguard/conflict/SerializationFailureException", 27), ("com/example/record_guard/recordguard/conflict/SerializationFailureException", 30), ("java/lang/String", 7)] n0 _ _ _ _ _ _ _ [] h_54 35 12161 194 #[.val (.int p0), .val (.int p1), .val (.int p2), .val (.int p3), .val (.int p4), .val (.int (1 : Int32)), .val (.int (own_ch p1)), .val (.int (own_ch p2)), .val (.int (own_ch p3)), .val (.ref b_1), .val (.ref b_8), .val (.ref e_19), .val (.ref e_31), .val (.ref e_44), .val (.ref m_20), .val (.ref m_32), .val (.ref m_45)] [(.int (own_ch p1))]
  refine Runs.iload i0_194 rfl ?_
  refine Runs.icY (t := 201) i0_196 (by decide) (teq (rfl : (own_ch p1) = (own_ch p1))).1 ?_
  refine Runs.iload i0_201 rfl ?_
  refine Runs.iconst (v := (1 : Int32)) i0_203 (by decide) ?_
  refine Runs.icY (t := 220) i0_204 (by decide) (flt (by decide : ¬ ((1 : Int32) < (1 : Int32)))).2.2.2 ?_
  refine Runs.iload i0_220 rfl ?_
  refine Runs.iconst (v := (2 : Int32)) i0_222 (by decide) ?_
  refine Runs.icY (t := 239) i0_223 (by decide) (flt (by decide : ¬ ((2 : Int32) < (1 : Int32)))).2.2.2 ?_
  refine Runs.aload i0_239 rfl rfl ?_
  refine Runs.iload i0_241 rfl ?_
  refine Runs.callVW (argsL := [(.int (1 : Int32))]) (rest := []) (W := 0) i0_243 (w257 hw) (w258 hw) (fun s hZ => notFace_of_selects (args := #[]) (mvT hZ (w260 hw))) (w260 hw) (w259 hw) (w261 hw) (w6 hw) (by decide) S_55.1.1 pd_34 rfl rfl rfl rfl (by decide) (by decide) (by decide) (by decide) all0 (by decide) (own_cha l Z a0 hw n0 m_20 u_21 k_22 (([(own_ch p1)] : List Int32) ++ (own_T 112)) _ S_55 1 (by rw [List.length_append, own_L112]; exact Nat.le_of_ble_eq_true rfl) cpt S_C hcpt fm hfm S_F) ?_
  rw [show (([(own_ch p1)] : List Int32) ++ (own_T 112)).getD 1 0 = ((own_T 112).getD 0 0) from own_app_r [(own_ch p1)] _ 0]
  intro v h1 D1 q hsz
  obtain ⟨rfl, rfl, rfl⟩ := q
  show Runs 2 l Z [("com/example/record_guard/recordguard/conflict/SerializationFailureException", 27), ("com/example/record_guard/recordguard/conflict/SerializationFailureException", 30), ("java/lang/String", 7)] n0 _ _ _ _ _ _ _ [] h_54 35 12161 246 #[.val (.int p0), .val (.int p1), .val (.int p2), .val (.int p3), .val (.int p4), .val (.int (1 : Int32)), .val (.int (own_ch p1)), .val (.int (own_ch p2)), .val (.int (own_ch p3)), .val (.ref b_1), .val (.ref b_8), .val (.ref e_19), .val (.ref e_31), .val (.ref e_44), .val (.ref m_20), .val (.ref m_32), .val (.ref m_45)] [(.int ((own_T 112).getD 0 0))]
  refine Runs.bipush (v := (58 : Int32)) i0_246 (by decide) ?_
  refine Runs.icN i0_248 (teq own_T0).2 ?_
  refine Runs.aload i0_251 rfl rfl ?_
  refine Runs.iload i0_253 rfl ?_
  refine Runs.iconst (v := (1 : Int32)) i0_255 (by decide) ?_
  refine Runs.iadd (z := (2 : Int32)) i0_256 (by decide) ?_
  refine Runs.callVW (argsL := [(.int (2 : Int32))]) (rest := []) (W := 0) i0_257 (w257 hw) (w258 hw) (fun s hZ => notFace_of_selects (args := #[]) (mvT hZ (w260 hw))) (w260 hw) (w259 hw) (w261 hw) (w6 hw) (by decide) S_55.1.1 pd_34 rfl rfl rfl rfl (by decide) (by decide) (by decide) (by decide) all0 (by decide) (own_cha l Z a0 hw n0 m_20 u_21 k_22 (([(own_ch p1)] : List Int32) ++ (own_T 112)) _ S_55 2 (by rw [List.length_append, own_L112]; exact Nat.le_of_ble_eq_true rfl) cpt S_C hcpt fm hfm S_F) ?_
  rw [show (([(own_ch p1)] : List Int32) ++ (own_T 112)).getD 2 0 = ((own_T 112).getD 1 0) from own_app_r [(own_ch p1)] _ 1]
  intro v h1 D1 q hsz
  obtain ⟨rfl, rfl, rfl⟩ := q
  show Runs 2 l Z [("com/example/record_guard/recordguard/conflict/SerializationFailureException", 27), ("com/example/record_guard/recordguard/conflict/SerializationFailureException", 30), ("java/lang/String", 7)] n0 _ _ _ _ _ _ _ [] h_54 35 12161 260 #[.val (.int p0), .val (.int p1), .val (.int p2), .val (.int p3), .val (.int p4), .val (.int (1 : Int32)), .val (.int (own_ch p1)), .val (.int (own_ch p2)), .val (.int (own_ch p3)), .val (.ref b_1), .val (.ref b_8), .val (.ref e_19), .val (.ref e_31), .val (.ref e_44), .val (.ref m_20), .val (.ref m_32), .val (.ref m_45)] [(.int ((own_T 112).getD 1 0))]
  refine Runs.bipush (v := (32 : Int32)) i0_260 (by decide) ?_
  refine Runs.icY (t := 267) i0_262 (by decide) (teq own_T1).1 ?_
  refine Runs.aload i0_267 rfl rfl ?_
  refine Runs.iconst (v := (0 : Int32)) i0_269 (by decide) ?_
  refine Runs.callVW (argsL := [(.int (0 : Int32))]) (rest := []) (W := 0) i0_270 (w257 hw) (w258 hw) (fun s hZ => notFace_of_selects (args := #[]) (mvT hZ (w260 hw))) (w260 hw) (w259 hw) (w261 hw) (w6 hw) (by decide) S_56.1.1 pd_34 rfl rfl rfl rfl (by decide) (by decide) (by decide) (by decide) all0 (by decide) (own_cha l Z a0 hw n0 m_32 u_33 k_34 (([(own_ch p4)] : List Int32) ++ (own_T 112)) _ S_56 0 (by rw [List.length_append, own_L112]; exact Nat.le_of_ble_eq_true rfl) cpt S_C hcpt fm hfm S_F) ?_
  rw [show (([(own_ch p4)] : List Int32) ++ (own_T 112)).getD 0 0 = (own_ch p4) from rfl]
  intro v h1 D1 q hsz
  obtain ⟨rfl, rfl, rfl⟩ := q
  show Runs 2 l Z [("com/example/record_guard/recordguard/conflict/SerializationFailureException", 27), ("com/example/record_guard/recordguard/conflict/SerializationFailureException", 30), ("java/lang/String", 7)] n0 _ _ _ _ _ _ _ [] h_54 35 12161 273 #[.val (.int p0), .val (.int p1), .val (.int p2), .val (.int p3), .val (.int p4), .val (.int (1 : Int32)), .val (.int (own_ch p1)), .val (.int (own_ch p2)), .val (.int (own_ch p3)), .val (.ref b_1), .val (.ref b_8), .val (.ref e_19), .val (.ref e_31), .val (.ref e_44), .val (.ref m_20), .val (.ref m_32), .val (.ref m_45)] [(.int (own_ch p4))]
  refine Runs.iload i0_273 rfl ?_
  refine Runs.sipush (v := (255 : Int32)) i0_275 (by decide) ?_
  refine Runs.iand (z := (own_ch p4)) i0_278 rfl ?_
  refine Runs.i2c (z := (own_ch p4)) i0_279 (own_i2c (own_chr p4)) ?_
  refine Runs.icY (t := 285) i0_280 (by decide) (teq (rfl : (own_ch p4) = (own_ch p4))).1 ?_
  refine Runs.aload i0_285 rfl rfl ?_
  refine Runs.iload i0_287 rfl ?_
  refine Runs.iconst (v := (2 : Int32)) i0_289 (by decide) ?_
  refine Runs.iadd (z := (3 : Int32)) i0_290 (by decide) ?_
  refine Runs.callVW (argsL := [(.int (3 : Int32))]) (rest := []) (W := 0) i0_291 (w257 hw) (w258 hw) (fun s hZ => notFace_of_selects (args := #[]) (mvT hZ (w260 hw))) (w260 hw) (w259 hw) (w261 hw) (w6 hw) (by decide) S_55.1.1 pd_34 rfl rfl rfl rfl (by decide) (by decide) (by decide) (by decide) all0 (by decide) (own_cha l Z a0 hw n0 m_20 u_21 k_22 (([(own_ch p1)] : List Int32) ++ (own_T 112)) _ S_55 3 (by rw [List.length_append, own_L112]; exact Nat.le_of_ble_eq_true rfl) cpt S_C hcpt fm hfm S_F) ?_
  rw [show (([(own_ch p1)] : List Int32) ++ (own_T 112)).getD 3 0 = ((own_T 112).getD 2 0) from own_app_r [(own_ch p1)] _ 2]
  intro v h1 D1 q hsz
  obtain ⟨rfl, rfl, rfl⟩ := q
  show Runs 2 l Z [("com/example/record_guard/recordguard/conflict/SerializationFailureException", 27), ("com/example/record_guard/recordguard/conflict/SerializationFailureException", 30), ("java/lang/String", 7)] n0 _ _ _ _ _ _ _ [] h_54 35 12161 294 #[.val (.int p0), .val (.int p1), .val (.int p2), .val (.int p3), .val (.int p4), .val (.int (1 : Int32)), .val (.int (own_ch p1)), .val (.int (own_ch p2)), .val (.int (own_ch p3)), .val (.ref b_1), .val (.ref b_8), .val (.ref e_19), .val (.ref e_31), .val (.ref e_44), .val (.ref m_20), .val (.ref m_32), .val (.ref m_45)] [(.int ((own_T 112).getD 2 0))]
  refine Runs.aload i0_294 rfl rfl ?_
  refine Runs.iconst (v := (3 : Int32)) i0_296 (by decide) ?_
  refine Runs.callVW (argsL := [(.int (3 : Int32))]) (rest := [(.int ((own_T 112).getD 2 0))]) (W := 1) i0_297 (w257 hw) (w258 hw) (fun s hZ => notFace_of_selects (args := #[]) (mvT hZ (w260 hw))) (w260 hw) (w259 hw) (w261 hw) (w6 hw) (by decide) S_56.1.1 pd_34 rfl rfl rfl rfl (by decide) (by decide) (by decide) (by decide) all0 (by decide) (own_cha l Z a0 hw n0 m_32 u_33 k_34 (([(own_ch p4)] : List Int32) ++ (own_T 112)) _ S_56 3 (by rw [List.length_append, own_L112]; exact Nat.le_of_ble_eq_true rfl) cpt S_C hcpt fm hfm S_F) ?_
  rw [show (([(own_ch p4)] : List Int32) ++ (own_T 112)).getD 3 0 = ((own_T 112).getD 2 0) from own_app_r [(own_ch p4)] _ 2]
  intro v h1 D1 q hsz
  obtain ⟨rfl, rfl, rfl⟩ := q
  show Runs 2 l Z [("com/example/record_guard/recordguard/conflict/SerializationFailureException", 27), ("com/example/record_guard/recordguard/conflict/SerializationFailureException", 30), ("java/lang/String", 7)] n0 _ _ _ _ _ _ _ [] h_54 35 12161 300 #[.val (.int p0), .val (.int p1), .val (.int p2), .val (.int p3), .val (.int p4), .val (.int (1 : Int32)), .val (.int (own_ch p1)), .val (.int (own_ch p2)), .val (.int (own_ch p3)), .val (.ref b_1), .val (.ref b_8), .val (.ref e_19), .val (.ref e_31), .val (.ref e_44), .val (.ref m_20), .val (.ref m_32), .val (.ref m_45)] [(.int ((own_T 112).getD 2 0)), (.int ((own_T 112).getD 2 0))]
  refine Runs.icY (t := 305) i0_300 (by decide) (teq (rfl : ((own_T 112).getD 2 0) = ((own_T 112).getD 2 0))).1 ?_
  refine Runs.aload i0_305 rfl rfl ?_
  refine Runs.iload i0_307 rfl ?_
  refine Runs.iconst (v := (3 : Int32)) i0_309 (by decide) ?_
  refine Runs.iadd (z := (4 : Int32)) i0_310 (by decide) ?_
  refine Runs.callVW (argsL := [(.int (4 : Int32))]) (rest := []) (W := 0) i0_311 (w257 hw) (w258 hw) (fun s hZ => notFace_of_selects (args := #[]) (mvT hZ (w260 hw))) (w260 hw) (w259 hw) (w261 hw) (w6 hw) (by decide) S_55.1.1 pd_34 rfl rfl rfl rfl (by decide) (by decide) (by decide) (by decide) all0 (by decide) (own_cha l Z a0 hw n0 m_20 u_21 k_22 (([(own_ch p1)] : List Int32) ++ (own_T 112)) _ S_55 4 (by rw [List.length_append, own_L112]; exact Nat.le_of_ble_eq_true rfl) cpt S_C hcpt fm hfm S_F) ?_
  rw [show (([(own_ch p1)] : List Int32) ++ (own_T 112)).getD 4 0 = ((own_T 112).getD 3 0) from own_app_r [(own_ch p1)] _ 3]
  intro v h1 D1 q hsz
  obtain ⟨rfl, rfl, rfl⟩ := q
  show Runs 2 l Z [("com/example/record_guard/recordguard/conflict/SerializationFailureException", 27), ("com/example/record_guard/recordguard/conflict/SerializationFailureException", 30), ("java/lang/String", 7)] n0 _ _ _ _ _ _ _ [] h_54 35 12161 314 #[.val (.int p0), .val (.int p1), .val (.int p2), .val (.int p3), .val (.int p4), .val (.int (1 : Int32)), .val (.int (own_ch p1)), .val (.int (own_ch p2)), .val (.int (own_ch p3)), .val (.ref b_1), .val (.ref b_8), .val (.ref e_19), .val (.ref e_31), .val (.ref e_44), .val (.ref m_20), .val (.ref m_32), .val (.ref m_45)] [(.int ((own_T 112).getD 3 0))]
  refine Runs.aload i0_314 rfl rfl ?_
  refine Runs.iconst (v := (4 : Int32)) i0_316 (by decide) ?_
  refine Runs.callVW (argsL := [(.int (4 : Int32))]) (rest := [(.int ((own_T 112).getD 3 0))]) (W := 1) i0_317 (w257 hw) (w258 hw) (fun s hZ => notFace_of_selects (args := #[]) (mvT hZ (w260 hw))) (w260 hw) (w259 hw) (w261 hw) (w6 hw) (by decide) S_56.1.1 pd_34 rfl rfl rfl rfl (by decide) (by decide) (by decide) (by decide) all0 (by decide) (own_cha l Z a0 hw n0 m_32 u_33 k_34 (([(own_ch p4)] : List Int32) ++ (own_T 112)) _ S_56 4 (by rw [List.length_append, own_L112]; exact Nat.le_of_ble_eq_true rfl) cpt S_C hcpt fm hfm S_F) ?_
  rw [show (([(own_ch p4)] : List Int32) ++ (own_T 112)).getD 4 0 = ((own_T 112).getD 3 0) from own_app_r [(own_ch p4)] _ 3]
  intro v h1 D1 q hsz
  obtain ⟨rfl, rfl, rfl⟩ := q
  show Runs 2 l Z [("com/example/record_guard/recordguard/conflict/SerializationFailureException", 27), ("com/example/record_guard/recordguard/conflict/SerializationFailureException", 30), ("java/lang/String", 7)] n0 _ _ _ _ _ _ _ [] h_54 35 12161 320 #[.val (.int p0), .val (.int p1), .val (.int p2), .val (.int p3), .val (.int p4), .val (.int (1 : Int32)), .val (.int (own_ch p1)), .val (.int (own_ch p2)), .val (.int (own_ch p3)), .val (.ref b_1), .val (.ref b_8), .val (.ref e_19), .val (.ref e_31), .val (.ref e_44), .val (.ref m_20), .val (.ref m_32), .val (.ref m_45)] [(.int ((own_T 112).getD 3 0)), (.int ((own_T 112).getD 3 0))]
  refine Runs.icY (t := 325) i0_320 (by decide) (teq (rfl : ((own_T 112).getD 3 0) = ((own_T 112).getD 3 0))).1 ?_
  refine Runs.aload i0_325 rfl rfl ?_
  refine Runs.aload i0_327 rfl rfl ?_
  refine Runs.callVW (argsL := []) (rest := [(.ref m_20)]) (W := 1) i0_329 (w256 hw) (w76 hw) (fun s hZ => notFace_of_selects (args := #[]) (mvT hZ (w78 hw))) (w78 hw) (w77 hw) (w79 hw) (w6 hw) (by decide) S_55.1.1 pd_9 rfl rfl rfl rfl (by decide) (by decide) (by decide) (by decide) all0 (by decide) (own_len l Z a0 hw n0 m_20 u_21 k_22 (([(own_ch p1)] : List Int32) ++ (own_T 112)) _ S_55 cpt S_C hcpt) ?_
  rw [show (([(own_ch p1)] : List Int32) ++ (own_T 112)).length = 217 from (by rw [List.length_append, own_L112]; rfl)]
  intro v h1 D1 q hsz
  obtain ⟨rfl, rfl, rfl⟩ := q
  show Runs 2 l Z [("com/example/record_guard/recordguard/conflict/SerializationFailureException", 27), ("com/example/record_guard/recordguard/conflict/SerializationFailureException", 30), ("java/lang/String", 7)] n0 _ _ _ _ _ _ _ [] h_54 35 12161 332 #[.val (.int p0), .val (.int p1), .val (.int p2), .val (.int p3), .val (.int p4), .val (.int (1 : Int32)), .val (.int (own_ch p1)), .val (.int (own_ch p2)), .val (.int (own_ch p3)), .val (.ref b_1), .val (.ref b_8), .val (.ref e_19), .val (.ref e_31), .val (.ref e_44), .val (.ref m_20), .val (.ref m_32), .val (.ref m_45)] [(.int (217 : Int32)), (.ref m_20)]
  refine Runs.iconst (v := (1 : Int32)) i0_332 (by decide) ?_
  refine Runs.isub (z := (216 : Int32)) i0_333 (by decide) ?_
  refine Runs.callVW (argsL := [(.int (216 : Int32))]) (rest := []) (W := 0) i0_334 (w257 hw) (w258 hw) (fun s hZ => notFace_of_selects (args := #[]) (mvT hZ (w260 hw))) (w260 hw) (w259 hw) (w261 hw) (w6 hw) (by decide) S_55.1.1 pd_34 rfl rfl rfl rfl (by decide) (by decide) (by decide) (by decide) all0 (by decide) (own_cha l Z a0 hw n0 m_20 u_21 k_22 (([(own_ch p1)] : List Int32) ++ (own_T 112)) _ S_55 216 (by rw [List.length_append, own_L112]; exact Nat.le_of_ble_eq_true rfl) cpt S_C hcpt fm hfm S_F) ?_
  rw [show (([(own_ch p1)] : List Int32) ++ (own_T 112)).getD 216 0 = ((own_T 112).getD 215 0) from own_app_r [(own_ch p1)] _ 215]
  intro v h1 D1 q hsz
  obtain ⟨rfl, rfl, rfl⟩ := q
  show Runs 2 l Z [("com/example/record_guard/recordguard/conflict/SerializationFailureException", 27), ("com/example/record_guard/recordguard/conflict/SerializationFailureException", 30), ("java/lang/String", 7)] n0 _ _ _ _ _ _ _ [] h_54 35 12161 337 #[.val (.int p0), .val (.int p1), .val (.int p2), .val (.int p3), .val (.int p4), .val (.int (1 : Int32)), .val (.int (own_ch p1)), .val (.int (own_ch p2)), .val (.int (own_ch p3)), .val (.ref b_1), .val (.ref b_8), .val (.ref e_19), .val (.ref e_31), .val (.ref e_44), .val (.ref m_20), .val (.ref m_32), .val (.ref m_45)] [(.int ((own_T 112).getD 215 0))]
  refine Runs.aload i0_337 rfl rfl ?_
  refine Runs.aload i0_339 rfl rfl ?_
  refine Runs.callVW (argsL := []) (rest := [(.ref m_32), (.int ((own_T 112).getD 215 0))]) (W := 2) i0_341 (w256 hw) (w76 hw) (fun s hZ => notFace_of_selects (args := #[]) (mvT hZ (w78 hw))) (w78 hw) (w77 hw) (w79 hw) (w6 hw) (by decide) S_56.1.1 pd_9 rfl rfl rfl rfl (by decide) (by decide) (by decide) (by decide) all0 (by decide) (own_len l Z a0 hw n0 m_32 u_33 k_34 (([(own_ch p4)] : List Int32) ++ (own_T 112)) _ S_56 cpt S_C hcpt) ?_
  rw [show (([(own_ch p4)] : List Int32) ++ (own_T 112)).length = 217 from (by rw [List.length_append, own_L112]; rfl)]
  intro v h1 D1 q hsz
  obtain ⟨rfl, rfl, rfl⟩ := q
  show Runs 2 l Z [("com/example/record_guard/recordguard/conflict/SerializationFailureException", 27), ("com/example/record_guard/recordguard/conflict/SerializationFailureException", 30), ("java/lang/String", 7)] n0 _ _ _ _ _ _ _ [] h_54 35 12161 344 #[.val (.int p0), .val (.int p1), .val (.int p2), .val (.int p3), .val (.int p4), .val (.int (1 : Int32)), .val (.int (own_ch p1)), .val (.int (own_ch p2)), .val (.int (own_ch p3)), .val (.ref b_1), .val (.ref b_8), .val (.ref e_19), .val (.ref e_31), .val (.ref e_44), .val (.ref m_20), .val (.ref m_32), .val (.ref m_45)] [(.int (217 : Int32)), (.ref m_32), (.int ((own_T 112).getD 215 0))]
  refine Runs.iconst (v := (1 : Int32)) i0_344 (by decide) ?_
  refine Runs.isub (z := (216 : Int32)) i0_345 (by decide) ?_
  refine Runs.callVW (argsL := [(.int (216 : Int32))]) (rest := [(.int ((own_T 112).getD 215 0))]) (W := 1) i0_346 (w257 hw) (w258 hw) (fun s hZ => notFace_of_selects (args := #[]) (mvT hZ (w260 hw))) (w260 hw) (w259 hw) (w261 hw) (w6 hw) (by decide) S_56.1.1 pd_34 rfl rfl rfl rfl (by decide) (by decide) (by decide) (by decide) all0 (by decide) (own_cha l Z a0 hw n0 m_32 u_33 k_34 (([(own_ch p4)] : List Int32) ++ (own_T 112)) _ S_56 216 (by rw [List.length_append, own_L112]; exact Nat.le_of_ble_eq_true rfl) cpt S_C hcpt fm hfm S_F) ?_
  rw [show (([(own_ch p4)] : List Int32) ++ (own_T 112)).getD 216 0 = ((own_T 112).getD 215 0) from own_app_r [(own_ch p4)] _ 215]
  intro v h1 D1 q hsz
  obtain ⟨rfl, rfl, rfl⟩ := q
  show Runs 2 l Z [("com/example/record_guard/recordguard/conflict/SerializationFailureException", 27), ("com/example/record_guard/recordguard/conflict/SerializationFailureException", 30), ("java/lang/String", 7)] n0 _ _ _ _ _ _ _ [] h_54 35 12161 349 #[.val (.int p0), .val (.int p1), .val (.int p2), .val (.int p3), .val (.int p4), .val (.int (1 : Int32)), .val (.int (own_ch p1)), .val (.int (own_ch p2)), .val (.int (own_ch p3)), .val (.ref b_1), .val (.ref b_8), .val (.ref e_19), .val (.ref e_31), .val (.ref e_44), .val (.ref m_20), .val (.ref m_32), .val (.ref m_45)] [(.int ((own_T 112).getD 215 0)), (.int ((own_T 112).getD 215 0))]
  refine Runs.icY (t := 354) i0_349 (by decide) (teq (rfl : ((own_T 112).getD 215 0) = ((own_T 112).getD 215 0))).1 ?_
  refine Runs.aload i0_354 rfl rfl ?_
  refine Runs.aload i0_356 rfl rfl ?_
  refine Runs.callVW (argsL := [(.ref m_45)]) (rest := []) (W := 0) i0_358 (w278 hw) (w279 hw) (fun s hZ => notFace_of_selects (args := #[]) (mvT hZ (w281 hw))) (w281 hw) (w280 hw) (w282 hw) (w6 hw) (by decide) S_55.1.1 pd_35 rfl rfl rfl rfl (by decide) (by decide) (by decide) (by decide) all0 (by decide) (own_eqS l Z a0 hw n0 m_20 m_45 u_21 u_46 k_22 k_47 (([(own_ch p1)] : List Int32) ++ (own_T 112)) (([(own_ch p1)] : List Int32) ++ (own_T 243)) cpt _ (Nat.ne_of_lt (Nat.lt_of_lt_of_le S_42.1.lt g_49)) S_55 S_53 S_C hcpt) ?_
  rw [if_neg (own_neT [(own_ch p1)])]
  intro v h1 D1 q hsz
  obtain ⟨rfl, rfl, rfl⟩ := q
  show Runs 2 l Z [("com/example/record_guard/recordguard/conflict/SerializationFailureException", 27), ("com/example/record_guard/recordguard/conflict/SerializationFailureException", 30), ("java/lang/String", 7)] n0 _ _ _ _ _ _ _ [] h_54 35 12161 361 #[.val (.int p0), .val (.int p1), .val (.int p2), .val (.int p3), .val (.int p4), .val (.int (1 : Int32)), .val (.int (own_ch p1)), .val (.int (own_ch p2)), .val (.int (own_ch p3)), .val (.ref b_1), .val (.ref b_8), .val (.ref e_19), .val (.ref e_31), .val (.ref e_44), .val (.ref m_20), .val (.ref m_32), .val (.ref m_45)] [(.int (0 : Int32))]
  refine Runs.ifN i0_361 (teq (by decide : (0 : Int32) = (0 : Int32))).2 ?_
  refine Runs.iconst (v := (1 : Int32)) i0_364 (by decide) ?_
  refine Runs.goto (t := 369) i0_365 (by decide) ?_
  exact Runs.retI (z := (1 : Int32)) i0_369 rfl (Or.inr (Or.inl rfl)) (by decide) (by decide) (by decide) rfl
set_option maxRecDepth 65536 in
set_option maxHeartbeats 4000000 in
theorem own_law2 (l : Launch) (Z : State) (a0 : Array Value) (hw : Wds Z a0) (n0 : Nat) (p0 p1 p2 p3 p4 : Int32) (cpt : Int32) (S_C : Sta Z Z.heap "java/lang/String" "COMPACT_STRINGS" "Z" (.int cpt)) (hcpt : ¬ cpt = 0) (fm : Value) (hfm : fm.isRef = true) (S_F : Sta Z Z.heap "jdk/internal/util/Preconditions" "SIOOBE_FORMATTER" "Ljava/util/function/BiFunction;" fm) (hl : l.stackTraces = true) (uS uP : Value) (huS : uS.isRef = true) (huP : uP.isRef = true) (S_U : Sta Z Z.heap "java/lang/Throwable" "UNASSIGNED_STACK" "[Ljava/lang/StackTraceElement;" uS) (S_P : Sta Z Z.heap "java/lang/Throwable" "SUPPRESSED_SENTINEL" "Ljava/util/List;" uP) : Runs 2 l Z [("com/example/record_guard/recordguard/conflict/SerializationFailureException", 27), ("com/example/record_guard/recordguard/conflict/SerializationFailureException", 30), ("java/lang/String", 7)] n0 x.cls x.name code maxLocals ret room_1 (fun v h D' => v = some (.int 1)) [] Z.heap 0 0 29 #[.val (.int p0), .val (.int p1), .val (.int p2), .val (.int p3), .val (.int p4), .val (.int (2 : Int32)), .val (.int (own_ch p1)), .val (.int (own_ch p2)), .val (.int (own_ch p3)), .unset, .unset, .unset, .unset, .unset, .unset, .unset, .unset] [] := by
  refine Runs.iload i0_29 rfl ?_
  refine Runs.iload i0_31 rfl ?_
  refine Runs.iload i0_33 rfl ?_
  refine Runs.iload i0_35 rfl ?_
  refine Runs.callSW (argsL := [(.int (2 : Int32)), (.int (own_ch p1)), (.int (own_ch p2)), (.int (own_ch p3))]) (rest := []) (W := 0) i0_37 (w0 hw) (w1 hw) (w2 hw) (w3 hw) (by decide) pd_31 rfl rfl rfl rfl (by decide) (by decide) (by decide) (by decide) all0 (by decide) (own_mk2 l Z a0 hw n0 (own_ch p1) (own_ch p2) (own_ch p3) (own_chr p1) (own_chr p2) (own_chr p3) _ cpt S_C hcpt) ?_
  intro v h_7 D1 q hsz
  obtain ⟨b_1, t_2, k_3, rfl, g_4, K_5, S_6, rfl⟩ := q
  show Runs 2 l Z [("com/example/record_guard/recordguard/conflict/SerializationFailureException", 27), ("com/example/record_guard/recordguard/conflict/SerializationFailureException", 30), ("java/lang/String", 7)] n0 _ _ _ _ _ _ _ [] h_7 6 12 40 #[.val (.int p0), .val (.int p1), .val (.int p2), .val (.int p3), .val (.int p4), .val (.int (2 : Int32)), .val (.int (own_ch p1)), .val (.int (own_ch p2)), .val (.int (own_ch p3)), .unset, .unset, .unset, .unset, .unset, .unset, .unset, .unset] [(.ref b_1)]
  refine Runs.astore (ls' := #[.val (.int p0), .val (.int p1), .val (.int p2), .val (.int p3), .val (.int p4), .val (.int (2 : Int32)), .val (.int (own_ch p1)), .val (.int (own_ch p2)), .val (.int (own_ch p3)), .val (.ref b_1), .unset, .unset, .unset, .unset, .unset, .unset, .unset]) i0_40 rfl rfl ?_
  refine Runs.iload i0_42 rfl ?_
  refine Runs.sipush (v := (255 : Int32)) i0_44 (by decide) ?_
  refine Runs.iand (z := (own_ch p4)) i0_47 rfl ?_
  refine Runs.i2c (z := (own_ch p4)) i0_48 (own_i2c (own_chr p4)) ?_
  refine Runs.callSW (argsL := [(.int (own_ch p4))]) (rest := []) (W := 0) i0_49 (w26 hw) (w27 hw) (w6 hw) (w28 hw) (by decide) pd_32 rfl rfl rfl rfl (by decide) (by decide) (by decide) (by decide) all0 (by decide) (own_vof l Z a0 hw n0 (own_ch p4) cpt _ (own_chr p4).2 S_C hcpt) ?_
  intro v h_16 D1 q hsz
  obtain ⟨b_8, t_9, k_10, rfl, g_11, g_12, K_13, O_14, A_15, rfl⟩ := q
  show Runs 2 l Z [("com/example/record_guard/recordguard/conflict/SerializationFailureException", 27), ("com/example/record_guard/recordguard/conflict/SerializationFailureException", 30), ("java/lang/String", 7)] n0 _ _ _ _ _ _ _ [] h_16 8 17 52 #[.val (.int p0), .val (.int p1), .val (.int p2), .val (.int p3), .val (.int p4), .val (.int (2 : Int32)), .val (.int (own_ch p1)), .val (.int (own_ch p2)), .val (.int (own_ch p3)), .val (.ref b_1), .unset, .unset, .unset, .unset, .unset, .unset, .unset] [(.ref b_8)]
  have S_17 : Str Z h_16 b_8 t_9 k_10 [(own_ch p4)] := ⟨O_14, A_15, own_lat1 (own_chr p4), by simp⟩
  refine Runs.astore (ls' := #[.val (.int p0), .val (.int p1), .val (.int p2), .val (.int p3), .val (.int p4), .val (.int (2 : Int32)), .val (.int (own_ch p1)), .val (.int (own_ch p2)), .val (.int (own_ch p3)), .val (.ref b_1), .val (.ref b_8), .unset, .unset, .unset, .unset, .unset, .unset]) i0_52 rfl rfl ?_
  refine Runs.aload i0_54 rfl rfl ?_
  have S_18 := (S_6.keep K_13 nin0 nin0)
  refine Runs.callSW (argsL := [(.ref b_1)]) (rest := []) (W := 0) i0_56 (w41 hw) (w42 hw) (w43 hw) (w44 hw) (by decide) pd_33 rfl rfl rfl rfl (by decide) (by decide) (by decide) (by decide) all0 (by decide) (own_f30 l Z a0 hw n0 b_1 t_2 k_3 [(own_ch p1), (own_ch p2)] (by simp) _ S_18 cpt S_C hcpt hl uS uP huS huP S_U S_P) ?_
  intro v h_29 D1 q hsz
  obtain ⟨e_19, m_20, u_21, k_22, rfl, g_23, g_24, K_25, O_26, U_27, S_28, rfl⟩ := q
  show Runs 2 l Z [("com/example/record_guard/recordguard/conflict/SerializationFailureException", 27), ("com/example/record_guard/recordguard/conflict/SerializationFailureException", 30), ("java/lang/String", 7)] n0 _ _ _ _ _ _ _ [] h_29 17 4105 59 #[.val (.int p0), .val (.int p1), .val (.int p2), .val (.int p3), .val (.int p4), .val (.int (2 : Int32)), .val (.int (own_ch p1)), .val (.int (own_ch p2)), .val (.int (own_ch p3)), .val (.ref b_1), .val (.ref b_8), .unset, .unset, .unset, .unset, .unset, .unset] [(.ref e_19)]
  refine Runs.astore (ls' := #[.val (.int p0), .val (.int p1), .val (.int p2), .val (.int p3), .val (.int p4), .val (.int (2 : Int32)), .val (.int (own_ch p1)), .val (.int (own_ch p2)), .val (.int (own_ch p3)), .val (.ref b_1), .val (.ref b_8), .val (.ref e_19), .unset, .unset, .unset, .unset, .unset]) i0_59 rfl rfl ?_
  refine Runs.aload i0_61 rfl rfl ?_
  have S_30 := (S_17.keep K_25 nin0 nin0)
  refine Runs.callSW (argsL := [(.ref b_8)]) (rest := []) (W := 0) i0_63 (w41 hw) (w42 hw) (w43 hw) (w44 hw) (by decide) pd_33 rfl rfl rfl rfl (by decide) (by decide) (by decide) (by decide) all0 (by decide) (own_f30 l Z a0 hw n0 b_8 t_9 k_10 [(own_ch p4)] (by simp) _ S_30 cpt S_C hcpt hl uS uP huS huP S_U S_P) ?_
  intro v h_41 D1 q hsz
  obtain ⟨e_31, m_32, u_33, k_34, rfl, g_35, g_36, K_37, O_38, U_39, S_40, rfl⟩ := q
  show Runs 2 l Z [("com/example/record_guard/recordguard/conflict/SerializationFailureException", 27), ("com/example/record_guard/recordguard/conflict/SerializationFailureException", 30), ("java/lang/String", 7)] n0 _ _ _ _ _ _ _ [] h_41 26 8193 66 #[.val (.int p0), .val (.int p1), .val (.int p2), .val (.int p3), .val (.int p4), .val (.int (2 : Int32)), .val (.int (own_ch p1)), .val (.int (own_ch p2)), .val (.int (own_ch p3)), .val (.ref b_1), .val (.ref b_8), .val (.ref e_19), .unset, .unset, .unset, .unset, .unset] [(.ref e_31)]
  refine Runs.astore (ls' := #[.val (.int p0), .val (.int p1), .val (.int p2), .val (.int p3), .val (.int p4), .val (.int (2 : Int32)), .val (.int (own_ch p1)), .val (.int (own_ch p2)), .val (.int (own_ch p3)), .val (.ref b_1), .val (.ref b_8), .val (.ref e_19), .val (.ref e_31), .unset, .unset, .unset, .unset]) i0_66 rfl rfl ?_
  refine Runs.aload i0_68 rfl rfl ?_
  have S_42 := (S_28.keep K_37 nin0 nin0)
  have S_43 := ((S_18.keep K_25 nin0 nin0).keep K_37 nin0 nin0)
  refine Runs.callSW (argsL := [(.ref b_1)]) (rest := []) (W := 0) i0_70 (w240 hw) (w241 hw) (w43 hw) (w242 hw) (by decide) pd_33 rfl rfl rfl rfl (by decide) (by decide) (by decide) (by decide) all0 (by decide) (own_f27 l Z a0 hw n0 b_1 t_2 k_3 [(own_ch p1), (own_ch p2)] (by simp) _ S_43 cpt S_C hcpt hl uS uP huS huP S_U S_P) ?_
  intro v h_54 D1 q hsz
  obtain ⟨e_44, m_45, u_46, k_47, rfl, g_48, g_49, K_50, O_51, U_52, S_53, rfl⟩ := q
  show Runs 2 l Z [("com/example/record_guard/recordguard/conflict/SerializationFailureException", 27), ("com/example/record_guard/recordguard/conflict/SerializationFailureException", 30), ("java/lang/String", 7)] n0 _ _ _ _ _ _ _ [] h_54 35 12161 73 #[.val (.int p0), .val (.int p1), .val (.int p2), .val (.int p3), .val (.int p4), .val (.int (2 : Int32)), .val (.int (own_ch p1)), .val (.int (own_ch p2)), .val (.int (own_ch p3)), .val (.ref b_1), .val (.ref b_8), .val (.ref e_19), .val (.ref e_31), .unset, .unset, .unset, .unset] [(.ref e_44)]
  refine Runs.astore (ls' := #[.val (.int p0), .val (.int p1), .val (.int p2), .val (.int p3), .val (.int p4), .val (.int (2 : Int32)), .val (.int (own_ch p1)), .val (.int (own_ch p2)), .val (.int (own_ch p3)), .val (.ref b_1), .val (.ref b_8), .val (.ref e_19), .val (.ref e_31), .val (.ref e_44), .unset, .unset, .unset]) i0_73 rfl rfl ?_
  refine Runs.aload i0_75 rfl rfl ?_
  refine Runs.nullN i0_77 ?_
  refine Runs.aload i0_80 rfl rfl ?_
  refine Runs.nullN i0_82 ?_
  refine Runs.aload i0_85 rfl rfl ?_
  refine Runs.nnullY (t := 92) i0_87 (by decide) ?_
  refine Runs.aload i0_92 rfl rfl ?_
  refine Runs.gcause (W := 0) i0_94 (w244 hw) (w245 hw) (w246 hw) (w248 hw) (w249 hw) (w247 hw) (w201 hw) (w204 hw) ((O_26.keep K_37 nin0).keep K_50 nin0).1 (Unt.keep K_50 nin0 (Unt.keep K_37 nin0 U_27)) (((O_26.keep K_37 nin0).keep K_50 nin0).fld (i := 1) rfl) rfl rfl rfl (by decide) (by decide) (by decide) (by decide) ?_
  rw [show Jvm.RoadKit.gcV e_19 (.ref e_19) = Value.null from if_pos rfl]
  refine Runs.nullY (t := 102) i0_97 (by decide) ?_
  refine Runs.aload i0_102 rfl rfl ?_
  refine Runs.callVUW (argsL := []) (rest := []) (W := 0) i0_104 (w250 hw) (w251 hw) (w252 hw) (by decide) (w254 hw) (w253 hw) (w255 hw) (w201 hw) ((O_26.keep K_37 nin0).keep K_50 nin0).1 pd_30 rfl rfl rfl rfl (by decide) (by decide) (by decide) (by decide) all0 (by decide) (own_gm l Z a0 hw n0 e_19 m_20 _ ((O_26.keep K_37 nin0).keep K_50 nin0)) ?_
  intro v h1 D1 q hsz
  obtain ⟨rfl, rfl, rfl⟩ := q
  show Runs 2 l Z [("com/example/record_guard/recordguard/conflict/SerializationFailureException", 27), ("com/example/record_guard/recordguard/conflict/SerializationFailureException", 30), ("java/lang/String", 7)] n0 _ _ _ _ _ _ _ [] h_54 35 12161 107 #[.val (.int p0), .val (.int p1), .val (.int p2), .val (.int p3), .val (.int p4), .val (.int (2 : Int32)), .val (.int (own_ch p1)), .val (.int (own_ch p2)), .val (.int (own_ch p3)), .val (.ref b_1), .val (.ref b_8), .val (.ref e_19), .val (.ref e_31), .val (.ref e_44), .unset, .unset, .unset] [(.ref m_20)]
  refine Runs.astore (ls' := #[.val (.int p0), .val (.int p1), .val (.int p2), .val (.int p3), .val (.int p4), .val (.int (2 : Int32)), .val (.int (own_ch p1)), .val (.int (own_ch p2)), .val (.int (own_ch p3)), .val (.ref b_1), .val (.ref b_8), .val (.ref e_19), .val (.ref e_31), .val (.ref e_44), .val (.ref m_20), .unset, .unset]) i0_107 rfl rfl ?_
  refine Runs.aload i0_109 rfl rfl ?_
  refine Runs.callVUW (argsL := []) (rest := []) (W := 0) i0_111 (w250 hw) (w251 hw) (w252 hw) (by decide) (w254 hw) (w253 hw) (w255 hw) (w201 hw) (O_38.keep K_50 nin0).1 pd_30 rfl rfl rfl rfl (by decide) (by decide) (by decide) (by decide) all0 (by decide) (own_gm l Z a0 hw n0 e_31 m_32 _ (O_38.keep K_50 nin0)) ?_
  intro v h1 D1 q hsz
  obtain ⟨rfl, rfl, rfl⟩ := q
  show Runs 2 l Z [("com/example/record_guard/recordguard/conflict/SerializationFailureException", 27), ("com/example/record_guard/recordguard/conflict/SerializationFailureException", 30), ("java/lang/String", 7)] n0 _ _ _ _ _ _ _ [] h_54 35 12161 114 #[.val (.int p0), .val (.int p1), .val (.int p2), .val (.int p3), .val (.int p4), .val (.int (2 : Int32)), .val (.int (own_ch p1)), .val (.int (own_ch p2)), .val (.int (own_ch p3)), .val (.ref b_1), .val (.ref b_8), .val (.ref e_19), .val (.ref e_31), .val (.ref e_44), .val (.ref m_20), .unset, .unset] [(.ref m_32)]
  refine Runs.astore (ls' := #[.val (.int p0), .val (.int p1), .val (.int p2), .val (.int p3), .val (.int p4), .val (.int (2 : Int32)), .val (.int (own_ch p1)), .val (.int (own_ch p2)), .val (.int (own_ch p3)), .val (.ref b_1), .val (.ref b_8), .val (.ref e_19), .val (.ref e_31), .val (.ref e_44), .val (.ref m_20), .val (.ref m_32), .unset]) i0_114 rfl rfl ?_
  refine Runs.aload i0_116 rfl rfl ?_
  refine Runs.callVUW (argsL := []) (rest := []) (W := 0) i0_118 (w250 hw) (w251 hw) (w252 hw) (by decide) (w254 hw) (w253 hw) (w255 hw) (w201 hw) O_51.1 pd_30 rfl rfl rfl rfl (by decide) (by decide) (by decide) (by decide) all0 (by decide) (own_gm l Z a0 hw n0 e_44 m_45 _ O_51) ?_
  intro v h1 D1 q hsz
  obtain ⟨rfl, rfl, rfl⟩ := q
  show Runs 2 l Z [("com/example/record_guard/recordguard/conflict/SerializationFailureException", 27), ("com/example/record_guard/recordguard/conflict/SerializationFailureException", 30), ("java/lang/String", 7)] n0 _ _ _ _ _ _ _ [] h_54 35 12161 121 #[.val (.int p0), .val (.int p1), .val (.int p2), .val (.int p3), .val (.int p4), .val (.int (2 : Int32)), .val (.int (own_ch p1)), .val (.int (own_ch p2)), .val (.int (own_ch p3)), .val (.ref b_1), .val (.ref b_8), .val (.ref e_19), .val (.ref e_31), .val (.ref e_44), .val (.ref m_20), .val (.ref m_32), .unset] [(.ref m_45)]
  refine Runs.astore (ls' := #[.val (.int p0), .val (.int p1), .val (.int p2), .val (.int p3), .val (.int p4), .val (.int (2 : Int32)), .val (.int (own_ch p1)), .val (.int (own_ch p2)), .val (.int (own_ch p3)), .val (.ref b_1), .val (.ref b_8), .val (.ref e_19), .val (.ref e_31), .val (.ref e_44), .val (.ref m_20), .val (.ref m_32), .val (.ref m_45)]) i0_121 rfl rfl ?_
  refine Runs.aload i0_123 rfl rfl ?_
  refine Runs.nullN i0_125 ?_
  refine Runs.aload i0_128 rfl rfl ?_
  refine Runs.nullN i0_130 ?_
  refine Runs.aload i0_133 rfl rfl ?_
  refine Runs.nnullY (t := 140) i0_135 (by decide) ?_
  refine Runs.aload i0_140 rfl rfl ?_
  have S_55 := (S_42.keep K_50 nin0 nin0)
  refine Runs.callVW (argsL := []) (rest := []) (W := 0) i0_142 (w256 hw) (w76 hw) (fun s hZ => notFace_of_selects (args := #[]) (mvT hZ (w78 hw))) (w78 hw) (w77 hw) (w79 hw) (w6 hw) (by decide) S_55.1.1 pd_9 rfl rfl rfl rfl (by decide) (by decide) (by decide) (by decide) all0 (by decide) (own_len l Z a0 hw n0 m_20 u_21 k_22 (([(own_ch p1), (own_ch p2)] : List Int32) ++ (own_T 112)) _ S_55 cpt S_C hcpt) ?_
  rw [show (([(own_ch p1), (own_ch p2)] : List Int32) ++ (own_T 112)).length = 218 from (by rw [List.length_append, own_L112]; rfl)]
  intro v h1 D1 q hsz
  obtain ⟨rfl, rfl, rfl⟩ := q
  show Runs 2 l Z [("com/example/record_guard/recordguard/conflict/SerializationFailureException", 27), ("com/example/record_guard/recordguard/conflict/SerializationFailureException", 30), ("java/lang/String", 7)] n0 _ _ _ _ _ _ _ [] h_54 35 12161 145 #[.val (.int p0), .val (.int p1), .val (.int p2), .val (.int p3), .val (.int p4), .val (.int (2 : Int32)), .val (.int (own_ch p1)), .val (.int (own_ch p2)), .val (.int (own_ch p3)), .val (.ref b_1), .val (.ref b_8), .val (.ref e_19), .val (.ref e_31), .val (.ref e_44), .val (.ref m_20), .val (.ref m_32), .val (.ref m_45)] [(.int (218 : Int32))]
  refine Runs.iload i0_145 rfl ?_
  refine Runs.iconst (v := (4 : Int32)) i0_147 (by decide) ?_
  refine Runs.iadd (z := (6 : Int32)) i0_148 (by decide) ?_
  refine Runs.icN i0_149 (flt (by decide : ¬ ((218 : Int32) < (6 : Int32)))).1 ?_
  refine Runs.aload i0_152 rfl rfl ?_
  have S_56 := (S_40.keep K_50 nin0 nin0)
  refine Runs.callVW (argsL := []) (rest := []) (W := 0) i0_154 (w256 hw) (w76 hw) (fun s hZ => notFace_of_selects (args := #[]) (mvT hZ (w78 hw))) (w78 hw) (w77 hw) (w79 hw) (w6 hw) (by decide) S_56.1.1 pd_9 rfl rfl rfl rfl (by decide) (by decide) (by decide) (by decide) all0 (by decide) (own_len l Z a0 hw n0 m_32 u_33 k_34 (([(own_ch p4)] : List Int32) ++ (own_T 112)) _ S_56 cpt S_C hcpt) ?_
  rw [show (([(own_ch p4)] : List Int32) ++ (own_T 112)).length = 217 from (by rw [List.length_append, own_L112]; rfl)]
  intro v h1 D1 q hsz
  obtain ⟨rfl, rfl, rfl⟩ := q
  show Runs 2 l Z [("com/example/record_guard/recordguard/conflict/SerializationFailureException", 27), ("com/example/record_guard/recordguard/conflict/SerializationFailureException", 30), ("java/lang/String", 7)] n0 _ _ _ _ _ _ _ [] h_54 35 12161 157 #[.val (.int p0), .val (.int p1), .val (.int p2), .val (.int p3), .val (.int p4), .val (.int (2 : Int32)), .val (.int (own_ch p1)), .val (.int (own_ch p2)), .val (.int (own_ch p3)), .val (.ref b_1), .val (.ref b_8), .val (.ref e_19), .val (.ref e_31), .val (.ref e_44), .val (.ref m_20), .val (.ref m_32), .val (.ref m_45)] [(.int (217 : Int32))]
  refine Runs.iconst (v := (5 : Int32)) i0_157 (by decide) ?_
  refine Runs.icY (t := 163) i0_158 (by decide) (flt (by decide : ¬ ((217 : Int32) < (5 : Int32)))).2.1 ?_
  refine Runs.aload i0_163 rfl rfl ?_
  refine Runs.callVW (argsL := []) (rest := []) (W := 0) i0_165 (w256 hw) (w76 hw) (fun s hZ => notFace_of_selects (args := #[]) (mvT hZ (w78 hw))) (w78 hw) (w77 hw) (w79 hw) (w6 hw) (by decide) S_55.1.1 pd_9 rfl rfl rfl rfl (by decide) (by decide) (by decide) (by decide) all0 (by decide) (own_len l Z a0 hw n0 m_20 u_21 k_22 (([(own_ch p1), (own_ch p2)] : List Int32) ++ (own_T 112)) _ S_55 cpt S_C hcpt) ?_
  rw [show (([(own_ch p1), (own_ch p2)] : List Int32) ++ (own_T 112)).length = 218 from (by rw [List.length_append, own_L112]; rfl)]
  intro v h1 D1 q hsz
  obtain ⟨rfl, rfl, rfl⟩ := q
  show Runs 2 l Z [("com/example/record_guard/recordguard/conflict/SerializationFailureException", 27), ("com/example/record_guard/recordguard/conflict/SerializationFailureException", 30), ("java/lang/String", 7)] n0 _ _ _ _ _ _ _ [] h_54 35 12161 168 #[.val (.int p0), .val (.int p1), .val (.int p2), .val (.int p3), .val (.int p4), .val (.int (2 : Int32)), .val (.int (own_ch p1)), .val (.int (own_ch p2)), .val (.int (own_ch p3)), .val (.ref b_1), .val (.ref b_8), .val (.ref e_19), .val (.ref e_31), .val (.ref e_44), .val (.ref m_20), .val (.ref m_32), .val (.ref m_45)] [(.int (218 : Int32))]
  refine Runs.iload i0_168 rfl ?_
  refine Runs.isub (z := (216 : Int32)) i0_170 (by decide) ?_
  refine Runs.aload i0_171 rfl rfl ?_
  refine Runs.callVW (argsL := []) (rest := [(.int (216 : Int32))]) (W := 1) i0_173 (w256 hw) (w76 hw) (fun s hZ => notFace_of_selects (args := #[]) (mvT hZ (w78 hw))) (w78 hw) (w77 hw) (w79 hw) (w6 hw) (by decide) S_56.1.1 pd_9 rfl rfl rfl rfl (by decide) (by decide) (by decide) (by decide) all0 (by decide) (own_len l Z a0 hw n0 m_32 u_33 k_34 (([(own_ch p4)] : List Int32) ++ (own_T 112)) _ S_56 cpt S_C hcpt) ?_
  rw [show (([(own_ch p4)] : List Int32) ++ (own_T 112)).length = 217 from (by rw [List.length_append, own_L112]; rfl)]
  intro v h1 D1 q hsz
  obtain ⟨rfl, rfl, rfl⟩ := q
  show Runs 2 l Z [("com/example/record_guard/recordguard/conflict/SerializationFailureException", 27), ("com/example/record_guard/recordguard/conflict/SerializationFailureException", 30), ("java/lang/String", 7)] n0 _ _ _ _ _ _ _ [] h_54 35 12161 176 #[.val (.int p0), .val (.int p1), .val (.int p2), .val (.int p3), .val (.int p4), .val (.int (2 : Int32)), .val (.int (own_ch p1)), .val (.int (own_ch p2)), .val (.int (own_ch p3)), .val (.ref b_1), .val (.ref b_8), .val (.ref e_19), .val (.ref e_31), .val (.ref e_44), .val (.ref m_20), .val (.ref m_32), .val (.ref m_45)] [(.int (217 : Int32)), (.int (216 : Int32))]
  refine Runs.iconst (v := (1 : Int32)) i0_176 (by decide) ?_
  refine Runs.isub (z := (216 : Int32)) i0_177 (by decide) ?_
  refine Runs.icY (t := 183) i0_178 (by decide) (teq (by decide : (216 : Int32) = (216 : Int32))).1 ?_
  refine Runs.iload i0_183 rfl ?_
  refine Runs.ifN i0_185 (tlt (by decide : (0 : Int32) < (2 : Int32))).2.2.2 ?_
  refine Runs.aload i0_188 rfl rfl ?_
  refine Runs.iconst (v := (0 : Int32)) i0_190 (by decide) ?_
  refine Runs.callVW (argsL := [(.int (0 : Int32))]) (rest := []) (W := 0) i0_191 (w257 hw) (w258 hw) (fun s hZ => notFace_of_selects (args := #[]) (mvT hZ (w260 hw))) (w260 hw) (w259 hw) (w261 hw) (w6 hw) (by decide) S_55.1.1 pd_34 rfl rfl rfl rfl (by decide) (by decide) (by decide) (by decide) all0 (by decide) (own_cha l Z a0 hw n0 m_20 u_21 k_22 (([(own_ch p1), (own_ch p2)] : List Int32) ++ (own_T 112)) _ S_55 0 (by rw [List.length_append, own_L112]; exact Nat.le_of_ble_eq_true rfl) cpt S_C hcpt fm hfm S_F) ?_
  rw [show (([(own_ch p1), (own_ch p2)] : List Int32) ++ (own_T 112)).getD 0 0 = (own_ch p1) from rfl]
  intro v h1 D1 q hsz
  obtain ⟨rfl, rfl, rfl⟩ := q
  show Runs 2 l Z [("com/example/record_guard/recordguard/conflict/SerializationFailureException", 27), ("com/example/record_guard/recordguard/conflict/SerializationFailureException", 30), ("java/lang/String", 7)] n0 _ _ _ _ _ _ _ [] h_54 35 12161 194 #[.val (.int p0), .val (.int p1), .val (.int p2), .val (.int p3), .val (.int p4), .val (.int (2 : Int32)), .val (.int (own_ch p1)), .val (.int (own_ch p2)), .val (.int (own_ch p3)), .val (.ref b_1), .val (.ref b_8), .val (.ref e_19), .val (.ref e_31), .val (.ref e_44), .val (.ref m_20), .val (.ref m_32), .val (.ref m_45)] [(.int (own_ch p1))]
  refine Runs.iload i0_194 rfl ?_
  refine Runs.icY (t := 201) i0_196 (by decide) (teq (rfl : (own_ch p1) = (own_ch p1))).1 ?_
  refine Runs.iload i0_201 rfl ?_
  refine Runs.iconst (v := (1 : Int32)) i0_203 (by decide) ?_
  refine Runs.icN i0_204 (tlt (by decide : (1 : Int32) < (2 : Int32))).2.2.2 ?_
  refine Runs.aload i0_207 rfl rfl ?_
  refine Runs.iconst (v := (1 : Int32)) i0_209 (by decide) ?_
  refine Runs.callVW (argsL := [(.int (1 : Int32))]) (rest := []) (W := 0) i0_210 (w257 hw) (w258 hw) (fun s hZ => notFace_of_selects (args := #[]) (mvT hZ (w260 hw))) (w260 hw) (w259 hw) (w261 hw) (w6 hw) (by decide) S_55.1.1 pd_34 rfl rfl rfl rfl (by decide) (by decide) (by decide) (by decide) all0 (by decide) (own_cha l Z a0 hw n0 m_20 u_21 k_22 (([(own_ch p1), (own_ch p2)] : List Int32) ++ (own_T 112)) _ S_55 1 (by rw [List.length_append, own_L112]; exact Nat.le_of_ble_eq_true rfl) cpt S_C hcpt fm hfm S_F) ?_
  rw [show (([(own_ch p1), (own_ch p2)] : List Int32) ++ (own_T 112)).getD 1 0 = (own_ch p2) from rfl]
  intro v h1 D1 q hsz
  obtain ⟨rfl, rfl, rfl⟩ := q
  show Runs 2 l Z [("com/example/record_guard/recordguard/conflict/SerializationFailureException", 27), ("com/example/record_guard/recordguard/conflict/SerializationFailureException", 30), ("java/lang/String", 7)] n0 _ _ _ _ _ _ _ [] h_54 35 12161 213 #[.val (.int p0), .val (.int p1), .val (.int p2), .val (.int p3), .val (.int p4), .val (.int (2 : Int32)), .val (.int (own_ch p1)), .val (.int (own_ch p2)), .val (.int (own_ch p3)), .val (.ref b_1), .val (.ref b_8), .val (.ref e_19), .val (.ref e_31), .val (.ref e_44), .val (.ref m_20), .val (.ref m_32), .val (.ref m_45)] [(.int (own_ch p2))]
  refine Runs.iload i0_213 rfl ?_
  refine Runs.icY (t := 220) i0_215 (by decide) (teq (rfl : (own_ch p2) = (own_ch p2))).1 ?_
  refine Runs.iload i0_220 rfl ?_
  refine Runs.iconst (v := (2 : Int32)) i0_222 (by decide) ?_
  refine Runs.icY (t := 239) i0_223 (by decide) (flt (by decide : ¬ ((2 : Int32) < (2 : Int32)))).2.2.2 ?_
  refine Runs.aload i0_239 rfl rfl ?_
  refine Runs.iload i0_241 rfl ?_
  refine Runs.callVW (argsL := [(.int (2 : Int32))]) (rest := []) (W := 0) i0_243 (w257 hw) (w258 hw) (fun s hZ => notFace_of_selects (args := #[]) (mvT hZ (w260 hw))) (w260 hw) (w259 hw) (w261 hw) (w6 hw) (by decide) S_55.1.1 pd_34 rfl rfl rfl rfl (by decide) (by decide) (by decide) (by decide) all0 (by decide) (own_cha l Z a0 hw n0 m_20 u_21 k_22 (([(own_ch p1), (own_ch p2)] : List Int32) ++ (own_T 112)) _ S_55 2 (by rw [List.length_append, own_L112]; exact Nat.le_of_ble_eq_true rfl) cpt S_C hcpt fm hfm S_F) ?_
  rw [show (([(own_ch p1), (own_ch p2)] : List Int32) ++ (own_T 112)).getD 2 0 = ((own_T 112).getD 0 0) from own_app_r [(own_ch p1), (own_ch p2)] _ 0]
  intro v h1 D1 q hsz
  obtain ⟨rfl, rfl, rfl⟩ := q
  show Runs 2 l Z [("com/example/record_guard/recordguard/conflict/SerializationFailureException", 27), ("com/example/record_guard/recordguard/conflict/SerializationFailureException", 30), ("java/lang/String", 7)] n0 _ _ _ _ _ _ _ [] h_54 35 12161 246 #[.val (.int p0), .val (.int p1), .val (.int p2), .val (.int p3), .val (.int p4), .val (.int (2 : Int32)), .val (.int (own_ch p1)), .val (.int (own_ch p2)), .val (.int (own_ch p3)), .val (.ref b_1), .val (.ref b_8), .val (.ref e_19), .val (.ref e_31), .val (.ref e_44), .val (.ref m_20), .val (.ref m_32), .val (.ref m_45)] [(.int ((own_T 112).getD 0 0))]
  refine Runs.bipush (v := (58 : Int32)) i0_246 (by decide) ?_
  refine Runs.icN i0_248 (teq own_T0).2 ?_
  refine Runs.aload i0_251 rfl rfl ?_
  refine Runs.iload i0_253 rfl ?_
  refine Runs.iconst (v := (1 : Int32)) i0_255 (by decide) ?_
  refine Runs.iadd (z := (3 : Int32)) i0_256 (by decide) ?_
  refine Runs.callVW (argsL := [(.int (3 : Int32))]) (rest := []) (W := 0) i0_257 (w257 hw) (w258 hw) (fun s hZ => notFace_of_selects (args := #[]) (mvT hZ (w260 hw))) (w260 hw) (w259 hw) (w261 hw) (w6 hw) (by decide) S_55.1.1 pd_34 rfl rfl rfl rfl (by decide) (by decide) (by decide) (by decide) all0 (by decide) (own_cha l Z a0 hw n0 m_20 u_21 k_22 (([(own_ch p1), (own_ch p2)] : List Int32) ++ (own_T 112)) _ S_55 3 (by rw [List.length_append, own_L112]; exact Nat.le_of_ble_eq_true rfl) cpt S_C hcpt fm hfm S_F) ?_
  rw [show (([(own_ch p1), (own_ch p2)] : List Int32) ++ (own_T 112)).getD 3 0 = ((own_T 112).getD 1 0) from own_app_r [(own_ch p1), (own_ch p2)] _ 1]
  intro v h1 D1 q hsz
  obtain ⟨rfl, rfl, rfl⟩ := q
  show Runs 2 l Z [("com/example/record_guard/recordguard/conflict/SerializationFailureException", 27), ("com/example/record_guard/recordguard/conflict/SerializationFailureException", 30), ("java/lang/String", 7)] n0 _ _ _ _ _ _ _ [] h_54 35 12161 260 #[.val (.int p0), .val (.int p1), .val (.int p2), .val (.int p3), .val (.int p4), .val (.int (2 : Int32)), .val (.int (own_ch p1)), .val (.int (own_ch p2)), .val (.int (own_ch p3)), .val (.ref b_1), .val (.ref b_8), .val (.ref e_19), .val (.ref e_31), .val (.ref e_44), .val (.ref m_20), .val (.ref m_32), .val (.ref m_45)] [(.int ((own_T 112).getD 1 0))]
  refine Runs.bipush (v := (32 : Int32)) i0_260 (by decide) ?_
  refine Runs.icY (t := 267) i0_262 (by decide) (teq own_T1).1 ?_
  refine Runs.aload i0_267 rfl rfl ?_
  refine Runs.iconst (v := (0 : Int32)) i0_269 (by decide) ?_
  refine Runs.callVW (argsL := [(.int (0 : Int32))]) (rest := []) (W := 0) i0_270 (w257 hw) (w258 hw) (fun s hZ => notFace_of_selects (args := #[]) (mvT hZ (w260 hw))) (w260 hw) (w259 hw) (w261 hw) (w6 hw) (by decide) S_56.1.1 pd_34 rfl rfl rfl rfl (by decide) (by decide) (by decide) (by decide) all0 (by decide) (own_cha l Z a0 hw n0 m_32 u_33 k_34 (([(own_ch p4)] : List Int32) ++ (own_T 112)) _ S_56 0 (by rw [List.length_append, own_L112]; exact Nat.le_of_ble_eq_true rfl) cpt S_C hcpt fm hfm S_F) ?_
  rw [show (([(own_ch p4)] : List Int32) ++ (own_T 112)).getD 0 0 = (own_ch p4) from rfl]
  intro v h1 D1 q hsz
  obtain ⟨rfl, rfl, rfl⟩ := q
  show Runs 2 l Z [("com/example/record_guard/recordguard/conflict/SerializationFailureException", 27), ("com/example/record_guard/recordguard/conflict/SerializationFailureException", 30), ("java/lang/String", 7)] n0 _ _ _ _ _ _ _ [] h_54 35 12161 273 #[.val (.int p0), .val (.int p1), .val (.int p2), .val (.int p3), .val (.int p4), .val (.int (2 : Int32)), .val (.int (own_ch p1)), .val (.int (own_ch p2)), .val (.int (own_ch p3)), .val (.ref b_1), .val (.ref b_8), .val (.ref e_19), .val (.ref e_31), .val (.ref e_44), .val (.ref m_20), .val (.ref m_32), .val (.ref m_45)] [(.int (own_ch p4))]
  refine Runs.iload i0_273 rfl ?_
  refine Runs.sipush (v := (255 : Int32)) i0_275 (by decide) ?_
  refine Runs.iand (z := (own_ch p4)) i0_278 rfl ?_
  refine Runs.i2c (z := (own_ch p4)) i0_279 (own_i2c (own_chr p4)) ?_
  refine Runs.icY (t := 285) i0_280 (by decide) (teq (rfl : (own_ch p4) = (own_ch p4))).1 ?_
  refine Runs.aload i0_285 rfl rfl ?_
  refine Runs.iload i0_287 rfl ?_
  refine Runs.iconst (v := (2 : Int32)) i0_289 (by decide) ?_
  refine Runs.iadd (z := (4 : Int32)) i0_290 (by decide) ?_
  refine Runs.callVW (argsL := [(.int (4 : Int32))]) (rest := []) (W := 0) i0_291 (w257 hw) (w258 hw) (fun s hZ => notFace_of_selects (args := #[]) (mvT hZ (w260 hw))) (w260 hw) (w259 hw) (w261 hw) (w6 hw) (by decide) S_55.1.1 pd_34 rfl rfl rfl rfl (by decide) (by decide) (by decide) (by decide) all0 (by decide) (own_cha l Z a0 hw n0 m_20 u_21 k_22 (([(own_ch p1), (own_ch p2)] : List Int32) ++ (own_T 112)) _ S_55 4 (by rw [List.length_append, own_L112]; exact Nat.le_of_ble_eq_true rfl) cpt S_C hcpt fm hfm S_F) ?_
  rw [show (([(own_ch p1), (own_ch p2)] : List Int32) ++ (own_T 112)).getD 4 0 = ((own_T 112).getD 2 0) from own_app_r [(own_ch p1), (own_ch p2)] _ 2]
  intro v h1 D1 q hsz
  obtain ⟨rfl, rfl, rfl⟩ := q
  show Runs 2 l Z [("com/example/record_guard/recordguard/conflict/SerializationFailureException", 27), ("com/example/record_guard/recordguard/conflict/SerializationFailureException", 30), ("java/lang/String", 7)] n0 _ _ _ _ _ _ _ [] h_54 35 12161 294 #[.val (.int p0), .val (.int p1), .val (.int p2), .val (.int p3), .val (.int p4), .val (.int (2 : Int32)), .val (.int (own_ch p1)), .val (.int (own_ch p2)), .val (.int (own_ch p3)), .val (.ref b_1), .val (.ref b_8), .val (.ref e_19), .val (.ref e_31), .val (.ref e_44), .val (.ref m_20), .val (.ref m_32), .val (.ref m_45)] [(.int ((own_T 112).getD 2 0))]
  refine Runs.aload i0_294 rfl rfl ?_
  refine Runs.iconst (v := (3 : Int32)) i0_296 (by decide) ?_
  refine Runs.callVW (argsL := [(.int (3 : Int32))]) (rest := [(.int ((own_T 112).getD 2 0))]) (W := 1) i0_297 (w257 hw) (w258 hw) (fun s hZ => notFace_of_selects (args := #[]) (mvT hZ (w260 hw))) (w260 hw) (w259 hw) (w261 hw) (w6 hw) (by decide) S_56.1.1 pd_34 rfl rfl rfl rfl (by decide) (by decide) (by decide) (by decide) all0 (by decide) (own_cha l Z a0 hw n0 m_32 u_33 k_34 (([(own_ch p4)] : List Int32) ++ (own_T 112)) _ S_56 3 (by rw [List.length_append, own_L112]; exact Nat.le_of_ble_eq_true rfl) cpt S_C hcpt fm hfm S_F) ?_
  rw [show (([(own_ch p4)] : List Int32) ++ (own_T 112)).getD 3 0 = ((own_T 112).getD 2 0) from own_app_r [(own_ch p4)] _ 2]
  intro v h1 D1 q hsz
  obtain ⟨rfl, rfl, rfl⟩ := q
  show Runs 2 l Z [("com/example/record_guard/recordguard/conflict/SerializationFailureException", 27), ("com/example/record_guard/recordguard/conflict/SerializationFailureException", 30), ("java/lang/String", 7)] n0 _ _ _ _ _ _ _ [] h_54 35 12161 300 #[.val (.int p0), .val (.int p1), .val (.int p2), .val (.int p3), .val (.int p4), .val (.int (2 : Int32)), .val (.int (own_ch p1)), .val (.int (own_ch p2)), .val (.int (own_ch p3)), .val (.ref b_1), .val (.ref b_8), .val (.ref e_19), .val (.ref e_31), .val (.ref e_44), .val (.ref m_20), .val (.ref m_32), .val (.ref m_45)] [(.int ((own_T 112).getD 2 0)), (.int ((own_T 112).getD 2 0))]
  refine Runs.icY (t := 305) i0_300 (by decide) (teq (rfl : ((own_T 112).getD 2 0) = ((own_T 112).getD 2 0))).1 ?_
  refine Runs.aload i0_305 rfl rfl ?_
  refine Runs.iload i0_307 rfl ?_
  refine Runs.iconst (v := (3 : Int32)) i0_309 (by decide) ?_
  refine Runs.iadd (z := (5 : Int32)) i0_310 (by decide) ?_
  refine Runs.callVW (argsL := [(.int (5 : Int32))]) (rest := []) (W := 0) i0_311 (w257 hw) (w258 hw) (fun s hZ => notFace_of_selects (args := #[]) (mvT hZ (w260 hw))) (w260 hw) (w259 hw) (w261 hw) (w6 hw) (by decide) S_55.1.1 pd_34 rfl rfl rfl rfl (by decide) (by decide) (by decide) (by decide) all0 (by decide) (own_cha l Z a0 hw n0 m_20 u_21 k_22 (([(own_ch p1), (own_ch p2)] : List Int32) ++ (own_T 112)) _ S_55 5 (by rw [List.length_append, own_L112]; exact Nat.le_of_ble_eq_true rfl) cpt S_C hcpt fm hfm S_F) ?_
  rw [show (([(own_ch p1), (own_ch p2)] : List Int32) ++ (own_T 112)).getD 5 0 = ((own_T 112).getD 3 0) from own_app_r [(own_ch p1), (own_ch p2)] _ 3]
  intro v h1 D1 q hsz
  obtain ⟨rfl, rfl, rfl⟩ := q
  show Runs 2 l Z [("com/example/record_guard/recordguard/conflict/SerializationFailureException", 27), ("com/example/record_guard/recordguard/conflict/SerializationFailureException", 30), ("java/lang/String", 7)] n0 _ _ _ _ _ _ _ [] h_54 35 12161 314 #[.val (.int p0), .val (.int p1), .val (.int p2), .val (.int p3), .val (.int p4), .val (.int (2 : Int32)), .val (.int (own_ch p1)), .val (.int (own_ch p2)), .val (.int (own_ch p3)), .val (.ref b_1), .val (.ref b_8), .val (.ref e_19), .val (.ref e_31), .val (.ref e_44), .val (.ref m_20), .val (.ref m_32), .val (.ref m_45)] [(.int ((own_T 112).getD 3 0))]
  refine Runs.aload i0_314 rfl rfl ?_
  refine Runs.iconst (v := (4 : Int32)) i0_316 (by decide) ?_
  refine Runs.callVW (argsL := [(.int (4 : Int32))]) (rest := [(.int ((own_T 112).getD 3 0))]) (W := 1) i0_317 (w257 hw) (w258 hw) (fun s hZ => notFace_of_selects (args := #[]) (mvT hZ (w260 hw))) (w260 hw) (w259 hw) (w261 hw) (w6 hw) (by decide) S_56.1.1 pd_34 rfl rfl rfl rfl (by decide) (by decide) (by decide) (by decide) all0 (by decide) (own_cha l Z a0 hw n0 m_32 u_33 k_34 (([(own_ch p4)] : List Int32) ++ (own_T 112)) _ S_56 4 (by rw [List.length_append, own_L112]; exact Nat.le_of_ble_eq_true rfl) cpt S_C hcpt fm hfm S_F) ?_
  rw [show (([(own_ch p4)] : List Int32) ++ (own_T 112)).getD 4 0 = ((own_T 112).getD 3 0) from own_app_r [(own_ch p4)] _ 3]
  intro v h1 D1 q hsz
  obtain ⟨rfl, rfl, rfl⟩ := q
  show Runs 2 l Z [("com/example/record_guard/recordguard/conflict/SerializationFailureException", 27), ("com/example/record_guard/recordguard/conflict/SerializationFailureException", 30), ("java/lang/String", 7)] n0 _ _ _ _ _ _ _ [] h_54 35 12161 320 #[.val (.int p0), .val (.int p1), .val (.int p2), .val (.int p3), .val (.int p4), .val (.int (2 : Int32)), .val (.int (own_ch p1)), .val (.int (own_ch p2)), .val (.int (own_ch p3)), .val (.ref b_1), .val (.ref b_8), .val (.ref e_19), .val (.ref e_31), .val (.ref e_44), .val (.ref m_20), .val (.ref m_32), .val (.ref m_45)] [(.int ((own_T 112).getD 3 0)), (.int ((own_T 112).getD 3 0))]
  refine Runs.icY (t := 325) i0_320 (by decide) (teq (rfl : ((own_T 112).getD 3 0) = ((own_T 112).getD 3 0))).1 ?_
  refine Runs.aload i0_325 rfl rfl ?_
  refine Runs.aload i0_327 rfl rfl ?_
  refine Runs.callVW (argsL := []) (rest := [(.ref m_20)]) (W := 1) i0_329 (w256 hw) (w76 hw) (fun s hZ => notFace_of_selects (args := #[]) (mvT hZ (w78 hw))) (w78 hw) (w77 hw) (w79 hw) (w6 hw) (by decide) S_55.1.1 pd_9 rfl rfl rfl rfl (by decide) (by decide) (by decide) (by decide) all0 (by decide) (own_len l Z a0 hw n0 m_20 u_21 k_22 (([(own_ch p1), (own_ch p2)] : List Int32) ++ (own_T 112)) _ S_55 cpt S_C hcpt) ?_
  rw [show (([(own_ch p1), (own_ch p2)] : List Int32) ++ (own_T 112)).length = 218 from (by rw [List.length_append, own_L112]; rfl)]
  intro v h1 D1 q hsz
  obtain ⟨rfl, rfl, rfl⟩ := q
  show Runs 2 l Z [("com/example/record_guard/recordguard/conflict/SerializationFailureException", 27), ("com/example/record_guard/recordguard/conflict/SerializationFailureException", 30), ("java/lang/String", 7)] n0 _ _ _ _ _ _ _ [] h_54 35 12161 332 #[.val (.int p0), .val (.int p1), .val (.int p2), .val (.int p3), .val (.int p4), .val (.int (2 : Int32)), .val (.int (own_ch p1)), .val (.int (own_ch p2)), .val (.int (own_ch p3)), .val (.ref b_1), .val (.ref b_8), .val (.ref e_19), .val (.ref e_31), .val (.ref e_44), .val (.ref m_20), .val (.ref m_32), .val (.ref m_45)] [(.int (218 : Int32)), (.ref m_20)]
  refine Runs.iconst (v := (1 : Int32)) i0_332 (by decide) ?_
  refine Runs.isub (z := (217 : Int32)) i0_333 (by decide) ?_
  refine Runs.callVW (argsL := [(.int (217 : Int32))]) (rest := []) (W := 0) i0_334 (w257 hw) (w258 hw) (fun s hZ => notFace_of_selects (args := #[]) (mvT hZ (w260 hw))) (w260 hw) (w259 hw) (w261 hw) (w6 hw) (by decide) S_55.1.1 pd_34 rfl rfl rfl rfl (by decide) (by decide) (by decide) (by decide) all0 (by decide) (own_cha l Z a0 hw n0 m_20 u_21 k_22 (([(own_ch p1), (own_ch p2)] : List Int32) ++ (own_T 112)) _ S_55 217 (by rw [List.length_append, own_L112]; exact Nat.le_of_ble_eq_true rfl) cpt S_C hcpt fm hfm S_F) ?_
  rw [show (([(own_ch p1), (own_ch p2)] : List Int32) ++ (own_T 112)).getD 217 0 = ((own_T 112).getD 215 0) from own_app_r [(own_ch p1), (own_ch p2)] _ 215]
  intro v h1 D1 q hsz
  obtain ⟨rfl, rfl, rfl⟩ := q
  show Runs 2 l Z [("com/example/record_guard/recordguard/conflict/SerializationFailureException", 27), ("com/example/record_guard/recordguard/conflict/SerializationFailureException", 30), ("java/lang/String", 7)] n0 _ _ _ _ _ _ _ [] h_54 35 12161 337 #[.val (.int p0), .val (.int p1), .val (.int p2), .val (.int p3), .val (.int p4), .val (.int (2 : Int32)), .val (.int (own_ch p1)), .val (.int (own_ch p2)), .val (.int (own_ch p3)), .val (.ref b_1), .val (.ref b_8), .val (.ref e_19), .val (.ref e_31), .val (.ref e_44), .val (.ref m_20), .val (.ref m_32), .val (.ref m_45)] [(.int ((own_T 112).getD 215 0))]
  refine Runs.aload i0_337 rfl rfl ?_
  refine Runs.aload i0_339 rfl rfl ?_
  refine Runs.callVW (argsL := []) (rest := [(.ref m_32), (.int ((own_T 112).getD 215 0))]) (W := 2) i0_341 (w256 hw) (w76 hw) (fun s hZ => notFace_of_selects (args := #[]) (mvT hZ (w78 hw))) (w78 hw) (w77 hw) (w79 hw) (w6 hw) (by decide) S_56.1.1 pd_9 rfl rfl rfl rfl (by decide) (by decide) (by decide) (by decide) all0 (by decide) (own_len l Z a0 hw n0 m_32 u_33 k_34 (([(own_ch p4)] : List Int32) ++ (own_T 112)) _ S_56 cpt S_C hcpt) ?_
  rw [show (([(own_ch p4)] : List Int32) ++ (own_T 112)).length = 217 from (by rw [List.length_append, own_L112]; rfl)]
  intro v h1 D1 q hsz
  obtain ⟨rfl, rfl, rfl⟩ := q
  show Runs 2 l Z [("com/example/record_guard/recordguard/conflict/SerializationFailureException", 27), ("com/example/record_guard/recordguard/conflict/SerializationFailureException", 30), ("java/lang/String", 7)] n0 _ _ _ _ _ _ _ [] h_54 35 12161 344 #[.val (.int p0), .val (.int p1), .val (.int p2), .val (.int p3), .val (.int p4), .val (.int (2 : Int32)), .val (.int (own_ch p1)), .val (.int (own_ch p2)), .val (.int (own_ch p3)), .val (.ref b_1), .val (.ref b_8), .val (.ref e_19), .val (.ref e_31), .val (.ref e_44), .val (.ref m_20), .val (.ref m_32), .val (.ref m_45)] [(.int (217 : Int32)), (.ref m_32), (.int ((own_T 112).getD 215 0))]
  refine Runs.iconst (v := (1 : Int32)) i0_344 (by decide) ?_
  refine Runs.isub (z := (216 : Int32)) i0_345 (by decide) ?_
  refine Runs.callVW (argsL := [(.int (216 : Int32))]) (rest := [(.int ((own_T 112).getD 215 0))]) (W := 1) i0_346 (w257 hw) (w258 hw) (fun s hZ => notFace_of_selects (args := #[]) (mvT hZ (w260 hw))) (w260 hw) (w259 hw) (w261 hw) (w6 hw) (by decide) S_56.1.1 pd_34 rfl rfl rfl rfl (by decide) (by decide) (by decide) (by decide) all0 (by decide) (own_cha l Z a0 hw n0 m_32 u_33 k_34 (([(own_ch p4)] : List Int32) ++ (own_T 112)) _ S_56 216 (by rw [List.length_append, own_L112]; exact Nat.le_of_ble_eq_true rfl) cpt S_C hcpt fm hfm S_F) ?_
  rw [show (([(own_ch p4)] : List Int32) ++ (own_T 112)).getD 216 0 = ((own_T 112).getD 215 0) from own_app_r [(own_ch p4)] _ 215]
  intro v h1 D1 q hsz
  obtain ⟨rfl, rfl, rfl⟩ := q
  show Runs 2 l Z [("com/example/record_guard/recordguard/conflict/SerializationFailureException", 27), ("com/example/record_guard/recordguard/conflict/SerializationFailureException", 30), ("java/lang/String", 7)] n0 _ _ _ _ _ _ _ [] h_54 35 12161 349 #[.val (.int p0), .val (.int p1), .val (.int p2), .val (.int p3), .val (.int p4), .val (.int (2 : Int32)), .val (.int (own_ch p1)), .val (.int (own_ch p2)), .val (.int (own_ch p3)), .val (.ref b_1), .val (.ref b_8), .val (.ref e_19), .val (.ref e_31), .val (.ref e_44), .val (.ref m_20), .val (.ref m_32), .val (.ref m_45)] [(.int ((own_T 112).getD 215 0)), (.int ((own_T 112).getD 215 0))]
  refine Runs.icY (t := 354) i0_349 (by decide) (teq (rfl : ((own_T 112).getD 215 0) = ((own_T 112).getD 215 0))).1 ?_
  refine Runs.aload i0_354 rfl rfl ?_
  refine Runs.aload i0_356 rfl rfl ?_
  refine Runs.callVW (argsL := [(.ref m_45)]) (rest := []) (W := 0) i0_358 (w278 hw) (w279 hw) (fun s hZ => notFace_of_selects (args := #[]) (mvT hZ (w281 hw))) (w281 hw) (w280 hw) (w282 hw) (w6 hw) (by decide) S_55.1.1 pd_35 rfl rfl rfl rfl (by decide) (by decide) (by decide) (by decide) all0 (by decide) (own_eqS l Z a0 hw n0 m_20 m_45 u_21 u_46 k_22 k_47 (([(own_ch p1), (own_ch p2)] : List Int32) ++ (own_T 112)) (([(own_ch p1), (own_ch p2)] : List Int32) ++ (own_T 243)) cpt _ (Nat.ne_of_lt (Nat.lt_of_lt_of_le S_42.1.lt g_49)) S_55 S_53 S_C hcpt) ?_
  rw [if_neg (own_neT [(own_ch p1), (own_ch p2)])]
  intro v h1 D1 q hsz
  obtain ⟨rfl, rfl, rfl⟩ := q
  show Runs 2 l Z [("com/example/record_guard/recordguard/conflict/SerializationFailureException", 27), ("com/example/record_guard/recordguard/conflict/SerializationFailureException", 30), ("java/lang/String", 7)] n0 _ _ _ _ _ _ _ [] h_54 35 12161 361 #[.val (.int p0), .val (.int p1), .val (.int p2), .val (.int p3), .val (.int p4), .val (.int (2 : Int32)), .val (.int (own_ch p1)), .val (.int (own_ch p2)), .val (.int (own_ch p3)), .val (.ref b_1), .val (.ref b_8), .val (.ref e_19), .val (.ref e_31), .val (.ref e_44), .val (.ref m_20), .val (.ref m_32), .val (.ref m_45)] [(.int (0 : Int32))]
  refine Runs.ifN i0_361 (teq (by decide : (0 : Int32) = (0 : Int32))).2 ?_
  refine Runs.iconst (v := (1 : Int32)) i0_364 (by decide) ?_
  refine Runs.goto (t := 369) i0_365 (by decide) ?_
  exact Runs.retI (z := (1 : Int32)) i0_369 rfl (Or.inr (Or.inl rfl)) (by decide) (by decide) (by decide) rfl
set_option maxRecDepth 65536 in
set_option maxHeartbeats 4000000 in
theorem own_law3 (l : Launch) (Z : State) (a0 : Array Value) (hw : Wds Z a0) (n0 : Nat) (p0 p1 p2 p3 p4 : Int32) (cpt : Int32) (S_C : Sta Z Z.heap "java/lang/String" "COMPACT_STRINGS" "Z" (.int cpt)) (hcpt : ¬ cpt = 0) (fm : Value) (hfm : fm.isRef = true) (S_F : Sta Z Z.heap "jdk/internal/util/Preconditions" "SIOOBE_FORMATTER" "Ljava/util/function/BiFunction;" fm) (hl : l.stackTraces = true) (uS uP : Value) (huS : uS.isRef = true) (huP : uP.isRef = true) (S_U : Sta Z Z.heap "java/lang/Throwable" "UNASSIGNED_STACK" "[Ljava/lang/StackTraceElement;" uS) (S_P : Sta Z Z.heap "java/lang/Throwable" "SUPPRESSED_SENTINEL" "Ljava/util/List;" uP) : Runs 2 l Z [("com/example/record_guard/recordguard/conflict/SerializationFailureException", 27), ("com/example/record_guard/recordguard/conflict/SerializationFailureException", 30), ("java/lang/String", 7)] n0 x.cls x.name code maxLocals ret room_1 (fun v h D' => v = some (.int 1)) [] Z.heap 0 0 29 #[.val (.int p0), .val (.int p1), .val (.int p2), .val (.int p3), .val (.int p4), .val (.int (3 : Int32)), .val (.int (own_ch p1)), .val (.int (own_ch p2)), .val (.int (own_ch p3)), .unset, .unset, .unset, .unset, .unset, .unset, .unset, .unset] [] := by
  refine Runs.iload i0_29 rfl ?_
  refine Runs.iload i0_31 rfl ?_
  refine Runs.iload i0_33 rfl ?_
  refine Runs.iload i0_35 rfl ?_
  refine Runs.callSW (argsL := [(.int (3 : Int32)), (.int (own_ch p1)), (.int (own_ch p2)), (.int (own_ch p3))]) (rest := []) (W := 0) i0_37 (w0 hw) (w1 hw) (w2 hw) (w3 hw) (by decide) pd_31 rfl rfl rfl rfl (by decide) (by decide) (by decide) (by decide) all0 (by decide) (own_mk3 l Z a0 hw n0 (own_ch p1) (own_ch p2) (own_ch p3) (own_chr p1) (own_chr p2) (own_chr p3) _ cpt S_C hcpt) ?_
  intro v h_7 D1 q hsz
  obtain ⟨b_1, t_2, k_3, rfl, g_4, K_5, S_6, rfl⟩ := q
  show Runs 2 l Z [("com/example/record_guard/recordguard/conflict/SerializationFailureException", 27), ("com/example/record_guard/recordguard/conflict/SerializationFailureException", 30), ("java/lang/String", 7)] n0 _ _ _ _ _ _ _ [] h_7 6 12 40 #[.val (.int p0), .val (.int p1), .val (.int p2), .val (.int p3), .val (.int p4), .val (.int (3 : Int32)), .val (.int (own_ch p1)), .val (.int (own_ch p2)), .val (.int (own_ch p3)), .unset, .unset, .unset, .unset, .unset, .unset, .unset, .unset] [(.ref b_1)]
  refine Runs.astore (ls' := #[.val (.int p0), .val (.int p1), .val (.int p2), .val (.int p3), .val (.int p4), .val (.int (3 : Int32)), .val (.int (own_ch p1)), .val (.int (own_ch p2)), .val (.int (own_ch p3)), .val (.ref b_1), .unset, .unset, .unset, .unset, .unset, .unset, .unset]) i0_40 rfl rfl ?_
  refine Runs.iload i0_42 rfl ?_
  refine Runs.sipush (v := (255 : Int32)) i0_44 (by decide) ?_
  refine Runs.iand (z := (own_ch p4)) i0_47 rfl ?_
  refine Runs.i2c (z := (own_ch p4)) i0_48 (own_i2c (own_chr p4)) ?_
  refine Runs.callSW (argsL := [(.int (own_ch p4))]) (rest := []) (W := 0) i0_49 (w26 hw) (w27 hw) (w6 hw) (w28 hw) (by decide) pd_32 rfl rfl rfl rfl (by decide) (by decide) (by decide) (by decide) all0 (by decide) (own_vof l Z a0 hw n0 (own_ch p4) cpt _ (own_chr p4).2 S_C hcpt) ?_
  intro v h_16 D1 q hsz
  obtain ⟨b_8, t_9, k_10, rfl, g_11, g_12, K_13, O_14, A_15, rfl⟩ := q
  show Runs 2 l Z [("com/example/record_guard/recordguard/conflict/SerializationFailureException", 27), ("com/example/record_guard/recordguard/conflict/SerializationFailureException", 30), ("java/lang/String", 7)] n0 _ _ _ _ _ _ _ [] h_16 8 17 52 #[.val (.int p0), .val (.int p1), .val (.int p2), .val (.int p3), .val (.int p4), .val (.int (3 : Int32)), .val (.int (own_ch p1)), .val (.int (own_ch p2)), .val (.int (own_ch p3)), .val (.ref b_1), .unset, .unset, .unset, .unset, .unset, .unset, .unset] [(.ref b_8)]
  have S_17 : Str Z h_16 b_8 t_9 k_10 [(own_ch p4)] := ⟨O_14, A_15, own_lat1 (own_chr p4), by simp⟩
  refine Runs.astore (ls' := #[.val (.int p0), .val (.int p1), .val (.int p2), .val (.int p3), .val (.int p4), .val (.int (3 : Int32)), .val (.int (own_ch p1)), .val (.int (own_ch p2)), .val (.int (own_ch p3)), .val (.ref b_1), .val (.ref b_8), .unset, .unset, .unset, .unset, .unset, .unset]) i0_52 rfl rfl ?_
  refine Runs.aload i0_54 rfl rfl ?_
  have S_18 := (S_6.keep K_13 nin0 nin0)
  refine Runs.callSW (argsL := [(.ref b_1)]) (rest := []) (W := 0) i0_56 (w41 hw) (w42 hw) (w43 hw) (w44 hw) (by decide) pd_33 rfl rfl rfl rfl (by decide) (by decide) (by decide) (by decide) all0 (by decide) (own_f30 l Z a0 hw n0 b_1 t_2 k_3 [(own_ch p1), (own_ch p2), (own_ch p3)] (by simp) _ S_18 cpt S_C hcpt hl uS uP huS huP S_U S_P) ?_
  intro v h_29 D1 q hsz
  obtain ⟨e_19, m_20, u_21, k_22, rfl, g_23, g_24, K_25, O_26, U_27, S_28, rfl⟩ := q
  show Runs 2 l Z [("com/example/record_guard/recordguard/conflict/SerializationFailureException", 27), ("com/example/record_guard/recordguard/conflict/SerializationFailureException", 30), ("java/lang/String", 7)] n0 _ _ _ _ _ _ _ [] h_29 17 4105 59 #[.val (.int p0), .val (.int p1), .val (.int p2), .val (.int p3), .val (.int p4), .val (.int (3 : Int32)), .val (.int (own_ch p1)), .val (.int (own_ch p2)), .val (.int (own_ch p3)), .val (.ref b_1), .val (.ref b_8), .unset, .unset, .unset, .unset, .unset, .unset] [(.ref e_19)]
  refine Runs.astore (ls' := #[.val (.int p0), .val (.int p1), .val (.int p2), .val (.int p3), .val (.int p4), .val (.int (3 : Int32)), .val (.int (own_ch p1)), .val (.int (own_ch p2)), .val (.int (own_ch p3)), .val (.ref b_1), .val (.ref b_8), .val (.ref e_19), .unset, .unset, .unset, .unset, .unset]) i0_59 rfl rfl ?_
  refine Runs.aload i0_61 rfl rfl ?_
  have S_30 := (S_17.keep K_25 nin0 nin0)
  refine Runs.callSW (argsL := [(.ref b_8)]) (rest := []) (W := 0) i0_63 (w41 hw) (w42 hw) (w43 hw) (w44 hw) (by decide) pd_33 rfl rfl rfl rfl (by decide) (by decide) (by decide) (by decide) all0 (by decide) (own_f30 l Z a0 hw n0 b_8 t_9 k_10 [(own_ch p4)] (by simp) _ S_30 cpt S_C hcpt hl uS uP huS huP S_U S_P) ?_
  intro v h_41 D1 q hsz
  obtain ⟨e_31, m_32, u_33, k_34, rfl, g_35, g_36, K_37, O_38, U_39, S_40, rfl⟩ := q
  show Runs 2 l Z [("com/example/record_guard/recordguard/conflict/SerializationFailureException", 27), ("com/example/record_guard/recordguard/conflict/SerializationFailureException", 30), ("java/lang/String", 7)] n0 _ _ _ _ _ _ _ [] h_41 26 8193 66 #[.val (.int p0), .val (.int p1), .val (.int p2), .val (.int p3), .val (.int p4), .val (.int (3 : Int32)), .val (.int (own_ch p1)), .val (.int (own_ch p2)), .val (.int (own_ch p3)), .val (.ref b_1), .val (.ref b_8), .val (.ref e_19), .unset, .unset, .unset, .unset, .unset] [(.ref e_31)]
  refine Runs.astore (ls' := #[.val (.int p0), .val (.int p1), .val (.int p2), .val (.int p3), .val (.int p4), .val (.int (3 : Int32)), .val (.int (own_ch p1)), .val (.int (own_ch p2)), .val (.int (own_ch p3)), .val (.ref b_1), .val (.ref b_8), .val (.ref e_19), .val (.ref e_31), .unset, .unset, .unset, .unset]) i0_66 rfl rfl ?_
  refine Runs.aload i0_68 rfl rfl ?_
  have S_42 := (S_28.keep K_37 nin0 nin0)
  have S_43 := ((S_18.keep K_25 nin0 nin0).keep K_37 nin0 nin0)
  refine Runs.callSW (argsL := [(.ref b_1)]) (rest := []) (W := 0) i0_70 (w240 hw) (w241 hw) (w43 hw) (w242 hw) (by decide) pd_33 rfl rfl rfl rfl (by decide) (by decide) (by decide) (by decide) all0 (by decide) (own_f27 l Z a0 hw n0 b_1 t_2 k_3 [(own_ch p1), (own_ch p2), (own_ch p3)] (by simp) _ S_43 cpt S_C hcpt hl uS uP huS huP S_U S_P) ?_
  intro v h_54 D1 q hsz
  obtain ⟨e_44, m_45, u_46, k_47, rfl, g_48, g_49, K_50, O_51, U_52, S_53, rfl⟩ := q
  show Runs 2 l Z [("com/example/record_guard/recordguard/conflict/SerializationFailureException", 27), ("com/example/record_guard/recordguard/conflict/SerializationFailureException", 30), ("java/lang/String", 7)] n0 _ _ _ _ _ _ _ [] h_54 35 12161 73 #[.val (.int p0), .val (.int p1), .val (.int p2), .val (.int p3), .val (.int p4), .val (.int (3 : Int32)), .val (.int (own_ch p1)), .val (.int (own_ch p2)), .val (.int (own_ch p3)), .val (.ref b_1), .val (.ref b_8), .val (.ref e_19), .val (.ref e_31), .unset, .unset, .unset, .unset] [(.ref e_44)]
  refine Runs.astore (ls' := #[.val (.int p0), .val (.int p1), .val (.int p2), .val (.int p3), .val (.int p4), .val (.int (3 : Int32)), .val (.int (own_ch p1)), .val (.int (own_ch p2)), .val (.int (own_ch p3)), .val (.ref b_1), .val (.ref b_8), .val (.ref e_19), .val (.ref e_31), .val (.ref e_44), .unset, .unset, .unset]) i0_73 rfl rfl ?_
  refine Runs.aload i0_75 rfl rfl ?_
  refine Runs.nullN i0_77 ?_
  refine Runs.aload i0_80 rfl rfl ?_
  refine Runs.nullN i0_82 ?_
  refine Runs.aload i0_85 rfl rfl ?_
  refine Runs.nnullY (t := 92) i0_87 (by decide) ?_
  refine Runs.aload i0_92 rfl rfl ?_
  refine Runs.gcause (W := 0) i0_94 (w244 hw) (w245 hw) (w246 hw) (w248 hw) (w249 hw) (w247 hw) (w201 hw) (w204 hw) ((O_26.keep K_37 nin0).keep K_50 nin0).1 (Unt.keep K_50 nin0 (Unt.keep K_37 nin0 U_27)) (((O_26.keep K_37 nin0).keep K_50 nin0).fld (i := 1) rfl) rfl rfl rfl (by decide) (by decide) (by decide) (by decide) ?_
  rw [show Jvm.RoadKit.gcV e_19 (.ref e_19) = Value.null from if_pos rfl]
  refine Runs.nullY (t := 102) i0_97 (by decide) ?_
  refine Runs.aload i0_102 rfl rfl ?_
  refine Runs.callVUW (argsL := []) (rest := []) (W := 0) i0_104 (w250 hw) (w251 hw) (w252 hw) (by decide) (w254 hw) (w253 hw) (w255 hw) (w201 hw) ((O_26.keep K_37 nin0).keep K_50 nin0).1 pd_30 rfl rfl rfl rfl (by decide) (by decide) (by decide) (by decide) all0 (by decide) (own_gm l Z a0 hw n0 e_19 m_20 _ ((O_26.keep K_37 nin0).keep K_50 nin0)) ?_
  intro v h1 D1 q hsz
  obtain ⟨rfl, rfl, rfl⟩ := q
  show Runs 2 l Z [("com/example/record_guard/recordguard/conflict/SerializationFailureException", 27), ("com/example/record_guard/recordguard/conflict/SerializationFailureException", 30), ("java/lang/String", 7)] n0 _ _ _ _ _ _ _ [] h_54 35 12161 107 #[.val (.int p0), .val (.int p1), .val (.int p2), .val (.int p3), .val (.int p4), .val (.int (3 : Int32)), .val (.int (own_ch p1)), .val (.int (own_ch p2)), .val (.int (own_ch p3)), .val (.ref b_1), .val (.ref b_8), .val (.ref e_19), .val (.ref e_31), .val (.ref e_44), .unset, .unset, .unset] [(.ref m_20)]
  refine Runs.astore (ls' := #[.val (.int p0), .val (.int p1), .val (.int p2), .val (.int p3), .val (.int p4), .val (.int (3 : Int32)), .val (.int (own_ch p1)), .val (.int (own_ch p2)), .val (.int (own_ch p3)), .val (.ref b_1), .val (.ref b_8), .val (.ref e_19), .val (.ref e_31), .val (.ref e_44), .val (.ref m_20), .unset, .unset]) i0_107 rfl rfl ?_
  refine Runs.aload i0_109 rfl rfl ?_
  refine Runs.callVUW (argsL := []) (rest := []) (W := 0) i0_111 (w250 hw) (w251 hw) (w252 hw) (by decide) (w254 hw) (w253 hw) (w255 hw) (w201 hw) (O_38.keep K_50 nin0).1 pd_30 rfl rfl rfl rfl (by decide) (by decide) (by decide) (by decide) all0 (by decide) (own_gm l Z a0 hw n0 e_31 m_32 _ (O_38.keep K_50 nin0)) ?_
  intro v h1 D1 q hsz
  obtain ⟨rfl, rfl, rfl⟩ := q
  show Runs 2 l Z [("com/example/record_guard/recordguard/conflict/SerializationFailureException", 27), ("com/example/record_guard/recordguard/conflict/SerializationFailureException", 30), ("java/lang/String", 7)] n0 _ _ _ _ _ _ _ [] h_54 35 12161 114 #[.val (.int p0), .val (.int p1), .val (.int p2), .val (.int p3), .val (.int p4), .val (.int (3 : Int32)), .val (.int (own_ch p1)), .val (.int (own_ch p2)), .val (.int (own_ch p3)), .val (.ref b_1), .val (.ref b_8), .val (.ref e_19), .val (.ref e_31), .val (.ref e_44), .val (.ref m_20), .unset, .unset] [(.ref m_32)]
  refine Runs.astore (ls' := #[.val (.int p0), .val (.int p1), .val (.int p2), .val (.int p3), .val (.int p4), .val (.int (3 : Int32)), .val (.int (own_ch p1)), .val (.int (own_ch p2)), .val (.int (own_ch p3)), .val (.ref b_1), .val (.ref b_8), .val (.ref e_19), .val (.ref e_31), .val (.ref e_44), .val (.ref m_20), .val (.ref m_32), .unset]) i0_114 rfl rfl ?_
  refine Runs.aload i0_116 rfl rfl ?_
  refine Runs.callVUW (argsL := []) (rest := []) (W := 0) i0_118 (w250 hw) (w251 hw) (w252 hw) (by decide) (w254 hw) (w253 hw) (w255 hw) (w201 hw) O_51.1 pd_30 rfl rfl rfl rfl (by decide) (by decide) (by decide) (by decide) all0 (by decide) (own_gm l Z a0 hw n0 e_44 m_45 _ O_51) ?_
  intro v h1 D1 q hsz
  obtain ⟨rfl, rfl, rfl⟩ := q
  show Runs 2 l Z [("com/example/record_guard/recordguard/conflict/SerializationFailureException", 27), ("com/example/record_guard/recordguard/conflict/SerializationFailureException", 30), ("java/lang/String", 7)] n0 _ _ _ _ _ _ _ [] h_54 35 12161 121 #[.val (.int p0), .val (.int p1), .val (.int p2), .val (.int p3), .val (.int p4), .val (.int (3 : Int32)), .val (.int (own_ch p1)), .val (.int (own_ch p2)), .val (.int (own_ch p3)), .val (.ref b_1), .val (.ref b_8), .val (.ref e_19), .val (.ref e_31), .val (.ref e_44), .val (.ref m_20), .val (.ref m_32), .unset] [(.ref m_45)]
  refine Runs.astore (ls' := #[.val (.int p0), .val (.int p1), .val (.int p2), .val (.int p3), .val (.int p4), .val (.int (3 : Int32)), .val (.int (own_ch p1)), .val (.int (own_ch p2)), .val (.int (own_ch p3)), .val (.ref b_1), .val (.ref b_8), .val (.ref e_19), .val (.ref e_31), .val (.ref e_44), .val (.ref m_20), .val (.ref m_32), .val (.ref m_45)]) i0_121 rfl rfl ?_
  refine Runs.aload i0_123 rfl rfl ?_
  refine Runs.nullN i0_125 ?_
  refine Runs.aload i0_128 rfl rfl ?_
  refine Runs.nullN i0_130 ?_
  refine Runs.aload i0_133 rfl rfl ?_
  refine Runs.nnullY (t := 140) i0_135 (by decide) ?_
  refine Runs.aload i0_140 rfl rfl ?_
  have S_55 := (S_42.keep K_50 nin0 nin0)
  refine Runs.callVW (argsL := []) (rest := []) (W := 0) i0_142 (w256 hw) (w76 hw) (fun s hZ => notFace_of_selects (args := #[]) (mvT hZ (w78 hw))) (w78 hw) (w77 hw) (w79 hw) (w6 hw) (by decide) S_55.1.1 pd_9 rfl rfl rfl rfl (by decide) (by decide) (by decide) (by decide) all0 (by decide) (own_len l Z a0 hw n0 m_20 u_21 k_22 (([(own_ch p1), (own_ch p2), (own_ch p3)] : List Int32) ++ (own_T 112)) _ S_55 cpt S_C hcpt) ?_
  rw [show (([(own_ch p1), (own_ch p2), (own_ch p3)] : List Int32) ++ (own_T 112)).length = 219 from (by rw [List.length_append, own_L112]; rfl)]
  intro v h1 D1 q hsz
  obtain ⟨rfl, rfl, rfl⟩ := q
  show Runs 2 l Z [("com/example/record_guard/recordguard/conflict/SerializationFailureException", 27), ("com/example/record_guard/recordguard/conflict/SerializationFailureException", 30), ("java/lang/String", 7)] n0 _ _ _ _ _ _ _ [] h_54 35 12161 145 #[.val (.int p0), .val (.int p1), .val (.int p2), .val (.int p3), .val (.int p4), .val (.int (3 : Int32)), .val (.int (own_ch p1)), .val (.int (own_ch p2)), .val (.int (own_ch p3)), .val (.ref b_1), .val (.ref b_8), .val (.ref e_19), .val (.ref e_31), .val (.ref e_44), .val (.ref m_20), .val (.ref m_32), .val (.ref m_45)] [(.int (219 : Int32))]
  refine Runs.iload i0_145 rfl ?_
  refine Runs.iconst (v := (4 : Int32)) i0_147 (by decide) ?_
  refine Runs.iadd (z := (7 : Int32)) i0_148 (by decide) ?_
  refine Runs.icN i0_149 (flt (by decide : ¬ ((219 : Int32) < (7 : Int32)))).1 ?_
  refine Runs.aload i0_152 rfl rfl ?_
  have S_56 := (S_40.keep K_50 nin0 nin0)
  refine Runs.callVW (argsL := []) (rest := []) (W := 0) i0_154 (w256 hw) (w76 hw) (fun s hZ => notFace_of_selects (args := #[]) (mvT hZ (w78 hw))) (w78 hw) (w77 hw) (w79 hw) (w6 hw) (by decide) S_56.1.1 pd_9 rfl rfl rfl rfl (by decide) (by decide) (by decide) (by decide) all0 (by decide) (own_len l Z a0 hw n0 m_32 u_33 k_34 (([(own_ch p4)] : List Int32) ++ (own_T 112)) _ S_56 cpt S_C hcpt) ?_
  rw [show (([(own_ch p4)] : List Int32) ++ (own_T 112)).length = 217 from (by rw [List.length_append, own_L112]; rfl)]
  intro v h1 D1 q hsz
  obtain ⟨rfl, rfl, rfl⟩ := q
  show Runs 2 l Z [("com/example/record_guard/recordguard/conflict/SerializationFailureException", 27), ("com/example/record_guard/recordguard/conflict/SerializationFailureException", 30), ("java/lang/String", 7)] n0 _ _ _ _ _ _ _ [] h_54 35 12161 157 #[.val (.int p0), .val (.int p1), .val (.int p2), .val (.int p3), .val (.int p4), .val (.int (3 : Int32)), .val (.int (own_ch p1)), .val (.int (own_ch p2)), .val (.int (own_ch p3)), .val (.ref b_1), .val (.ref b_8), .val (.ref e_19), .val (.ref e_31), .val (.ref e_44), .val (.ref m_20), .val (.ref m_32), .val (.ref m_45)] [(.int (217 : Int32))]
  refine Runs.iconst (v := (5 : Int32)) i0_157 (by decide) ?_
  refine Runs.icY (t := 163) i0_158 (by decide) (flt (by decide : ¬ ((217 : Int32) < (5 : Int32)))).2.1 ?_
  refine Runs.aload i0_163 rfl rfl ?_
  refine Runs.callVW (argsL := []) (rest := []) (W := 0) i0_165 (w256 hw) (w76 hw) (fun s hZ => notFace_of_selects (args := #[]) (mvT hZ (w78 hw))) (w78 hw) (w77 hw) (w79 hw) (w6 hw) (by decide) S_55.1.1 pd_9 rfl rfl rfl rfl (by decide) (by decide) (by decide) (by decide) all0 (by decide) (own_len l Z a0 hw n0 m_20 u_21 k_22 (([(own_ch p1), (own_ch p2), (own_ch p3)] : List Int32) ++ (own_T 112)) _ S_55 cpt S_C hcpt) ?_
  rw [show (([(own_ch p1), (own_ch p2), (own_ch p3)] : List Int32) ++ (own_T 112)).length = 219 from (by rw [List.length_append, own_L112]; rfl)]
  intro v h1 D1 q hsz
  obtain ⟨rfl, rfl, rfl⟩ := q
  show Runs 2 l Z [("com/example/record_guard/recordguard/conflict/SerializationFailureException", 27), ("com/example/record_guard/recordguard/conflict/SerializationFailureException", 30), ("java/lang/String", 7)] n0 _ _ _ _ _ _ _ [] h_54 35 12161 168 #[.val (.int p0), .val (.int p1), .val (.int p2), .val (.int p3), .val (.int p4), .val (.int (3 : Int32)), .val (.int (own_ch p1)), .val (.int (own_ch p2)), .val (.int (own_ch p3)), .val (.ref b_1), .val (.ref b_8), .val (.ref e_19), .val (.ref e_31), .val (.ref e_44), .val (.ref m_20), .val (.ref m_32), .val (.ref m_45)] [(.int (219 : Int32))]
  refine Runs.iload i0_168 rfl ?_
  refine Runs.isub (z := (216 : Int32)) i0_170 (by decide) ?_
  refine Runs.aload i0_171 rfl rfl ?_
  refine Runs.callVW (argsL := []) (rest := [(.int (216 : Int32))]) (W := 1) i0_173 (w256 hw) (w76 hw) (fun s hZ => notFace_of_selects (args := #[]) (mvT hZ (w78 hw))) (w78 hw) (w77 hw) (w79 hw) (w6 hw) (by decide) S_56.1.1 pd_9 rfl rfl rfl rfl (by decide) (by decide) (by decide) (by decide) all0 (by decide) (own_len l Z a0 hw n0 m_32 u_33 k_34 (([(own_ch p4)] : List Int32) ++ (own_T 112)) _ S_56 cpt S_C hcpt) ?_
  rw [show (([(own_ch p4)] : List Int32) ++ (own_T 112)).length = 217 from (by rw [List.length_append, own_L112]; rfl)]
  intro v h1 D1 q hsz
  obtain ⟨rfl, rfl, rfl⟩ := q
  show Runs 2 l Z [("com/example/record_guard/recordguard/conflict/SerializationFailureException", 27), ("com/example/record_guard/recordguard/conflict/SerializationFailureException", 30), ("java/lang/String", 7)] n0 _ _ _ _ _ _ _ [] h_54 35 12161 176 #[.val (.int p0), .val (.int p1), .val (.int p2), .val (.int p3), .val (.int p4), .val (.int (3 : Int32)), .val (.int (own_ch p1)), .val (.int (own_ch p2)), .val (.int (own_ch p3)), .val (.ref b_1), .val (.ref b_8), .val (.ref e_19), .val (.ref e_31), .val (.ref e_44), .val (.ref m_20), .val (.ref m_32), .val (.ref m_45)] [(.int (217 : Int32)), (.int (216 : Int32))]
  refine Runs.iconst (v := (1 : Int32)) i0_176 (by decide) ?_
  refine Runs.isub (z := (216 : Int32)) i0_177 (by decide) ?_
  refine Runs.icY (t := 183) i0_178 (by decide) (teq (by decide : (216 : Int32) = (216 : Int32))).1 ?_
  refine Runs.iload i0_183 rfl ?_
  refine Runs.ifN i0_185 (tlt (by decide : (0 : Int32) < (3 : Int32))).2.2.2 ?_
  refine Runs.aload i0_188 rfl rfl ?_
  refine Runs.iconst (v := (0 : Int32)) i0_190 (by decide) ?_
  refine Runs.callVW (argsL := [(.int (0 : Int32))]) (rest := []) (W := 0) i0_191 (w257 hw) (w258 hw) (fun s hZ => notFace_of_selects (args := #[]) (mvT hZ (w260 hw))) (w260 hw) (w259 hw) (w261 hw) (w6 hw) (by decide) S_55.1.1 pd_34 rfl rfl rfl rfl (by decide) (by decide) (by decide) (by decide) all0 (by decide) (own_cha l Z a0 hw n0 m_20 u_21 k_22 (([(own_ch p1), (own_ch p2), (own_ch p3)] : List Int32) ++ (own_T 112)) _ S_55 0 (by rw [List.length_append, own_L112]; exact Nat.le_of_ble_eq_true rfl) cpt S_C hcpt fm hfm S_F) ?_
  rw [show (([(own_ch p1), (own_ch p2), (own_ch p3)] : List Int32) ++ (own_T 112)).getD 0 0 = (own_ch p1) from rfl]
  intro v h1 D1 q hsz
  obtain ⟨rfl, rfl, rfl⟩ := q
  show Runs 2 l Z [("com/example/record_guard/recordguard/conflict/SerializationFailureException", 27), ("com/example/record_guard/recordguard/conflict/SerializationFailureException", 30), ("java/lang/String", 7)] n0 _ _ _ _ _ _ _ [] h_54 35 12161 194 #[.val (.int p0), .val (.int p1), .val (.int p2), .val (.int p3), .val (.int p4), .val (.int (3 : Int32)), .val (.int (own_ch p1)), .val (.int (own_ch p2)), .val (.int (own_ch p3)), .val (.ref b_1), .val (.ref b_8), .val (.ref e_19), .val (.ref e_31), .val (.ref e_44), .val (.ref m_20), .val (.ref m_32), .val (.ref m_45)] [(.int (own_ch p1))]
  refine Runs.iload i0_194 rfl ?_
  refine Runs.icY (t := 201) i0_196 (by decide) (teq (rfl : (own_ch p1) = (own_ch p1))).1 ?_
  refine Runs.iload i0_201 rfl ?_
  refine Runs.iconst (v := (1 : Int32)) i0_203 (by decide) ?_
  refine Runs.icN i0_204 (tlt (by decide : (1 : Int32) < (3 : Int32))).2.2.2 ?_
  refine Runs.aload i0_207 rfl rfl ?_
  refine Runs.iconst (v := (1 : Int32)) i0_209 (by decide) ?_
  refine Runs.callVW (argsL := [(.int (1 : Int32))]) (rest := []) (W := 0) i0_210 (w257 hw) (w258 hw) (fun s hZ => notFace_of_selects (args := #[]) (mvT hZ (w260 hw))) (w260 hw) (w259 hw) (w261 hw) (w6 hw) (by decide) S_55.1.1 pd_34 rfl rfl rfl rfl (by decide) (by decide) (by decide) (by decide) all0 (by decide) (own_cha l Z a0 hw n0 m_20 u_21 k_22 (([(own_ch p1), (own_ch p2), (own_ch p3)] : List Int32) ++ (own_T 112)) _ S_55 1 (by rw [List.length_append, own_L112]; exact Nat.le_of_ble_eq_true rfl) cpt S_C hcpt fm hfm S_F) ?_
  rw [show (([(own_ch p1), (own_ch p2), (own_ch p3)] : List Int32) ++ (own_T 112)).getD 1 0 = (own_ch p2) from rfl]
  intro v h1 D1 q hsz
  obtain ⟨rfl, rfl, rfl⟩ := q
  show Runs 2 l Z [("com/example/record_guard/recordguard/conflict/SerializationFailureException", 27), ("com/example/record_guard/recordguard/conflict/SerializationFailureException", 30), ("java/lang/String", 7)] n0 _ _ _ _ _ _ _ [] h_54 35 12161 213 #[.val (.int p0), .val (.int p1), .val (.int p2), .val (.int p3), .val (.int p4), .val (.int (3 : Int32)), .val (.int (own_ch p1)), .val (.int (own_ch p2)), .val (.int (own_ch p3)), .val (.ref b_1), .val (.ref b_8), .val (.ref e_19), .val (.ref e_31), .val (.ref e_44), .val (.ref m_20), .val (.ref m_32), .val (.ref m_45)] [(.int (own_ch p2))]
  refine Runs.iload i0_213 rfl ?_
  refine Runs.icY (t := 220) i0_215 (by decide) (teq (rfl : (own_ch p2) = (own_ch p2))).1 ?_
  refine Runs.iload i0_220 rfl ?_
  refine Runs.iconst (v := (2 : Int32)) i0_222 (by decide) ?_
  refine Runs.icN i0_223 (tlt (by decide : (2 : Int32) < (3 : Int32))).2.2.2 ?_
  refine Runs.aload i0_226 rfl rfl ?_
  refine Runs.iconst (v := (2 : Int32)) i0_228 (by decide) ?_
  refine Runs.callVW (argsL := [(.int (2 : Int32))]) (rest := []) (W := 0) i0_229 (w257 hw) (w258 hw) (fun s hZ => notFace_of_selects (args := #[]) (mvT hZ (w260 hw))) (w260 hw) (w259 hw) (w261 hw) (w6 hw) (by decide) S_55.1.1 pd_34 rfl rfl rfl rfl (by decide) (by decide) (by decide) (by decide) all0 (by decide) (own_cha l Z a0 hw n0 m_20 u_21 k_22 (([(own_ch p1), (own_ch p2), (own_ch p3)] : List Int32) ++ (own_T 112)) _ S_55 2 (by rw [List.length_append, own_L112]; exact Nat.le_of_ble_eq_true rfl) cpt S_C hcpt fm hfm S_F) ?_
  rw [show (([(own_ch p1), (own_ch p2), (own_ch p3)] : List Int32) ++ (own_T 112)).getD 2 0 = (own_ch p3) from rfl]
  intro v h1 D1 q hsz
  obtain ⟨rfl, rfl, rfl⟩ := q
  show Runs 2 l Z [("com/example/record_guard/recordguard/conflict/SerializationFailureException", 27), ("com/example/record_guard/recordguard/conflict/SerializationFailureException", 30), ("java/lang/String", 7)] n0 _ _ _ _ _ _ _ [] h_54 35 12161 232 #[.val (.int p0), .val (.int p1), .val (.int p2), .val (.int p3), .val (.int p4), .val (.int (3 : Int32)), .val (.int (own_ch p1)), .val (.int (own_ch p2)), .val (.int (own_ch p3)), .val (.ref b_1), .val (.ref b_8), .val (.ref e_19), .val (.ref e_31), .val (.ref e_44), .val (.ref m_20), .val (.ref m_32), .val (.ref m_45)] [(.int (own_ch p3))]
  refine Runs.iload i0_232 rfl ?_
  refine Runs.icY (t := 239) i0_234 (by decide) (teq (rfl : (own_ch p3) = (own_ch p3))).1 ?_
  refine Runs.aload i0_239 rfl rfl ?_
  refine Runs.iload i0_241 rfl ?_
  refine Runs.callVW (argsL := [(.int (3 : Int32))]) (rest := []) (W := 0) i0_243 (w257 hw) (w258 hw) (fun s hZ => notFace_of_selects (args := #[]) (mvT hZ (w260 hw))) (w260 hw) (w259 hw) (w261 hw) (w6 hw) (by decide) S_55.1.1 pd_34 rfl rfl rfl rfl (by decide) (by decide) (by decide) (by decide) all0 (by decide) (own_cha l Z a0 hw n0 m_20 u_21 k_22 (([(own_ch p1), (own_ch p2), (own_ch p3)] : List Int32) ++ (own_T 112)) _ S_55 3 (by rw [List.length_append, own_L112]; exact Nat.le_of_ble_eq_true rfl) cpt S_C hcpt fm hfm S_F) ?_
  rw [show (([(own_ch p1), (own_ch p2), (own_ch p3)] : List Int32) ++ (own_T 112)).getD 3 0 = ((own_T 112).getD 0 0) from own_app_r [(own_ch p1), (own_ch p2), (own_ch p3)] _ 0]
  intro v h1 D1 q hsz
  obtain ⟨rfl, rfl, rfl⟩ := q
  show Runs 2 l Z [("com/example/record_guard/recordguard/conflict/SerializationFailureException", 27), ("com/example/record_guard/recordguard/conflict/SerializationFailureException", 30), ("java/lang/String", 7)] n0 _ _ _ _ _ _ _ [] h_54 35 12161 246 #[.val (.int p0), .val (.int p1), .val (.int p2), .val (.int p3), .val (.int p4), .val (.int (3 : Int32)), .val (.int (own_ch p1)), .val (.int (own_ch p2)), .val (.int (own_ch p3)), .val (.ref b_1), .val (.ref b_8), .val (.ref e_19), .val (.ref e_31), .val (.ref e_44), .val (.ref m_20), .val (.ref m_32), .val (.ref m_45)] [(.int ((own_T 112).getD 0 0))]
  refine Runs.bipush (v := (58 : Int32)) i0_246 (by decide) ?_
  refine Runs.icN i0_248 (teq own_T0).2 ?_
  refine Runs.aload i0_251 rfl rfl ?_
  refine Runs.iload i0_253 rfl ?_
  refine Runs.iconst (v := (1 : Int32)) i0_255 (by decide) ?_
  refine Runs.iadd (z := (4 : Int32)) i0_256 (by decide) ?_
  refine Runs.callVW (argsL := [(.int (4 : Int32))]) (rest := []) (W := 0) i0_257 (w257 hw) (w258 hw) (fun s hZ => notFace_of_selects (args := #[]) (mvT hZ (w260 hw))) (w260 hw) (w259 hw) (w261 hw) (w6 hw) (by decide) S_55.1.1 pd_34 rfl rfl rfl rfl (by decide) (by decide) (by decide) (by decide) all0 (by decide) (own_cha l Z a0 hw n0 m_20 u_21 k_22 (([(own_ch p1), (own_ch p2), (own_ch p3)] : List Int32) ++ (own_T 112)) _ S_55 4 (by rw [List.length_append, own_L112]; exact Nat.le_of_ble_eq_true rfl) cpt S_C hcpt fm hfm S_F) ?_
  rw [show (([(own_ch p1), (own_ch p2), (own_ch p3)] : List Int32) ++ (own_T 112)).getD 4 0 = ((own_T 112).getD 1 0) from own_app_r [(own_ch p1), (own_ch p2), (own_ch p3)] _ 1]
  intro v h1 D1 q hsz
  obtain ⟨rfl, rfl, rfl⟩ := q
  show Runs 2 l Z [("com/example/record_guard/recordguard/conflict/SerializationFailureException", 27), ("com/example/record_guard/recordguard/conflict/SerializationFailureException", 30), ("java/lang/String", 7)] n0 _ _ _ _ _ _ _ [] h_54 35 12161 260 #[.val (.int p0), .val (.int p1), .val (.int p2), .val (.int p3), .val (.int p4), .val (.int (3 : Int32)), .val (.int (own_ch p1)), .val (.int (own_ch p2)), .val (.int (own_ch p3)), .val (.ref b_1), .val (.ref b_8), .val (.ref e_19), .val (.ref e_31), .val (.ref e_44), .val (.ref m_20), .val (.ref m_32), .val (.ref m_45)] [(.int ((own_T 112).getD 1 0))]
  refine Runs.bipush (v := (32 : Int32)) i0_260 (by decide) ?_
  refine Runs.icY (t := 267) i0_262 (by decide) (teq own_T1).1 ?_
  refine Runs.aload i0_267 rfl rfl ?_
  refine Runs.iconst (v := (0 : Int32)) i0_269 (by decide) ?_
  refine Runs.callVW (argsL := [(.int (0 : Int32))]) (rest := []) (W := 0) i0_270 (w257 hw) (w258 hw) (fun s hZ => notFace_of_selects (args := #[]) (mvT hZ (w260 hw))) (w260 hw) (w259 hw) (w261 hw) (w6 hw) (by decide) S_56.1.1 pd_34 rfl rfl rfl rfl (by decide) (by decide) (by decide) (by decide) all0 (by decide) (own_cha l Z a0 hw n0 m_32 u_33 k_34 (([(own_ch p4)] : List Int32) ++ (own_T 112)) _ S_56 0 (by rw [List.length_append, own_L112]; exact Nat.le_of_ble_eq_true rfl) cpt S_C hcpt fm hfm S_F) ?_
  rw [show (([(own_ch p4)] : List Int32) ++ (own_T 112)).getD 0 0 = (own_ch p4) from rfl]
  intro v h1 D1 q hsz
  obtain ⟨rfl, rfl, rfl⟩ := q
  show Runs 2 l Z [("com/example/record_guard/recordguard/conflict/SerializationFailureException", 27), ("com/example/record_guard/recordguard/conflict/SerializationFailureException", 30), ("java/lang/String", 7)] n0 _ _ _ _ _ _ _ [] h_54 35 12161 273 #[.val (.int p0), .val (.int p1), .val (.int p2), .val (.int p3), .val (.int p4), .val (.int (3 : Int32)), .val (.int (own_ch p1)), .val (.int (own_ch p2)), .val (.int (own_ch p3)), .val (.ref b_1), .val (.ref b_8), .val (.ref e_19), .val (.ref e_31), .val (.ref e_44), .val (.ref m_20), .val (.ref m_32), .val (.ref m_45)] [(.int (own_ch p4))]
  refine Runs.iload i0_273 rfl ?_
  refine Runs.sipush (v := (255 : Int32)) i0_275 (by decide) ?_
  refine Runs.iand (z := (own_ch p4)) i0_278 rfl ?_
  refine Runs.i2c (z := (own_ch p4)) i0_279 (own_i2c (own_chr p4)) ?_
  refine Runs.icY (t := 285) i0_280 (by decide) (teq (rfl : (own_ch p4) = (own_ch p4))).1 ?_
  refine Runs.aload i0_285 rfl rfl ?_
  refine Runs.iload i0_287 rfl ?_
  refine Runs.iconst (v := (2 : Int32)) i0_289 (by decide) ?_
  refine Runs.iadd (z := (5 : Int32)) i0_290 (by decide) ?_
  refine Runs.callVW (argsL := [(.int (5 : Int32))]) (rest := []) (W := 0) i0_291 (w257 hw) (w258 hw) (fun s hZ => notFace_of_selects (args := #[]) (mvT hZ (w260 hw))) (w260 hw) (w259 hw) (w261 hw) (w6 hw) (by decide) S_55.1.1 pd_34 rfl rfl rfl rfl (by decide) (by decide) (by decide) (by decide) all0 (by decide) (own_cha l Z a0 hw n0 m_20 u_21 k_22 (([(own_ch p1), (own_ch p2), (own_ch p3)] : List Int32) ++ (own_T 112)) _ S_55 5 (by rw [List.length_append, own_L112]; exact Nat.le_of_ble_eq_true rfl) cpt S_C hcpt fm hfm S_F) ?_
  rw [show (([(own_ch p1), (own_ch p2), (own_ch p3)] : List Int32) ++ (own_T 112)).getD 5 0 = ((own_T 112).getD 2 0) from own_app_r [(own_ch p1), (own_ch p2), (own_ch p3)] _ 2]
  intro v h1 D1 q hsz
  obtain ⟨rfl, rfl, rfl⟩ := q
  show Runs 2 l Z [("com/example/record_guard/recordguard/conflict/SerializationFailureException", 27), ("com/example/record_guard/recordguard/conflict/SerializationFailureException", 30), ("java/lang/String", 7)] n0 _ _ _ _ _ _ _ [] h_54 35 12161 294 #[.val (.int p0), .val (.int p1), .val (.int p2), .val (.int p3), .val (.int p4), .val (.int (3 : Int32)), .val (.int (own_ch p1)), .val (.int (own_ch p2)), .val (.int (own_ch p3)), .val (.ref b_1), .val (.ref b_8), .val (.ref e_19), .val (.ref e_31), .val (.ref e_44), .val (.ref m_20), .val (.ref m_32), .val (.ref m_45)] [(.int ((own_T 112).getD 2 0))]
  refine Runs.aload i0_294 rfl rfl ?_
  refine Runs.iconst (v := (3 : Int32)) i0_296 (by decide) ?_
  refine Runs.callVW (argsL := [(.int (3 : Int32))]) (rest := [(.int ((own_T 112).getD 2 0))]) (W := 1) i0_297 (w257 hw) (w258 hw) (fun s hZ => notFace_of_selects (args := #[]) (mvT hZ (w260 hw))) (w260 hw) (w259 hw) (w261 hw) (w6 hw) (by decide) S_56.1.1 pd_34 rfl rfl rfl rfl (by decide) (by decide) (by decide) (by decide) all0 (by decide) (own_cha l Z a0 hw n0 m_32 u_33 k_34 (([(own_ch p4)] : List Int32) ++ (own_T 112)) _ S_56 3 (by rw [List.length_append, own_L112]; exact Nat.le_of_ble_eq_true rfl) cpt S_C hcpt fm hfm S_F) ?_
  rw [show (([(own_ch p4)] : List Int32) ++ (own_T 112)).getD 3 0 = ((own_T 112).getD 2 0) from own_app_r [(own_ch p4)] _ 2]
  intro v h1 D1 q hsz
  obtain ⟨rfl, rfl, rfl⟩ := q
  show Runs 2 l Z [("com/example/record_guard/recordguard/conflict/SerializationFailureException", 27), ("com/example/record_guard/recordguard/conflict/SerializationFailureException", 30), ("java/lang/String", 7)] n0 _ _ _ _ _ _ _ [] h_54 35 12161 300 #[.val (.int p0), .val (.int p1), .val (.int p2), .val (.int p3), .val (.int p4), .val (.int (3 : Int32)), .val (.int (own_ch p1)), .val (.int (own_ch p2)), .val (.int (own_ch p3)), .val (.ref b_1), .val (.ref b_8), .val (.ref e_19), .val (.ref e_31), .val (.ref e_44), .val (.ref m_20), .val (.ref m_32), .val (.ref m_45)] [(.int ((own_T 112).getD 2 0)), (.int ((own_T 112).getD 2 0))]
  refine Runs.icY (t := 305) i0_300 (by decide) (teq (rfl : ((own_T 112).getD 2 0) = ((own_T 112).getD 2 0))).1 ?_
  refine Runs.aload i0_305 rfl rfl ?_
  refine Runs.iload i0_307 rfl ?_
  refine Runs.iconst (v := (3 : Int32)) i0_309 (by decide) ?_
  refine Runs.iadd (z := (6 : Int32)) i0_310 (by decide) ?_
  refine Runs.callVW (argsL := [(.int (6 : Int32))]) (rest := []) (W := 0) i0_311 (w257 hw) (w258 hw) (fun s hZ => notFace_of_selects (args := #[]) (mvT hZ (w260 hw))) (w260 hw) (w259 hw) (w261 hw) (w6 hw) (by decide) S_55.1.1 pd_34 rfl rfl rfl rfl (by decide) (by decide) (by decide) (by decide) all0 (by decide) (own_cha l Z a0 hw n0 m_20 u_21 k_22 (([(own_ch p1), (own_ch p2), (own_ch p3)] : List Int32) ++ (own_T 112)) _ S_55 6 (by rw [List.length_append, own_L112]; exact Nat.le_of_ble_eq_true rfl) cpt S_C hcpt fm hfm S_F) ?_
  rw [show (([(own_ch p1), (own_ch p2), (own_ch p3)] : List Int32) ++ (own_T 112)).getD 6 0 = ((own_T 112).getD 3 0) from own_app_r [(own_ch p1), (own_ch p2), (own_ch p3)] _ 3]
  intro v h1 D1 q hsz
  obtain ⟨rfl, rfl, rfl⟩ := q
  show Runs 2 l Z [("com/example/record_guard/recordguard/conflict/SerializationFailureException", 27), ("com/example/record_guard/recordguard/conflict/SerializationFailureException", 30), ("java/lang/String", 7)] n0 _ _ _ _ _ _ _ [] h_54 35 12161 314 #[.val (.int p0), .val (.int p1), .val (.int p2), .val (.int p3), .val (.int p4), .val (.int (3 : Int32)), .val (.int (own_ch p1)), .val (.int (own_ch p2)), .val (.int (own_ch p3)), .val (.ref b_1), .val (.ref b_8), .val (.ref e_19), .val (.ref e_31), .val (.ref e_44), .val (.ref m_20), .val (.ref m_32), .val (.ref m_45)] [(.int ((own_T 112).getD 3 0))]
  refine Runs.aload i0_314 rfl rfl ?_
  refine Runs.iconst (v := (4 : Int32)) i0_316 (by decide) ?_
  refine Runs.callVW (argsL := [(.int (4 : Int32))]) (rest := [(.int ((own_T 112).getD 3 0))]) (W := 1) i0_317 (w257 hw) (w258 hw) (fun s hZ => notFace_of_selects (args := #[]) (mvT hZ (w260 hw))) (w260 hw) (w259 hw) (w261 hw) (w6 hw) (by decide) S_56.1.1 pd_34 rfl rfl rfl rfl (by decide) (by decide) (by decide) (by decide) all0 (by decide) (own_cha l Z a0 hw n0 m_32 u_33 k_34 (([(own_ch p4)] : List Int32) ++ (own_T 112)) _ S_56 4 (by rw [List.length_append, own_L112]; exact Nat.le_of_ble_eq_true rfl) cpt S_C hcpt fm hfm S_F) ?_
  rw [show (([(own_ch p4)] : List Int32) ++ (own_T 112)).getD 4 0 = ((own_T 112).getD 3 0) from own_app_r [(own_ch p4)] _ 3]
  intro v h1 D1 q hsz
  obtain ⟨rfl, rfl, rfl⟩ := q
  show Runs 2 l Z [("com/example/record_guard/recordguard/conflict/SerializationFailureException", 27), ("com/example/record_guard/recordguard/conflict/SerializationFailureException", 30), ("java/lang/String", 7)] n0 _ _ _ _ _ _ _ [] h_54 35 12161 320 #[.val (.int p0), .val (.int p1), .val (.int p2), .val (.int p3), .val (.int p4), .val (.int (3 : Int32)), .val (.int (own_ch p1)), .val (.int (own_ch p2)), .val (.int (own_ch p3)), .val (.ref b_1), .val (.ref b_8), .val (.ref e_19), .val (.ref e_31), .val (.ref e_44), .val (.ref m_20), .val (.ref m_32), .val (.ref m_45)] [(.int ((own_T 112).getD 3 0)), (.int ((own_T 112).getD 3 0))]
  refine Runs.icY (t := 325) i0_320 (by decide) (teq (rfl : ((own_T 112).getD 3 0) = ((own_T 112).getD 3 0))).1 ?_
  refine Runs.aload i0_325 rfl rfl ?_
  refine Runs.aload i0_327 rfl rfl ?_
  refine Runs.callVW (argsL := []) (rest := [(.ref m_20)]) (W := 1) i0_329 (w256 hw) (w76 hw) (fun s hZ => notFace_of_selects (args := #[]) (mvT hZ (w78 hw))) (w78 hw) (w77 hw) (w79 hw) (w6 hw) (by decide) S_55.1.1 pd_9 rfl rfl rfl rfl (by decide) (by decide) (by decide) (by decide) all0 (by decide) (own_len l Z a0 hw n0 m_20 u_21 k_22 (([(own_ch p1), (own_ch p2), (own_ch p3)] : List Int32) ++ (own_T 112)) _ S_55 cpt S_C hcpt) ?_
  rw [show (([(own_ch p1), (own_ch p2), (own_ch p3)] : List Int32) ++ (own_T 112)).length = 219 from (by rw [List.length_append, own_L112]; rfl)]
  intro v h1 D1 q hsz
  obtain ⟨rfl, rfl, rfl⟩ := q
  show Runs 2 l Z [("com/example/record_guard/recordguard/conflict/SerializationFailureException", 27), ("com/example/record_guard/recordguard/conflict/SerializationFailureException", 30), ("java/lang/String", 7)] n0 _ _ _ _ _ _ _ [] h_54 35 12161 332 #[.val (.int p0), .val (.int p1), .val (.int p2), .val (.int p3), .val (.int p4), .val (.int (3 : Int32)), .val (.int (own_ch p1)), .val (.int (own_ch p2)), .val (.int (own_ch p3)), .val (.ref b_1), .val (.ref b_8), .val (.ref e_19), .val (.ref e_31), .val (.ref e_44), .val (.ref m_20), .val (.ref m_32), .val (.ref m_45)] [(.int (219 : Int32)), (.ref m_20)]
  refine Runs.iconst (v := (1 : Int32)) i0_332 (by decide) ?_
  refine Runs.isub (z := (218 : Int32)) i0_333 (by decide) ?_
  refine Runs.callVW (argsL := [(.int (218 : Int32))]) (rest := []) (W := 0) i0_334 (w257 hw) (w258 hw) (fun s hZ => notFace_of_selects (args := #[]) (mvT hZ (w260 hw))) (w260 hw) (w259 hw) (w261 hw) (w6 hw) (by decide) S_55.1.1 pd_34 rfl rfl rfl rfl (by decide) (by decide) (by decide) (by decide) all0 (by decide) (own_cha l Z a0 hw n0 m_20 u_21 k_22 (([(own_ch p1), (own_ch p2), (own_ch p3)] : List Int32) ++ (own_T 112)) _ S_55 218 (by rw [List.length_append, own_L112]; exact Nat.le_of_ble_eq_true rfl) cpt S_C hcpt fm hfm S_F) ?_
  rw [show (([(own_ch p1), (own_ch p2), (own_ch p3)] : List Int32) ++ (own_T 112)).getD 218 0 = ((own_T 112).getD 215 0) from own_app_r [(own_ch p1), (own_ch p2), (own_ch p3)] _ 215]
  intro v h1 D1 q hsz
  obtain ⟨rfl, rfl, rfl⟩ := q
  show Runs 2 l Z [("com/example/record_guard/recordguard/conflict/SerializationFailureException", 27), ("com/example/record_guard/recordguard/conflict/SerializationFailureException", 30), ("java/lang/String", 7)] n0 _ _ _ _ _ _ _ [] h_54 35 12161 337 #[.val (.int p0), .val (.int p1), .val (.int p2), .val (.int p3), .val (.int p4), .val (.int (3 : Int32)), .val (.int (own_ch p1)), .val (.int (own_ch p2)), .val (.int (own_ch p3)), .val (.ref b_1), .val (.ref b_8), .val (.ref e_19), .val (.ref e_31), .val (.ref e_44), .val (.ref m_20), .val (.ref m_32), .val (.ref m_45)] [(.int ((own_T 112).getD 215 0))]
  refine Runs.aload i0_337 rfl rfl ?_
  refine Runs.aload i0_339 rfl rfl ?_
  refine Runs.callVW (argsL := []) (rest := [(.ref m_32), (.int ((own_T 112).getD 215 0))]) (W := 2) i0_341 (w256 hw) (w76 hw) (fun s hZ => notFace_of_selects (args := #[]) (mvT hZ (w78 hw))) (w78 hw) (w77 hw) (w79 hw) (w6 hw) (by decide) S_56.1.1 pd_9 rfl rfl rfl rfl (by decide) (by decide) (by decide) (by decide) all0 (by decide) (own_len l Z a0 hw n0 m_32 u_33 k_34 (([(own_ch p4)] : List Int32) ++ (own_T 112)) _ S_56 cpt S_C hcpt) ?_
  rw [show (([(own_ch p4)] : List Int32) ++ (own_T 112)).length = 217 from (by rw [List.length_append, own_L112]; rfl)]
  intro v h1 D1 q hsz
  obtain ⟨rfl, rfl, rfl⟩ := q
  show Runs 2 l Z [("com/example/record_guard/recordguard/conflict/SerializationFailureException", 27), ("com/example/record_guard/recordguard/conflict/SerializationFailureException", 30), ("java/lang/String", 7)] n0 _ _ _ _ _ _ _ [] h_54 35 12161 344 #[.val (.int p0), .val (.int p1), .val (.int p2), .val (.int p3), .val (.int p4), .val (.int (3 : Int32)), .val (.int (own_ch p1)), .val (.int (own_ch p2)), .val (.int (own_ch p3)), .val (.ref b_1), .val (.ref b_8), .val (.ref e_19), .val (.ref e_31), .val (.ref e_44), .val (.ref m_20), .val (.ref m_32), .val (.ref m_45)] [(.int (217 : Int32)), (.ref m_32), (.int ((own_T 112).getD 215 0))]
  refine Runs.iconst (v := (1 : Int32)) i0_344 (by decide) ?_
  refine Runs.isub (z := (216 : Int32)) i0_345 (by decide) ?_
  refine Runs.callVW (argsL := [(.int (216 : Int32))]) (rest := [(.int ((own_T 112).getD 215 0))]) (W := 1) i0_346 (w257 hw) (w258 hw) (fun s hZ => notFace_of_selects (args := #[]) (mvT hZ (w260 hw))) (w260 hw) (w259 hw) (w261 hw) (w6 hw) (by decide) S_56.1.1 pd_34 rfl rfl rfl rfl (by decide) (by decide) (by decide) (by decide) all0 (by decide) (own_cha l Z a0 hw n0 m_32 u_33 k_34 (([(own_ch p4)] : List Int32) ++ (own_T 112)) _ S_56 216 (by rw [List.length_append, own_L112]; exact Nat.le_of_ble_eq_true rfl) cpt S_C hcpt fm hfm S_F) ?_
  rw [show (([(own_ch p4)] : List Int32) ++ (own_T 112)).getD 216 0 = ((own_T 112).getD 215 0) from own_app_r [(own_ch p4)] _ 215]
  intro v h1 D1 q hsz
  obtain ⟨rfl, rfl, rfl⟩ := q
  show Runs 2 l Z [("com/example/record_guard/recordguard/conflict/SerializationFailureException", 27), ("com/example/record_guard/recordguard/conflict/SerializationFailureException", 30), ("java/lang/String", 7)] n0 _ _ _ _ _ _ _ [] h_54 35 12161 349 #[.val (.int p0), .val (.int p1), .val (.int p2), .val (.int p3), .val (.int p4), .val (.int (3 : Int32)), .val (.int (own_ch p1)), .val (.int (own_ch p2)), .val (.int (own_ch p3)), .val (.ref b_1), .val (.ref b_8), .val (.ref e_19), .val (.ref e_31), .val (.ref e_44), .val (.ref m_20), .val (.ref m_32), .val (.ref m_45)] [(.int ((own_T 112).getD 215 0)), (.int ((own_T 112).getD 215 0))]
  refine Runs.icY (t := 354) i0_349 (by decide) (teq (rfl : ((own_T 112).getD 215 0) = ((own_T 112).getD 215 0))).1 ?_
  refine Runs.aload i0_354 rfl rfl ?_
  refine Runs.aload i0_356 rfl rfl ?_
  refine Runs.callVW (argsL := [(.ref m_45)]) (rest := []) (W := 0) i0_358 (w278 hw) (w279 hw) (fun s hZ => notFace_of_selects (args := #[]) (mvT hZ (w281 hw))) (w281 hw) (w280 hw) (w282 hw) (w6 hw) (by decide) S_55.1.1 pd_35 rfl rfl rfl rfl (by decide) (by decide) (by decide) (by decide) all0 (by decide) (own_eqS l Z a0 hw n0 m_20 m_45 u_21 u_46 k_22 k_47 (([(own_ch p1), (own_ch p2), (own_ch p3)] : List Int32) ++ (own_T 112)) (([(own_ch p1), (own_ch p2), (own_ch p3)] : List Int32) ++ (own_T 243)) cpt _ (Nat.ne_of_lt (Nat.lt_of_lt_of_le S_42.1.lt g_49)) S_55 S_53 S_C hcpt) ?_
  rw [if_neg (own_neT [(own_ch p1), (own_ch p2), (own_ch p3)])]
  intro v h1 D1 q hsz
  obtain ⟨rfl, rfl, rfl⟩ := q
  show Runs 2 l Z [("com/example/record_guard/recordguard/conflict/SerializationFailureException", 27), ("com/example/record_guard/recordguard/conflict/SerializationFailureException", 30), ("java/lang/String", 7)] n0 _ _ _ _ _ _ _ [] h_54 35 12161 361 #[.val (.int p0), .val (.int p1), .val (.int p2), .val (.int p3), .val (.int p4), .val (.int (3 : Int32)), .val (.int (own_ch p1)), .val (.int (own_ch p2)), .val (.int (own_ch p3)), .val (.ref b_1), .val (.ref b_8), .val (.ref e_19), .val (.ref e_31), .val (.ref e_44), .val (.ref m_20), .val (.ref m_32), .val (.ref m_45)] [(.int (0 : Int32))]
  refine Runs.ifN i0_361 (teq (by decide : (0 : Int32) = (0 : Int32))).2 ?_
  refine Runs.iconst (v := (1 : Int32)) i0_364 (by decide) ?_
  refine Runs.goto (t := 369) i0_365 (by decide) ?_
  exact Runs.retI (z := (1 : Int32)) i0_369 rfl (Or.inr (Or.inl rfl)) (by decide) (by decide) (by decide) rfl
set_option maxRecDepth 65536 in
set_option maxHeartbeats 4000000 in
theorem own_law (l : Launch) (Z : State) (a0 : Array Value) (hw : Wds Z a0) (n0 : Nat) (p0 p1 p2 p3 p4 : Int32) (cpt : Int32) (S_C : Sta Z Z.heap "java/lang/String" "COMPACT_STRINGS" "Z" (.int cpt)) (hcpt : ¬ cpt = 0) (fm : Value) (hfm : fm.isRef = true) (S_F : Sta Z Z.heap "jdk/internal/util/Preconditions" "SIOOBE_FORMATTER" "Ljava/util/function/BiFunction;" fm) (hl : l.stackTraces = true) (uS uP : Value) (huS : uS.isRef = true) (huP : uP.isRef = true) (S_U : Sta Z Z.heap "java/lang/Throwable" "UNASSIGNED_STACK" "[Ljava/lang/StackTraceElement;" uS) (S_P : Sta Z Z.heap "java/lang/Throwable" "SUPPRESSED_SENTINEL" "Ljava/util/List;" uP) : Con 2 l Z [("com/example/record_guard/recordguard/conflict/SerializationFailureException", 27), ("com/example/record_guard/recordguard/conflict/SerializationFailureException", 30), ("java/lang/String", 7)] n0 x code maxLocals ret room_1 #[(.int p0), (.int p1), (.int p2), (.int p3), (.int p4)] [] Z.heap (fun v h D' => v = some (.int 1)) := by
  refine Con.of_runs (ls := #[.val (.int p0), .val (.int p1), .val (.int p2), .val (.int p3), .val (.int p4), .unset, .unset, .unset, .unset, .unset, .unset, .unset, .unset, .unset, .unset, .unset, .unset]) (by decide +kernel) (ef rfl rfl) ?_
  rcases own_and3 p0 with q3 | q3 | q3 | q3
  · refine Runs.iloadN i0_0 rfl ?_
    refine Runs.iconst (v := (3 : Int32)) i0_1 (by decide) ?_
    refine Runs.iand (z := (0 : Int32)) i0_2 q3 ?_
    refine Runs.istore (ls' := #[.val (.int p0), .val (.int p1), .val (.int p2), .val (.int p3), .val (.int p4), .val (.int (0 : Int32)), .unset, .unset, .unset, .unset, .unset, .unset, .unset, .unset, .unset, .unset, .unset]) i0_3 rfl ?_
    refine Runs.iloadN i0_5 rfl ?_
    refine Runs.sipush (v := (255 : Int32)) i0_6 (by decide) ?_
    refine Runs.iand (z := (own_ch p1)) i0_9 rfl ?_
    refine Runs.i2c (z := (own_ch p1)) i0_10 (own_i2c (own_chr p1)) ?_
    refine Runs.istore (ls' := #[.val (.int p0), .val (.int p1), .val (.int p2), .val (.int p3), .val (.int p4), .val (.int (0 : Int32)), .val (.int (own_ch p1)), .unset, .unset, .unset, .unset, .unset, .unset, .unset, .unset, .unset, .unset]) i0_11 rfl ?_
    refine Runs.iloadN i0_13 rfl ?_
    refine Runs.sipush (v := (255 : Int32)) i0_14 (by decide) ?_
    refine Runs.iand (z := (own_ch p2)) i0_17 rfl ?_
    refine Runs.i2c (z := (own_ch p2)) i0_18 (own_i2c (own_chr p2)) ?_
    refine Runs.istore (ls' := #[.val (.int p0), .val (.int p1), .val (.int p2), .val (.int p3), .val (.int p4), .val (.int (0 : Int32)), .val (.int (own_ch p1)), .val (.int (own_ch p2)), .unset, .unset, .unset, .unset, .unset, .unset, .unset, .unset, .unset]) i0_19 rfl ?_
    refine Runs.iloadN i0_21 rfl ?_
    refine Runs.sipush (v := (255 : Int32)) i0_22 (by decide) ?_
    refine Runs.iand (z := (own_ch p3)) i0_25 rfl ?_
    refine Runs.i2c (z := (own_ch p3)) i0_26 (own_i2c (own_chr p3)) ?_
    refine Runs.istore (ls' := #[.val (.int p0), .val (.int p1), .val (.int p2), .val (.int p3), .val (.int p4), .val (.int (0 : Int32)), .val (.int (own_ch p1)), .val (.int (own_ch p2)), .val (.int (own_ch p3)), .unset, .unset, .unset, .unset, .unset, .unset, .unset, .unset]) i0_27 rfl ?_
    exact own_law0 l Z a0 hw n0 p0 p1 p2 p3 p4 cpt S_C hcpt fm hfm S_F hl uS uP huS huP S_U S_P
  · refine Runs.iloadN i0_0 rfl ?_
    refine Runs.iconst (v := (3 : Int32)) i0_1 (by decide) ?_
    refine Runs.iand (z := (1 : Int32)) i0_2 q3 ?_
    refine Runs.istore (ls' := #[.val (.int p0), .val (.int p1), .val (.int p2), .val (.int p3), .val (.int p4), .val (.int (1 : Int32)), .unset, .unset, .unset, .unset, .unset, .unset, .unset, .unset, .unset, .unset, .unset]) i0_3 rfl ?_
    refine Runs.iloadN i0_5 rfl ?_
    refine Runs.sipush (v := (255 : Int32)) i0_6 (by decide) ?_
    refine Runs.iand (z := (own_ch p1)) i0_9 rfl ?_
    refine Runs.i2c (z := (own_ch p1)) i0_10 (own_i2c (own_chr p1)) ?_
    refine Runs.istore (ls' := #[.val (.int p0), .val (.int p1), .val (.int p2), .val (.int p3), .val (.int p4), .val (.int (1 : Int32)), .val (.int (own_ch p1)), .unset, .unset, .unset, .unset, .unset, .unset, .unset, .unset, .unset, .unset]) i0_11 rfl ?_
    refine Runs.iloadN i0_13 rfl ?_
    refine Runs.sipush (v := (255 : Int32)) i0_14 (by decide) ?_
    refine Runs.iand (z := (own_ch p2)) i0_17 rfl ?_
    refine Runs.i2c (z := (own_ch p2)) i0_18 (own_i2c (own_chr p2)) ?_
    refine Runs.istore (ls' := #[.val (.int p0), .val (.int p1), .val (.int p2), .val (.int p3), .val (.int p4), .val (.int (1 : Int32)), .val (.int (own_ch p1)), .val (.int (own_ch p2)), .unset, .unset, .unset, .unset, .unset, .unset, .unset, .unset, .unset]) i0_19 rfl ?_
    refine Runs.iloadN i0_21 rfl ?_
    refine Runs.sipush (v := (255 : Int32)) i0_22 (by decide) ?_
    refine Runs.iand (z := (own_ch p3)) i0_25 rfl ?_
    refine Runs.i2c (z := (own_ch p3)) i0_26 (own_i2c (own_chr p3)) ?_
    refine Runs.istore (ls' := #[.val (.int p0), .val (.int p1), .val (.int p2), .val (.int p3), .val (.int p4), .val (.int (1 : Int32)), .val (.int (own_ch p1)), .val (.int (own_ch p2)), .val (.int (own_ch p3)), .unset, .unset, .unset, .unset, .unset, .unset, .unset, .unset]) i0_27 rfl ?_
    exact own_law1 l Z a0 hw n0 p0 p1 p2 p3 p4 cpt S_C hcpt fm hfm S_F hl uS uP huS huP S_U S_P
  · refine Runs.iloadN i0_0 rfl ?_
    refine Runs.iconst (v := (3 : Int32)) i0_1 (by decide) ?_
    refine Runs.iand (z := (2 : Int32)) i0_2 q3 ?_
    refine Runs.istore (ls' := #[.val (.int p0), .val (.int p1), .val (.int p2), .val (.int p3), .val (.int p4), .val (.int (2 : Int32)), .unset, .unset, .unset, .unset, .unset, .unset, .unset, .unset, .unset, .unset, .unset]) i0_3 rfl ?_
    refine Runs.iloadN i0_5 rfl ?_
    refine Runs.sipush (v := (255 : Int32)) i0_6 (by decide) ?_
    refine Runs.iand (z := (own_ch p1)) i0_9 rfl ?_
    refine Runs.i2c (z := (own_ch p1)) i0_10 (own_i2c (own_chr p1)) ?_
    refine Runs.istore (ls' := #[.val (.int p0), .val (.int p1), .val (.int p2), .val (.int p3), .val (.int p4), .val (.int (2 : Int32)), .val (.int (own_ch p1)), .unset, .unset, .unset, .unset, .unset, .unset, .unset, .unset, .unset, .unset]) i0_11 rfl ?_
    refine Runs.iloadN i0_13 rfl ?_
    refine Runs.sipush (v := (255 : Int32)) i0_14 (by decide) ?_
    refine Runs.iand (z := (own_ch p2)) i0_17 rfl ?_
    refine Runs.i2c (z := (own_ch p2)) i0_18 (own_i2c (own_chr p2)) ?_
    refine Runs.istore (ls' := #[.val (.int p0), .val (.int p1), .val (.int p2), .val (.int p3), .val (.int p4), .val (.int (2 : Int32)), .val (.int (own_ch p1)), .val (.int (own_ch p2)), .unset, .unset, .unset, .unset, .unset, .unset, .unset, .unset, .unset]) i0_19 rfl ?_
    refine Runs.iloadN i0_21 rfl ?_
    refine Runs.sipush (v := (255 : Int32)) i0_22 (by decide) ?_
    refine Runs.iand (z := (own_ch p3)) i0_25 rfl ?_
    refine Runs.i2c (z := (own_ch p3)) i0_26 (own_i2c (own_chr p3)) ?_
    refine Runs.istore (ls' := #[.val (.int p0), .val (.int p1), .val (.int p2), .val (.int p3), .val (.int p4), .val (.int (2 : Int32)), .val (.int (own_ch p1)), .val (.int (own_ch p2)), .val (.int (own_ch p3)), .unset, .unset, .unset, .unset, .unset, .unset, .unset, .unset]) i0_27 rfl ?_
    exact own_law2 l Z a0 hw n0 p0 p1 p2 p3 p4 cpt S_C hcpt fm hfm S_F hl uS uP huS huP S_U S_P
  · refine Runs.iloadN i0_0 rfl ?_
    refine Runs.iconst (v := (3 : Int32)) i0_1 (by decide) ?_
    refine Runs.iand (z := (3 : Int32)) i0_2 q3 ?_
    refine Runs.istore (ls' := #[.val (.int p0), .val (.int p1), .val (.int p2), .val (.int p3), .val (.int p4), .val (.int (3 : Int32)), .unset, .unset, .unset, .unset, .unset, .unset, .unset, .unset, .unset, .unset, .unset]) i0_3 rfl ?_
    refine Runs.iloadN i0_5 rfl ?_
    refine Runs.sipush (v := (255 : Int32)) i0_6 (by decide) ?_
    refine Runs.iand (z := (own_ch p1)) i0_9 rfl ?_
    refine Runs.i2c (z := (own_ch p1)) i0_10 (own_i2c (own_chr p1)) ?_
    refine Runs.istore (ls' := #[.val (.int p0), .val (.int p1), .val (.int p2), .val (.int p3), .val (.int p4), .val (.int (3 : Int32)), .val (.int (own_ch p1)), .unset, .unset, .unset, .unset, .unset, .unset, .unset, .unset, .unset, .unset]) i0_11 rfl ?_
    refine Runs.iloadN i0_13 rfl ?_
    refine Runs.sipush (v := (255 : Int32)) i0_14 (by decide) ?_
    refine Runs.iand (z := (own_ch p2)) i0_17 rfl ?_
    refine Runs.i2c (z := (own_ch p2)) i0_18 (own_i2c (own_chr p2)) ?_
    refine Runs.istore (ls' := #[.val (.int p0), .val (.int p1), .val (.int p2), .val (.int p3), .val (.int p4), .val (.int (3 : Int32)), .val (.int (own_ch p1)), .val (.int (own_ch p2)), .unset, .unset, .unset, .unset, .unset, .unset, .unset, .unset, .unset]) i0_19 rfl ?_
    refine Runs.iloadN i0_21 rfl ?_
    refine Runs.sipush (v := (255 : Int32)) i0_22 (by decide) ?_
    refine Runs.iand (z := (own_ch p3)) i0_25 rfl ?_
    refine Runs.i2c (z := (own_ch p3)) i0_26 (own_i2c (own_chr p3)) ?_
    refine Runs.istore (ls' := #[.val (.int p0), .val (.int p1), .val (.int p2), .val (.int p3), .val (.int p4), .val (.int (3 : Int32)), .val (.int (own_ch p1)), .val (.int (own_ch p2)), .val (.int (own_ch p3)), .unset, .unset, .unset, .unset, .unset, .unset, .unset, .unset]) i0_27 rfl ?_
    exact own_law3 l Z a0 hw n0 p0 p1 p2 p3 p4 cpt S_C hcpt fm hfm S_F hl uS uP huS huP S_U S_P
set_option maxRecDepth 65536 in
set_option maxHeartbeats 40000000 in
theorem comes_1 {Post : Tables → Env → Array Value → State → Outcome → State → Prop} (hpost : ∀ tb e args s v u, (limb_1_1.after args s (.returned v) u = true ∧ limb_1_2.after args s (.returned v) u = true ∧ True) → Jvm.Pilot.@@N@@.Jvm.D.FramedW s (.returned v) u (Jvm.fieldLocs frame_1_writes args s ++ Jvm.arrayLocs frame_1_arrays args s ++ Jvm.staticLocs frame_1_statics s) 72 22464 → Post tb e args s (.returned v) u) :
    ArmFor flags0 classFile x code maxLocals ret World_1 tables_1 room_1 Calls_1 rest_1 Pre_1 Post := by
  intro l hfl _ _ p e ha hc hk s m args below hf hA hF happ hP
  obtain ⟨hcalls, hrest, hpre⟩ := hP
  obtain ⟨-, -, -, hnamed, -, -, -, hat⟩ := (Spec.applies_iff hf).mp happ
  obtain ⟨hg, hn⟩ := and_e (Cond.before_iff.mp (show (Jvm.Cond.and given_1 narrow_1).before args s = true from hpre))
  obtain ⟨g1, g2⟩ := and_e hg
  obtain ⟨g3, g4⟩ := and_e g2
  obtain ⟨g5, g6⟩ := and_e g4
  obtain ⟨g7, g8⟩ := and_e g6
  obtain ⟨g9, g10⟩ := and_e g8
  obtain ⟨w0, w1, w2, w3, w4, rfl⟩ : ∃ w0 w1 w2 w3 w4 : Value, args = #[w0, w1, w2, w3, w4] := by
    have hs : args.size = 5 := by simpa [Cond.value, given_1] using g1
    obtain ⟨L⟩ := args
    match L, hs with
    | [w0, w1, w2, w3, w4], _ => exact ⟨w0, w1, w2, w3, w4, rfl⟩
  have hw : Wds s _ := fun d (hd : d ∈ tables_1) => atoms_spec (ws := Jvm.Cond.code x code maxLocals ret :: tables_1) hat d (List.mem_cons_of_mem _ hd)
  obtain ⟨i0, ei0⟩ := is_v g3
  obtain rfl : w0 = (.int i0) := Option.some.inj ei0
  obtain ⟨i1, ei1⟩ := is_v g5
  obtain rfl : w1 = (.int i1) := Option.some.inj ei1
  obtain ⟨i2, ei2⟩ := is_v g7
  obtain rfl : w2 = (.int i2) := Option.some.inj ei2
  obtain ⟨i3, ei3⟩ := is_v g9
  obtain rfl : w3 = (.int i3) := Option.some.inj ei3
  obtain ⟨i4, ei4⟩ := is_v g10
  obtain rfl : w4 = (.int i4) := Option.some.inj ei4
  obtain ⟨hsets, -⟩ := atoms_of _ (rest_1_c_eq ▸ (show rest_1_c.before _ s = true from hrest))
  obtain ⟨cpt, ev_cpt⟩ := is_v (Cond.before_iff.mp (hsets _ (List.mem_of_getElem? (i := 1) rfl)))
  have S_C : Sta s s.heap "java/lang/String" "COMPACT_STRINGS" "Z" (.int cpt) := Sta.start ev_cpt (Or.inl (hsets _ (List.mem_of_getElem? (i := 0) rfl)))
  have hcpt : ¬ cpt = 0 := gotF (own_eqI ev_cpt (Term.int_eval 0)) (not_v (Cond.before_iff.mp (hsets _ (List.mem_of_getElem? (i := 2) rfl))))
  obtain ⟨fm, ev_fm, hfm⟩ := isR_v (Cond.before_iff.mp (hsets _ (List.mem_of_getElem? (i := 8) rfl)))
  have S_F : Sta s s.heap "jdk/internal/util/Preconditions" "SIOOBE_FORMATTER" "Ljava/util/function/BiFunction;" fm := Sta.start ev_fm (Or.inl (hsets _ (List.mem_of_getElem? (i := 7) rfl)))
  obtain ⟨uS, ev_uS, huS⟩ := isR_v (Cond.before_iff.mp (hsets _ (List.mem_of_getElem? (i := 16) rfl)))
  have S_U : Sta s s.heap "java/lang/Throwable" "UNASSIGNED_STACK" "[Ljava/lang/StackTraceElement;" uS := Sta.start ev_uS (Or.inl (hsets _ (List.mem_of_getElem? (i := 15) rfl)))
  obtain ⟨uP, ev_uP, huP⟩ := isR_v (Cond.before_iff.mp (hsets _ (List.mem_of_getElem? (i := 21) rfl)))
  have S_P : Sta s s.heap "java/lang/Throwable" "SUPPRESSED_SENTINEL" "Ljava/util/List;" uP := Sta.start ev_uP (Or.inl (hsets _ (List.mem_of_getElem? (i := 20) rfl)))
  have hl : l.stackTraces = true := by unfold Launch.stackTraces; rw [hfl]; decide
  have hC : CHv s [("com/example/record_guard/recordguard/conflict/SerializationFailureException", 27), ("com/example/record_guard/recordguard/conflict/SerializationFailureException", 30), ("java/lang/String", 7)] s.vm s.heap := CHv.start (own_EW hw) (fun p hp => hcalls.2.2.1 p hp) (hsets _ (List.mem_of_getElem? (i := 2) rfl)) (w19 hw) (w5 hw)
  obtain ⟨n, o, h1, h2, h3, v, L, D', rfl, rfl, -, N, -, hq⟩ := own_law l s _ hw s.heap.size i0 i1 i2 i3 i4 cpt S_C hcpt fm hfm S_F hl uS uP huS huP S_U S_P tables_1 p e ha hc hk s m _ below hf ((Spec.applies_iff_loose hf).mp happ).1 ⟨rfl, State.Warmed39.refl s, rfl, Old.start s, ⟨_, own_EW hw⟩, hC, fun _ q => nomatch q⟩ (fun _ => ⟨MethodsKnown_of_tablesKnown hcalls.2.1, FramesKnown_of_framesKnown hcalls.1 hf⟩)
  have hq : ReturnedEndW s _ _ L _ _ := hq
  refine ⟨n, _, h1, h2, h3, hpost _ _ _ _ _ _ ⟨Cond.after_iff.mpr rfl, Cond.after_iff.mpr (eq_i res_at (Term.int_eval (1)) rfl), trivial⟩ ⟨hq.1, hq.2.1, hq.2.2.1, (hq.2.2.2.sift fun y hy => Or.inr (N y hy)).mono (by decide) (by decide)⟩⟩
theorem main_1_1 : Claimed_1_1 := comes_1 fun _ _ _ _ _ _ h hF => ⟨h.1, hF⟩
theorem main_1_2 : Claimed_1_2 := comes_1 fun _ _ _ _ _ _ h hF => ⟨h.2.1, hF⟩
end Jvm.Pilot.@@N@@
namespace Jvm.Pilot.@@N@@
open Jvm Jvm.ClassFile Sem Op Lib Jvm.Free Jvm.Stand Jvm.Pilot.@@N@@.Jvm.D
/-! MADE BY PROGRAM (witnessworld.py) out of the Statement's table words and the real class files: 43 classes; the members and pool entries that the words name. The judged class is class 1, her method 2. -/
namespace start1
open Jvm.ClassFile
def u (s : String) : CpInfo := .utf8 (stringToUtf16 s)
/-- a pool by its gaps: so many unusable entries, then the entry; so many at the end -/
def gap : Nat → List CpInfo → List CpInfo
  | 0, r => r
  | n + 1, r => .unusable :: gap n r
def poolList (es : List (Nat × CpInfo)) (last : Nat) : List CpInfo := es.foldr (fun e r => gap e.1 (e.2 :: r)) (gap last [])
def pool (es : List (Nat × CpInfo)) (last : Nat) : Array CpInfo := ⟨poolList es last⟩
def fileOf (pool : Array CpInfo) (this : Nat) (attrs : Array Attribute := #[]) (ms : Array MethodInfo := #[]) (fl : Nat := 33) (sup : Nat := 0) (ifs : Array Nat := #[]) (fds : Array FieldInfo := #[]) : ClassFile where
  minorVersion := 0
  majorVersion := 65
  constantPool := pool
  accessFlags := fl
  thisClass := this
  superClass := sup
  interfaces := ifs
  fields := fds
  methods := ms
  attributes := attrs
def plain (name : String) (sup : Option ClassId) : Class where
  name := name
  kind := .ordinary
  loader := none
  accessFlags := 33
  super := sup
  interfaces := #[]
  cf := none
  fields := #[]
  methods := #[]
  instanceTypes := #[]
  staticTypes := #[]
  resolved := #[]
  callSites := []
  init := .initialized
  statics := none
  mirror := none

def pool0 : Array CpInfo := pool [(5, u "<init>"), (0, u "()V"), (1, .class_ 10), (1, u "java/lang/Object"), (85, u "clone"), (0, u "()Ljava/lang/Object;")] 26

def k0c0 : Code := { maxStack := 0, maxLocals := 1, code := object_method_1_code, exceptionTable := #[], attributes := #[] }
def k0m0 : Method := { name := "<init>", desc := "()V", sig := { parameters := [], returnType := none }, accessFlags := 1, code := some k0c0 }
def k0m1 : Method := { name := "clone", desc := "()Ljava/lang/Object;", sig := { parameters := [], returnType := some (.object "java/lang/Object") }, accessFlags := 260, code := none }
/-- java/lang/Object -/
def k0 : Class := { plain "java/lang/Object" none with
  accessFlags := 33
  interfaces := #[]
  cf := some (fileOf pool0 8 #[] #[{ accessFlags := 1, nameIndex := 5, descriptorIndex := 6, attributes := #[] }, { accessFlags := 260, nameIndex := 96, descriptorIndex := 97, attributes := #[] }] 33 0 #[] #[])
  fields := #[]
  methods := #[k0m0, k0m1]
  instanceTypes := #[]
  staticTypes := #[]
  resolved := Array.replicate 124 none
  statics := none }

def pool1 : Array CpInfo := pool [(2, .class_ 4), (1, u "java/lang/Object"), (0, u "<init>"), (0, u "()V"), (0, .class_ 8), (0, u "java/lang/String"), (0, .methodref 7 10), (0, .nameAndType 5 11), (0, u "([C)V"), (0, .methodref 13 14), (0, .class_ 15), (0, .nameAndType 16 17), (0, u "com/example/record_guard/recordguard/conflict/SerializationFailureExceptionNotInCallersSnapshotPinLaw"), (0, u "mk"), (0, u "(ICCC)Ljava/lang/String;"), (0, .methodref 7 19), (0, .nameAndType 20 21), (0, u "valueOf"), (0, u "(C)Ljava/lang/String;"), (0, .methodref 23 24), (0, .class_ 25), (0, .nameAndType 26 27), (0, u "com/example/record_guard/recordguard/conflict/SerializationFailureException"), (0, u "notInCallersSnapshot"), (0, u "(Ljava/lang/String;)Lcom/example/record_guard/recordguard/conflict/SerializationFailureException;"), (0, .methodref 23 29), (0, .nameAndType 30 27), (0, u "notInSnapshot"), (0, .methodref 23 32), (0, .nameAndType 33 34), (0, u "getCause"), (0, u "()Ljava/lang/Throwable;"), (0, .methodref 23 36), (0, .nameAndType 37 38), (0, u "getMessage"), (0, u "()Ljava/lang/String;"), (0, .methodref 7 40), (0, .nameAndType 41 42), (0, u "length"), (0, u "()I"), (0, .methodref 7 44), (0, .nameAndType 45 46), (0, u "charAt"), (0, u "(I)C"), (0, .methodref 7 48), (0, .nameAndType 49 50), (0, u "equals"), (0, u "(Ljava/lang/Object;)Z"), (3, u "law"), (0, u "(IIIII)Z")] 2

def k1m0 : Method := { name := "<init>", desc := "()V", sig := { parameters := [], returnType := none }, accessFlags := 1, code := none }
def k1c1 : Code := { maxStack := 6, maxLocals := 4, code := method_2_code, exceptionTable := #[], attributes := #[] }
def k1m1 : Method := { name := "mk", desc := "(ICCC)Ljava/lang/String;", sig := { parameters := [.int, .char, .char, .char], returnType := some (.object "java/lang/String") }, accessFlags := 10, code := some k1c1 }
def k1c2 : Code := { maxStack := 4, maxLocals := 17, code := code, exceptionTable := #[], attributes := #[] }
def k1m2 : Method := { name := "law", desc := "(IIIII)Z", sig := { parameters := [.int, .int, .int, .int, .int], returnType := some .boolean }, accessFlags := 9, code := some k1c2 }
/-- com/example/record_guard/recordguard/conflict/SerializationFailureExceptionNotInCallersSnapshotPinLaw -/
def k1 : Class := { plain "com/example/record_guard/recordguard/conflict/SerializationFailureExceptionNotInCallersSnapshotPinLaw" (some 0) with
  accessFlags := 49
  interfaces := #[]
  cf := some (fileOf pool1 13 #[] #[{ accessFlags := 1, nameIndex := 5, descriptorIndex := 6, attributes := #[] }, { accessFlags := 10, nameIndex := 16, descriptorIndex := 17, attributes := #[] }, { accessFlags := 9, nameIndex := 54, descriptorIndex := 55, attributes := #[] }] 49 2 #[] #[])
  fields := #[]
  methods := #[k1m0, k1m1, k1m2]
  instanceTypes := #[]
  staticTypes := #[]
  resolved := Array.replicate 58 none
  statics := none }

def pool2 : Array CpInfo := pool [(1, .class_ 2), (0, u "java/io/Serializable"), (0, .class_ 4), (0, u "java/lang/Object")] 2

/-- java/io/Serializable -/
def k2 : Class := { plain "java/io/Serializable" (some 0) with
  accessFlags := 1537
  interfaces := #[]
  cf := some (fileOf pool2 1 #[] #[] 1537 3 #[] #[])
  fields := #[]
  methods := #[]
  instanceTypes := #[]
  staticTypes := #[]
  resolved := Array.replicate 7 none
  statics := none }

def pool3 : Array CpInfo := pool [(1, .class_ 2), (0, u "java/lang/Comparable"), (0, .class_ 4), (0, u "java/lang/Object")] 7

/-- java/lang/Comparable -/
def k3 : Class := { plain "java/lang/Comparable" (some 0) with
  accessFlags := 1537
  interfaces := #[]
  cf := some (fileOf pool3 1 #[] #[] 1537 3 #[] #[])
  fields := #[]
  methods := #[]
  instanceTypes := #[]
  staticTypes := #[]
  resolved := Array.replicate 12 none
  statics := none }

def pool4 : Array CpInfo := pool [(2, .class_ 4), (1, u "java/lang/CharSequence"), (42, .class_ 48), (0, u "java/lang/CharSequence$1CodePointIterator"), (10, .class_ 60), (0, u "java/lang/CharSequence$1CharIterator"), (5, .class_ 67), (0, u "java/lang/Object")] 63

/-- java/lang/CharSequence -/
def k4 : Class := { plain "java/lang/CharSequence" (some 0) with
  accessFlags := 1537
  interfaces := #[]
  cf := some (fileOf pool4 2 #[.nestMembers #[47, 59]] #[] 1537 66 #[] #[])
  fields := #[]
  methods := #[]
  instanceTypes := #[]
  staticTypes := #[]
  resolved := Array.replicate 131 none
  statics := none }

def pool5 : Array CpInfo := pool [(1, .class_ 2), (0, u "java/lang/constant/Constable"), (0, .class_ 4), (0, u "java/lang/Object")] 6

/-- java/lang/constant/Constable -/
def k5 : Class := { plain "java/lang/constant/Constable" (some 0) with
  accessFlags := 1537
  interfaces := #[]
  cf := some (fileOf pool5 1 #[] #[] 1537 3 #[] #[])
  fields := #[]
  methods := #[]
  instanceTypes := #[]
  staticTypes := #[]
  resolved := Array.replicate 11 none
  statics := none }

def pool6 : Array CpInfo := pool [(1, .class_ 2), (0, u "java/lang/constant/ConstantDesc"), (0, .class_ 4), (0, u "java/lang/Object")] 32

/-- java/lang/constant/ConstantDesc -/
def k6 : Class := { plain "java/lang/constant/ConstantDesc" (some 0) with
  accessFlags := 1537
  interfaces := #[]
  cf := some (fileOf pool6 1 #[] #[] 1537 3 #[] #[])
  fields := #[]
  methods := #[]
  instanceTypes := #[]
  staticTypes := #[]
  resolved := Array.replicate 37 none
  statics := none }

def pool7 : Array CpInfo := pool [(1, .methodref 2 3), (0, .class_ 4), (0, .nameAndType 5 6), (0, u "java/lang/Object"), (0, u "<init>"), (0, u "()V"), (0, .string 8), (0, u ""), (0, .fieldref 10 11), (0, .class_ 12), (0, .nameAndType 13 14), (0, u "java/lang/String"), (0, u "value"), (0, u "[B"), (0, .fieldref 10 16), (0, .nameAndType 17 18), (0, u "coder"), (0, u "B"), (2, u "hash"), (0, u "I"), (2, u "hashIsZero"), (0, u "Z"), (0, .methodref 10 28), (0, .nameAndType 5 29), (0, u "([CIILjava/lang/Void;)V"), (8, .fieldref 10 39), (0, .nameAndType 40 26), (0, u "COMPACT_STRINGS"), (1, .class_ 44), (1, u "java/lang/StringUTF16"), (0, u "compress"), (1, .methodref 42 48), (0, .nameAndType 49 50), (0, u "coderFromArrayLen"), (0, u "([BI)B"), (2, u "toBytes"), (0, .methodref 55 56), (0, .class_ 57), (0, .nameAndType 58 59), (0, u "java/util/Arrays"), (0, u "copyOfRange"), (0, u "([BII)[B"), (47, .class_ 109), (1, u "java/lang/StringLatin1"), (32, u "()Z"), (34, .methodref 42 178), (0, .nameAndType 45 179), (0, u "([CII)[B"), (13, .class_ 195), (1, u "java/lang/System"), (13, .methodref 10 210), (0, .nameAndType 5 211), (0, u "([BB)V"), (0, .methodref 193 213), (0, .nameAndType 214 215), (0, u "arraycopy"), (0, u "(Ljava/lang/Object;ILjava/lang/Object;II)V"), (118, u "()I"), (0, .methodref 10 336), (0, .nameAndType 17 337), (0, u "()B"), (2, u "()[B"), (22, u "([BI)C"), (5, u "(C)Z"), (21, u "(II)V"), (35, u "(I)C"), (61, .methodref 10 490), (0, .nameAndType 5 491), (0, u "(Ljava/lang/AbstractStringBuilder;Ljava/lang/Void;)V"), (0, .methodref 10 493), (0, .nameAndType 494 142), (0, u "isLatin1"), (0, .methodref 107 496), (0, .nameAndType 497 363), (0, u "charAt"), (3, u "checkIndex"), (4, .nameAndType 507 334), (0, u "length"), (24, u "getBytes"), (8, .methodref 107 542), (0, .nameAndType 543 544), (0, u "equals"), (0, u "([B[B)Z"), (4, .methodref 550 506), (0, .class_ 551), (0, u "java/lang/AbstractStringBuilder"), (0, .methodref 550 553), (0, .nameAndType 554 340), (0, u "getValue"), (18, u "(Ljava/lang/Object;)Z"), (1, .class_ 576), (0, u "java/lang/CharSequence"), (22, u "CASE_INSENSITIVE_ORDER"), (0, u "Ljava/util/Comparator;"), (181, u "valueOf"), (0, u "(C)Ljava/lang/String;"), (37, u "([BIB)V"), (188, u "([C)V"), (4, .methodref 107 1016), (0, .nameAndType 1017 369), (0, u "canEncode"), (0, .methodref 107 1019), (0, .nameAndType 53 1020), (0, u "(C)[B"), (26, .methodref 550 493), (5, .fieldref 1054 1055), (0, .class_ 1056), (0, .nameAndType 1057 1058), (0, u "jdk/internal/util/Preconditions"), (0, u "SIOOBE_FORMATTER"), (0, u "Ljava/util/function/BiFunction;"), (0, .methodref 1054 1060), (0, .nameAndType 501 1061), (0, u "(IILjava/util/function/BiFunction;)I"), (39, u "serialPersistentFields"), (0, u "[Ljava/io/ObjectStreamField;"), (0, .class_ 1104), (0, u "java/lang/String$CaseInsensitiveComparator"), (1, .class_ 1107), (0, u "java/io/Serializable"), (0, .class_ 1109), (0, u "java/lang/Comparable"), (0, .class_ 1111), (0, u "java/lang/constant/Constable"), (0, .class_ 1113), (0, u "java/lang/constant/ConstantDesc"), (2, u "serialVersionUID"), (0, u "J"), (3, u "REPL"), (0, u "C"), (2, u "LATIN1"), (1, u "UTF16"), (105, u "(Ljava/lang/StringBuilder;)V")] 217

def k7m0 : Method := { name := "<init>", desc := "()V", sig := { parameters := [], returnType := none }, accessFlags := 1, code := none }
def k7c1 : Code := { maxStack := 5, maxLocals := 2, code := jdk_42_method_3_code, exceptionTable := #[], attributes := #[] }
def k7m1 : Method := { name := "<init>", desc := "([C)V", sig := { parameters := [(.array .char)], returnType := none }, accessFlags := 1, code := some k7c1 }
def k7c2 : Code := { maxStack := 3, maxLocals := 2, code := jdk_42_method_53_code, exceptionTable := #[], attributes := #[] }
def k7m2 : Method := { name := "<init>", desc := "(Ljava/lang/StringBuilder;)V", sig := { parameters := [(.object "java/lang/StringBuilder")], returnType := none }, accessFlags := 1, code := some k7c2 }
def k7c3 : Code := { maxStack := 2, maxLocals := 1, code := jdk_42_method_54_code, exceptionTable := #[], attributes := #[] }
def k7m3 : Method := { name := "length", desc := "()I", sig := { parameters := [], returnType := some .int }, accessFlags := 1, code := some k7c3 }
def k7c4 : Code := { maxStack := 2, maxLocals := 2, code := jdk_42_method_56_code, exceptionTable := #[], attributes := #[] }
def k7m4 : Method := { name := "charAt", desc := "(I)C", sig := { parameters := [.int], returnType := some .char }, accessFlags := 1, code := some k7c4 }
def k7c5 : Code := { maxStack := 2, maxLocals := 3, code := jdk_42_method_66_code, exceptionTable := #[], attributes := #[] }
def k7m5 : Method := { name := "equals", desc := "(Ljava/lang/Object;)Z", sig := { parameters := [(.object "java/lang/Object")], returnType := some .boolean }, accessFlags := 1, code := some k7c5 }
def k7c6 : Code := { maxStack := 4, maxLocals := 1, code := jdk_42_method_139_code, exceptionTable := #[], attributes := #[] }
def k7m6 : Method := { name := "valueOf", desc := "(C)Ljava/lang/String;", sig := { parameters := [.char], returnType := some (.object "java/lang/String") }, accessFlags := 9, code := some k7c6 }
def k7c7 : Code := { maxStack := 5, maxLocals := 4, code := jdk_42_method_147_code, exceptionTable := #[], attributes := #[] }
def k7m7 : Method := { name := "getBytes", desc := "([BIB)V", sig := { parameters := [(.array .byte), .int, .byte], returnType := none }, accessFlags := 0, code := some k7c7 }
def k7c8 : Code := { maxStack := 4, maxLocals := 6, code := jdk_42_method_149_code, exceptionTable := #[], attributes := #[] }
def k7m8 : Method := { name := "<init>", desc := "([CIILjava/lang/Void;)V", sig := { parameters := [(.array .char), .int, .int, (.object "java/lang/Void")], returnType := none }, accessFlags := 2, code := some k7c8 }
def k7c9 : Code := { maxStack := 5, maxLocals := 5, code := jdk_42_method_150_code, exceptionTable := #[], attributes := #[] }
def k7m9 : Method := { name := "<init>", desc := "(Ljava/lang/AbstractStringBuilder;Ljava/lang/Void;)V", sig := { parameters := [(.object "java/lang/AbstractStringBuilder"), (.object "java/lang/Void")], returnType := none }, accessFlags := 0, code := some k7c9 }
def k7c10 : Code := { maxStack := 2, maxLocals := 3, code := jdk_42_method_151_code, exceptionTable := #[], attributes := #[] }
def k7m10 : Method := { name := "<init>", desc := "([BB)V", sig := { parameters := [(.array .byte), .byte], returnType := none }, accessFlags := 0, code := some k7c10 }
def k7c11 : Code := { maxStack := 1, maxLocals := 1, code := jdk_42_method_152_code, exceptionTable := #[], attributes := #[] }
def k7m11 : Method := { name := "coder", desc := "()B", sig := { parameters := [], returnType := some .byte }, accessFlags := 0, code := some k7c11 }
def k7c12 : Code := { maxStack := 1, maxLocals := 1, code := jdk_42_method_154_code, exceptionTable := #[], attributes := #[] }
def k7m12 : Method := { name := "isLatin1", desc := "()Z", sig := { parameters := [], returnType := some .boolean }, accessFlags := 0, code := some k7c12 }
def k7c13 : Code := { maxStack := 3, maxLocals := 2, code := jdk_42_method_155_code, exceptionTable := #[], attributes := #[] }
def k7m13 : Method := { name := "checkIndex", desc := "(II)V", sig := { parameters := [.int, .int], returnType := none }, accessFlags := 8, code := some k7c13 }
/-- java/lang/String -/
def k7 : Class := { plain "java/lang/String" (some 0) with
  accessFlags := 49
  interfaces := #[2, 3, 4, 5, 6]
  cf := some (fileOf pool7 10 #[.nestMembers #[1103]] #[{ accessFlags := 1, nameIndex := 5, descriptorIndex := 6, attributes := #[] }, { accessFlags := 1, nameIndex := 5, descriptorIndex := 1010, attributes := #[] }, { accessFlags := 1, nameIndex := 5, descriptorIndex := 1233, attributes := #[] }, { accessFlags := 1, nameIndex := 507, descriptorIndex := 334, attributes := #[] }, { accessFlags := 1, nameIndex := 497, descriptorIndex := 427, attributes := #[] }, { accessFlags := 1, nameIndex := 543, descriptorIndex := 573, attributes := #[] }, { accessFlags := 9, nameIndex := 782, descriptorIndex := 783, attributes := #[] }, { accessFlags := 0, nameIndex := 532, descriptorIndex := 821, attributes := #[] }, { accessFlags := 2, nameIndex := 5, descriptorIndex := 29, attributes := #[] }, { accessFlags := 0, nameIndex := 5, descriptorIndex := 491, attributes := #[] }, { accessFlags := 0, nameIndex := 5, descriptorIndex := 211, attributes := #[] }, { accessFlags := 0, nameIndex := 17, descriptorIndex := 337, attributes := #[] }, { accessFlags := 0, nameIndex := 494, descriptorIndex := 142, attributes := #[] }, { accessFlags := 8, nameIndex := 501, descriptorIndex := 391, attributes := #[] }] 49 2 #[1106, 1108, 575, 1110, 1112] #[{ accessFlags := 18, nameIndex := 13, descriptorIndex := 14, attributes := #[] }, { accessFlags := 18, nameIndex := 17, descriptorIndex := 18, attributes := #[] }, { accessFlags := 2, nameIndex := 21, descriptorIndex := 22, attributes := #[] }, { accessFlags := 2, nameIndex := 25, descriptorIndex := 26, attributes := #[] }, { accessFlags := 26, nameIndex := 1116, descriptorIndex := 1117, attributes := #[] }, { accessFlags := 24, nameIndex := 40, descriptorIndex := 26, attributes := #[] }, { accessFlags := 26, nameIndex := 1101, descriptorIndex := 1102, attributes := #[] }, { accessFlags := 26, nameIndex := 1121, descriptorIndex := 1122, attributes := #[] }, { accessFlags := 25, nameIndex := 599, descriptorIndex := 600, attributes := #[] }, { accessFlags := 24, nameIndex := 1125, descriptorIndex := 18, attributes := #[] }, { accessFlags := 24, nameIndex := 1127, descriptorIndex := 18, attributes := #[] }])
  fields := #[{ name := "value", type := (.array .byte), accessFlags := 18, slot := 0, constantValue := 0 }, { name := "coder", type := .byte, accessFlags := 18, slot := 1, constantValue := 0 }, { name := "hash", type := .int, accessFlags := 2, slot := 2, constantValue := 0 }, { name := "hashIsZero", type := .boolean, accessFlags := 2, slot := 3, constantValue := 0 }, { name := "serialVersionUID", type := .long, accessFlags := 26, slot := 0, constantValue := 0 }, { name := "COMPACT_STRINGS", type := .boolean, accessFlags := 24, slot := 1, constantValue := 0 }, { name := "serialPersistentFields", type := (.array (.object "java/io/ObjectStreamField")), accessFlags := 26, slot := 2, constantValue := 0 }, { name := "REPL", type := .char, accessFlags := 26, slot := 3, constantValue := 0 }, { name := "CASE_INSENSITIVE_ORDER", type := (.object "java/util/Comparator"), accessFlags := 25, slot := 4, constantValue := 0 }, { name := "LATIN1", type := .byte, accessFlags := 24, slot := 5, constantValue := 0 }, { name := "UTF16", type := .byte, accessFlags := 24, slot := 6, constantValue := 0 }]
  methods := #[k7m0, k7m1, k7m2, k7m3, k7m4, k7m5, k7m6, k7m7, k7m8, k7m9, k7m10, k7m11, k7m12, k7m13]
  instanceTypes := #[(.array .byte), .byte, .int, .boolean]
  staticTypes := #[.long, .boolean, (.array (.object "java/io/ObjectStreamField")), .char, (.object "java/util/Comparator"), .byte, .byte]
  resolved := Array.replicate 1451 none
  statics := some 0 }

def pool8 : Array CpInfo := pool [(1, .class_ 2), (0, u "java/lang/String"), (1, .class_ 6), (1, u "java/lang/Object"), (0, u "<init>"), (0, u "()V"), (0, .methodref 1 10), (0, .nameAndType 11 12), (0, u "checkIndex"), (0, u "(II)V"), (1, .class_ 16), (1, u "java/lang/StringLatin1"), (36, u "([BI)C"), (36, u "canEncode"), (14, u "(C)Z"), (15, u "$assertionsDisabled"), (0, u "Z"), (98, .class_ 223), (1, u "java/lang/StringLatin1$LinesSpliterator"), (28, u "charAt"), (28, u "equals"), (0, u "([B[B)Z"), (97, u "toBytes"), (1, u "(C)[B"), (7, .class_ 391), (0, u "java/lang/StringLatin1$CharsSpliterator")] 3

def k8m0 : Method := { name := "<init>", desc := "()V", sig := { parameters := [], returnType := none }, accessFlags := 0, code := none }
def k8c1 : Code := { maxStack := 2, maxLocals := 2, code := jdk_43_method_2_code, exceptionTable := #[], attributes := #[] }
def k8m1 : Method := { name := "charAt", desc := "([BI)C", sig := { parameters := [(.array .byte), .int], returnType := some .char }, accessFlags := 9, code := some k8c1 }
def k8c2 : Code := { maxStack := 2, maxLocals := 1, code := jdk_43_method_3_code, exceptionTable := #[], attributes := #[] }
def k8m2 : Method := { name := "canEncode", desc := "(C)Z", sig := { parameters := [.char], returnType := some .boolean }, accessFlags := 9, code := some k8c2 }
def k8c3 : Code := { maxStack := 3, maxLocals := 3, code := jdk_43_method_13_code, exceptionTable := #[], attributes := #[] }
def k8m3 : Method := { name := "equals", desc := "([B[B)Z", sig := { parameters := [(.array .byte), (.array .byte)], returnType := some .boolean }, accessFlags := 9, code := some k8c3 }
def k8c4 : Code := { maxStack := 4, maxLocals := 1, code := jdk_43_method_46_code, exceptionTable := #[], attributes := #[] }
def k8m4 : Method := { name := "toBytes", desc := "(C)[B", sig := { parameters := [.char], returnType := some (.array .byte) }, accessFlags := 9, code := some k8c4 }
/-- java/lang/StringLatin1 -/
def k8 : Class := { plain "java/lang/StringLatin1" (some 0) with
  accessFlags := 48
  interfaces := #[]
  cf := some (fileOf pool8 14 #[.nestMembers #[390, 221]] #[{ accessFlags := 0, nameIndex := 7, descriptorIndex := 8, attributes := #[] }, { accessFlags := 9, nameIndex := 252, descriptorIndex := 53, attributes := #[] }, { accessFlags := 9, nameIndex := 90, descriptorIndex := 105, attributes := #[] }, { accessFlags := 9, nameIndex := 281, descriptorIndex := 282, attributes := #[] }, { accessFlags := 9, nameIndex := 380, descriptorIndex := 382, attributes := #[] }] 48 4 #[] #[{ accessFlags := 4120, nameIndex := 121, descriptorIndex := 122, attributes := #[] }])
  fields := #[{ name := "$assertionsDisabled", type := .boolean, accessFlags := 4120, slot := 0, constantValue := 0 }]
  methods := #[k8m0, k8m1, k8m2, k8m3, k8m4]
  instanceTypes := #[]
  staticTypes := #[.boolean]
  resolved := Array.replicate 395 none
  statics := none }

def pool9 : Array CpInfo := pool [(1, .methodref 2 3), (0, .class_ 4), (0, .nameAndType 5 6), (0, u "java/lang/Object"), (0, u "<init>"), (0, u "()V"), (0, .fieldref 8 9), (0, .class_ 10), (0, .nameAndType 11 12), (0, u "java/lang/Throwable"), (0, u "cause"), (0, u "Ljava/lang/Throwable;"), (0, .fieldref 8 14), (0, .nameAndType 15 16), (0, u "UNASSIGNED_STACK"), (0, u "[Ljava/lang/StackTraceElement;"), (0, .fieldref 8 18), (0, .nameAndType 19 16), (0, u "stackTrace"), (0, .fieldref 8 21), (0, .nameAndType 22 23), (0, u "SUPPRESSED_SENTINEL"), (0, u "Ljava/util/List;"), (0, .fieldref 8 25), (0, .nameAndType 26 23), (0, u "suppressedExceptions"), (0, .methodref 8 28), (0, .nameAndType 29 30), (0, u "fillInStackTrace"), (0, u "()Ljava/lang/Throwable;"), (0, .fieldref 8 32), (0, .nameAndType 33 34), (0, u "detailMessage"), (0, u "Ljava/lang/String;"), (3, u "()Ljava/lang/String;"), (2, u "getMessage"), (51, .class_ 94), (0, u "java/lang/Throwable$WrappedPrintStream"), (6, .class_ 103), (1, u "java/lang/Throwable$PrintStreamOrWriter"), (54, u "getCause"), (6, u "$assertionsDisabled"), (0, u "Z"), (26, .class_ 194), (0, u "java/lang/Throwable$WrappedPrintWriter"), (3, .fieldref 8 199), (0, .nameAndType 200 201), (0, u "backtrace"), (0, u "Ljava/lang/Object;"), (0, .methodref 8 203), (0, .nameAndType 29 204), (0, u "(I)Ljava/lang/Throwable;"), (6, u "depth"), (0, u "I"), (10, u "(Ljava/lang/String;)V"), (45, .class_ 271), (1, u "java/lang/Throwable$SentinelHolder"), (32, u "EMPTY_THROWABLE_ARRAY"), (0, u "[Ljava/lang/Throwable;"), (12, .class_ 319), (0, u "java/io/Serializable"), (0, u "serialVersionUID"), (0, u "J"), (5, u "NULL_CAUSE_MESSAGE"), (0, u "SELF_SUPPRESSION_MESSAGE"), (0, u "CAUSE_CAPTION"), (0, u "SUPPRESSED_CAPTION")] 73

def k9c0 : Code := { maxStack := 2, maxLocals := 1, code := jdk_78_method_1_code, exceptionTable := #[], attributes := #[] }
def k9m0 : Method := { name := "<init>", desc := "()V", sig := { parameters := [], returnType := none }, accessFlags := 1, code := some k9c0 }
def k9c1 : Code := { maxStack := 2, maxLocals := 2, code := jdk_78_method_2_code, exceptionTable := #[], attributes := #[] }
def k9m1 : Method := { name := "<init>", desc := "(Ljava/lang/String;)V", sig := { parameters := [(.object "java/lang/String")], returnType := none }, accessFlags := 1, code := some k9c1 }
def k9c2 : Code := { maxStack := 1, maxLocals := 1, code := jdk_78_method_6_code, exceptionTable := #[], attributes := #[] }
def k9m2 : Method := { name := "getMessage", desc := "()Ljava/lang/String;", sig := { parameters := [], returnType := some (.object "java/lang/String") }, accessFlags := 1, code := some k9c2 }
def k9c3 : Code := { maxStack := 2, maxLocals := 1, code := ⟨#[0x2a, 0xb4, 0x00, 0x07, 0x2a, 0xa6, 0x00, 0x07, 0x01, 0xa7, 0x00, 0x07, 0x2a, 0xb4, 0x00, 0x07, 0xb0]⟩, exceptionTable := #[], attributes := #[] }
def k9m3 : Method := { name := "getCause", desc := "()Ljava/lang/Throwable;", sig := { parameters := [], returnType := some (.object "java/lang/Throwable") }, accessFlags := 33, code := some k9c3 }
def k9c4 : Code := { maxStack := 2, maxLocals := 1, code := ⟨#[0x2a, 0xb4, 0x00, 0x11, 0xc7, 0x00, 0x0a, 0x2a, 0xb4, 0x00, 0xc6, 0xc6, 0x00, 0x10, 0x2a, 0x03, 0xb6, 0x00, 0xca, 0x57, 0x2a, 0xb2, 0x00, 0x0d, 0xb5, 0x00, 0x11, 0x2a, 0xb0]⟩, exceptionTable := #[], attributes := #[] }
def k9m4 : Method := { name := "fillInStackTrace", desc := "()Ljava/lang/Throwable;", sig := { parameters := [], returnType := some (.object "java/lang/Throwable") }, accessFlags := 33, code := some k9c4 }
def k9m5 : Method := { name := "fillInStackTrace", desc := "(I)Ljava/lang/Throwable;", sig := { parameters := [.int], returnType := some (.object "java/lang/Throwable") }, accessFlags := 258, code := none }
/-- java/lang/Throwable -/
def k9 : Class := { plain "java/lang/Throwable" (some 0) with
  accessFlags := 33
  interfaces := #[2]
  cf := some (fileOf pool9 8 #[.nestMembers #[193, 93, 101, 269]] #[{ accessFlags := 1, nameIndex := 5, descriptorIndex := 6, attributes := #[] }, { accessFlags := 1, nameIndex := 5, descriptorIndex := 223, attributes := #[] }, { accessFlags := 1, nameIndex := 41, descriptorIndex := 38, attributes := #[] }, { accessFlags := 33, nameIndex := 158, descriptorIndex := 30, attributes := #[] }, { accessFlags := 33, nameIndex := 29, descriptorIndex := 30, attributes := #[] }, { accessFlags := 258, nameIndex := 29, descriptorIndex := 204, attributes := #[] }] 33 2 #[318] #[{ accessFlags := 26, nameIndex := 320, descriptorIndex := 321, attributes := #[] }, { accessFlags := 130, nameIndex := 200, descriptorIndex := 201, attributes := #[] }, { accessFlags := 2, nameIndex := 33, descriptorIndex := 34, attributes := #[] }, { accessFlags := 26, nameIndex := 15, descriptorIndex := 16, attributes := #[] }, { accessFlags := 2, nameIndex := 11, descriptorIndex := 12, attributes := #[] }, { accessFlags := 2, nameIndex := 19, descriptorIndex := 16, attributes := #[] }, { accessFlags := 130, nameIndex := 211, descriptorIndex := 212, attributes := #[] }, { accessFlags := 26, nameIndex := 22, descriptorIndex := 23, attributes := #[] }, { accessFlags := 2, nameIndex := 26, descriptorIndex := 23, attributes := #[] }, { accessFlags := 26, nameIndex := 327, descriptorIndex := 34, attributes := #[] }, { accessFlags := 26, nameIndex := 328, descriptorIndex := 34, attributes := #[] }, { accessFlags := 26, nameIndex := 329, descriptorIndex := 34, attributes := #[] }, { accessFlags := 26, nameIndex := 330, descriptorIndex := 34, attributes := #[] }, { accessFlags := 26, nameIndex := 304, descriptorIndex := 305, attributes := #[] }, { accessFlags := 4120, nameIndex := 165, descriptorIndex := 166, attributes := #[] }])
  fields := #[{ name := "serialVersionUID", type := .long, accessFlags := 26, slot := 0, constantValue := 0 }, { name := "backtrace", type := (.object "java/lang/Object"), accessFlags := 130, slot := 0, constantValue := 0 }, { name := "detailMessage", type := (.object "java/lang/String"), accessFlags := 2, slot := 1, constantValue := 0 }, { name := "UNASSIGNED_STACK", type := (.array (.object "java/lang/StackTraceElement")), accessFlags := 26, slot := 1, constantValue := 0 }, { name := "cause", type := (.object "java/lang/Throwable"), accessFlags := 2, slot := 2, constantValue := 0 }, { name := "stackTrace", type := (.array (.object "java/lang/StackTraceElement")), accessFlags := 2, slot := 3, constantValue := 0 }, { name := "depth", type := .int, accessFlags := 130, slot := 4, constantValue := 0 }, { name := "SUPPRESSED_SENTINEL", type := (.object "java/util/List"), accessFlags := 26, slot := 2, constantValue := 0 }, { name := "suppressedExceptions", type := (.object "java/util/List"), accessFlags := 2, slot := 5, constantValue := 0 }, { name := "NULL_CAUSE_MESSAGE", type := (.object "java/lang/String"), accessFlags := 26, slot := 3, constantValue := 0 }, { name := "SELF_SUPPRESSION_MESSAGE", type := (.object "java/lang/String"), accessFlags := 26, slot := 4, constantValue := 0 }, { name := "CAUSE_CAPTION", type := (.object "java/lang/String"), accessFlags := 26, slot := 5, constantValue := 0 }, { name := "SUPPRESSED_CAPTION", type := (.object "java/lang/String"), accessFlags := 26, slot := 6, constantValue := 0 }, { name := "EMPTY_THROWABLE_ARRAY", type := (.array (.object "java/lang/Throwable")), accessFlags := 26, slot := 7, constantValue := 0 }, { name := "$assertionsDisabled", type := .boolean, accessFlags := 4120, slot := 8, constantValue := 0 }]
  methods := #[k9m0, k9m1, k9m2, k9m3, k9m4, k9m5]
  instanceTypes := #[(.object "java/lang/Object"), (.object "java/lang/String"), (.object "java/lang/Throwable"), (.array (.object "java/lang/StackTraceElement")), .int, (.object "java/util/List")]
  staticTypes := #[.long, (.array (.object "java/lang/StackTraceElement")), (.object "java/util/List"), (.object "java/lang/String"), (.object "java/lang/String"), (.object "java/lang/String"), (.object "java/lang/String"), (.array (.object "java/lang/Throwable")), .boolean]
  resolved := Array.replicate 404 none
  statics := some 1 }

def pool10 : Array CpInfo := pool [(2, .class_ 4), (1, u "java/lang/Throwable"), (0, u "<init>"), (0, u "()V"), (0, .methodref 2 8), (0, .nameAndType 5 9), (0, u "(Ljava/lang/String;)V"), (9, .class_ 20), (0, u "java/lang/Exception"), (0, u "serialVersionUID"), (0, u "J")] 17

def k10m0 : Method := { name := "<init>", desc := "()V", sig := { parameters := [], returnType := none }, accessFlags := 1, code := none }
def k10c1 : Code := { maxStack := 2, maxLocals := 2, code := jdk_59_method_2_code, exceptionTable := #[], attributes := #[] }
def k10m1 : Method := { name := "<init>", desc := "(Ljava/lang/String;)V", sig := { parameters := [(.object "java/lang/String")], returnType := none }, accessFlags := 1, code := some k10c1 }
/-- java/lang/Exception -/
def k10 : Class := { plain "java/lang/Exception" (some 9) with
  accessFlags := 33
  interfaces := #[]
  cf := some (fileOf pool10 19 #[] #[{ accessFlags := 1, nameIndex := 5, descriptorIndex := 6, attributes := #[] }, { accessFlags := 1, nameIndex := 5, descriptorIndex := 9, attributes := #[] }] 33 2 #[] #[{ accessFlags := 24, nameIndex := 21, descriptorIndex := 22, attributes := #[] }])
  fields := #[{ name := "serialVersionUID", type := .long, accessFlags := 24, slot := 0, constantValue := 0 }]
  methods := #[k10m0, k10m1]
  instanceTypes := #[(.object "java/lang/Object"), (.object "java/lang/String"), (.object "java/lang/Throwable"), (.array (.object "java/lang/StackTraceElement")), .int, (.object "java/util/List")]
  staticTypes := #[.long]
  resolved := Array.replicate 40 none
  statics := none }

def pool11 : Array CpInfo := pool [(2, .class_ 4), (1, u "java/lang/Exception"), (0, u "<init>"), (0, u "()V"), (0, .methodref 2 8), (0, .nameAndType 5 9), (0, u "(Ljava/lang/String;)V"), (9, .class_ 20), (0, u "java/lang/RuntimeException"), (0, u "serialVersionUID"), (0, u "J")] 17

def k11m0 : Method := { name := "<init>", desc := "()V", sig := { parameters := [], returnType := none }, accessFlags := 1, code := none }
def k11c1 : Code := { maxStack := 2, maxLocals := 2, code := jdk_58_method_2_code, exceptionTable := #[], attributes := #[] }
def k11m1 : Method := { name := "<init>", desc := "(Ljava/lang/String;)V", sig := { parameters := [(.object "java/lang/String")], returnType := none }, accessFlags := 1, code := some k11c1 }
/-- java/lang/RuntimeException -/
def k11 : Class := { plain "java/lang/RuntimeException" (some 10) with
  accessFlags := 33
  interfaces := #[]
  cf := some (fileOf pool11 19 #[] #[{ accessFlags := 1, nameIndex := 5, descriptorIndex := 6, attributes := #[] }, { accessFlags := 1, nameIndex := 5, descriptorIndex := 9, attributes := #[] }] 33 2 #[] #[{ accessFlags := 24, nameIndex := 21, descriptorIndex := 22, attributes := #[] }])
  fields := #[{ name := "serialVersionUID", type := .long, accessFlags := 24, slot := 0, constantValue := 0 }]
  methods := #[k11m0, k11m1]
  instanceTypes := #[(.object "java/lang/Object"), (.object "java/lang/String"), (.object "java/lang/Throwable"), (.array (.object "java/lang/StackTraceElement")), .int, (.object "java/util/List")]
  staticTypes := #[.long]
  resolved := Array.replicate 40 none
  statics := none }

def pool12 : Array CpInfo := pool [(1, .methodref 2 3), (0, .class_ 4), (0, .nameAndType 5 6), (0, u "java/lang/RuntimeException"), (0, u "<init>"), (0, u "(Ljava/lang/String;)V"), (26, .class_ 34), (0, u "com/example/record_guard/recordguard/conflict/ConcurrencyException"), (0, u "serialVersionUID"), (0, u "J")] 10

def k12c0 : Code := { maxStack := 2, maxLocals := 2, code := prog_58_method_1_code, exceptionTable := #[], attributes := #[] }
def k12m0 : Method := { name := "<init>", desc := "(Ljava/lang/String;)V", sig := { parameters := [(.object "java/lang/String")], returnType := none }, accessFlags := 4, code := some k12c0 }
/-- com/example/record_guard/recordguard/conflict/ConcurrencyException -/
def k12 : Class := { plain "com/example/record_guard/recordguard/conflict/ConcurrencyException" (some 11) with
  accessFlags := 1057
  interfaces := #[]
  cf := some (fileOf pool12 33 #[] #[{ accessFlags := 4, nameIndex := 5, descriptorIndex := 6, attributes := #[] }] 1057 2 #[] #[{ accessFlags := 26, nameIndex := 35, descriptorIndex := 36, attributes := #[] }])
  fields := #[{ name := "serialVersionUID", type := .long, accessFlags := 26, slot := 0, constantValue := 0 }]
  methods := #[k12m0]
  instanceTypes := #[(.object "java/lang/Object"), (.object "java/lang/String"), (.object "java/lang/Throwable"), (.array (.object "java/lang/StackTraceElement")), .int, (.object "java/util/List")]
  staticTypes := #[.long]
  resolved := Array.replicate 47 none
  statics := none }

def pool13 : Array CpInfo := pool [(1, .class_ 2), (0, u "java/lang/StringBuilder"), (0, .methodref 1 4), (0, .nameAndType 5 6), (0, u "<init>"), (0, u "()V"), (0, .methodref 1 8), (0, .nameAndType 9 10), (0, u "append"), (0, u "(Ljava/lang/String;)Ljava/lang/StringBuilder;"), (2, .methodref 1 14), (0, .nameAndType 15 16), (0, u "toString"), (0, u "()Ljava/lang/String;"), (1, .class_ 20), (1, u "com/example/record_guard/recordguard/conflict/ConcurrencyException"), (1, .methodref 18 23), (0, .nameAndType 5 24), (0, u "(Ljava/lang/String;)V"), (0, .class_ 26), (0, u "com/example/record_guard/recordguard/conflict/SerializationFailureException"), (0, .string 28), (0, u ": this transaction's snapshot shows no such record, and none that another transaction committed after the snapshot was taken, so the transaction is rolled back, to be run again on a fresh snapshot"), (0, .methodref 25 23), (0, .string 31), (0, u ": the snapshot of the caller's transaction shows no such record, which may be gone or committed by another transaction after the snapshot was taken; run again on a fresh snapshot, the caller's transaction tells which"), (0, u "serialVersionUID"), (0, u "J"), (5, u "notInSnapshot"), (0, u "(Ljava/lang/String;)Lcom/example/record_guard/recordguard/conflict/SerializationFailureException;"), (0, u "notInCallersSnapshot")] 2

def k13c0 : Code := { maxStack := 2, maxLocals := 2, code := prog_64_method_2_code, exceptionTable := #[], attributes := #[] }
def k13m0 : Method := { name := "<init>", desc := "(Ljava/lang/String;)V", sig := { parameters := [(.object "java/lang/String")], returnType := none }, accessFlags := 2, code := some k13c0 }
def k13c1 : Code := { maxStack := 4, maxLocals := 1, code := prog_64_method_3_code, exceptionTable := #[], attributes := #[] }
def k13m1 : Method := { name := "notInSnapshot", desc := "(Ljava/lang/String;)Lcom/example/record_guard/recordguard/conflict/SerializationFailureException;", sig := { parameters := [(.object "java/lang/String")], returnType := some (.object "com/example/record_guard/recordguard/conflict/SerializationFailureException") }, accessFlags := 9, code := some k13c1 }
def k13c2 : Code := { maxStack := 4, maxLocals := 1, code := prog_64_method_4_code, exceptionTable := #[], attributes := #[] }
def k13m2 : Method := { name := "notInCallersSnapshot", desc := "(Ljava/lang/String;)Lcom/example/record_guard/recordguard/conflict/SerializationFailureException;", sig := { parameters := [(.object "java/lang/String")], returnType := some (.object "com/example/record_guard/recordguard/conflict/SerializationFailureException") }, accessFlags := 9, code := some k13c2 }
/-- com/example/record_guard/recordguard/conflict/SerializationFailureException -/
def k13 : Class := { plain "com/example/record_guard/recordguard/conflict/SerializationFailureException" (some 12) with
  accessFlags := 49
  interfaces := #[]
  cf := some (fileOf pool13 25 #[] #[{ accessFlags := 2, nameIndex := 5, descriptorIndex := 24, attributes := #[] }, { accessFlags := 9, nameIndex := 39, descriptorIndex := 40, attributes := #[] }, { accessFlags := 9, nameIndex := 41, descriptorIndex := 40, attributes := #[] }] 49 18 #[] #[{ accessFlags := 26, nameIndex := 32, descriptorIndex := 33, attributes := #[] }])
  fields := #[{ name := "serialVersionUID", type := .long, accessFlags := 26, slot := 0, constantValue := 0 }]
  methods := #[k13m0, k13m1, k13m2]
  instanceTypes := #[(.object "java/lang/Object"), (.object "java/lang/String"), (.object "java/lang/Throwable"), (.array (.object "java/lang/StackTraceElement")), .int, (.object "java/util/List")]
  staticTypes := #[.long]
  resolved := Array.replicate 44 none
  statics := none }

def pool14 : Array CpInfo := pool [(1, .class_ 2), (0, u "java/lang/Appendable"), (0, .class_ 4), (0, u "java/lang/Object")] 9

/-- java/lang/Appendable -/
def k14 : Class := { plain "java/lang/Appendable" (some 0) with
  accessFlags := 1537
  interfaces := #[]
  cf := some (fileOf pool14 1 #[] #[] 1537 3 #[] #[])
  fields := #[]
  methods := #[]
  instanceTypes := #[]
  staticTypes := #[]
  resolved := Array.replicate 14 none
  statics := none }

def pool15 : Array CpInfo := pool [(1, .class_ 2), (0, u "java/lang/String"), (0, .methodref 4 5), (0, .class_ 6), (0, .nameAndType 7 8), (0, u "java/lang/Object"), (0, u "<init>"), (0, u "()V"), (1, .class_ 12), (1, u "java/lang/AbstractStringBuilder"), (0, u "EMPTYVALUE"), (0, u "[B"), (0, .fieldref 10 16), (0, .nameAndType 17 14), (0, u "value"), (0, .fieldref 1 19), (0, .nameAndType 20 21), (0, u "COMPACT_STRINGS"), (0, u "Z"), (0, .fieldref 10 23), (0, .nameAndType 24 25), (0, u "coder"), (0, u "B"), (6, .methodref 1 33), (0, .nameAndType 34 35), (0, u "length"), (0, u "()I"), (3, .integer 2147483647), (0, .methodref 1 41), (0, .nameAndType 24 42), (0, u "()B"), (2, u "append"), (0, u "(Ljava/lang/String;)Ljava/lang/AbstractStringBuilder;"), (1, .class_ 49), (0, u "java/lang/CharSequence"), (19, u "(Ljava/lang/String;)V"), (5, u "maybeLatin1"), (3, .fieldref 10 80), (0, .nameAndType 81 82), (0, u "count"), (0, u "I"), (2, u "isLatin1"), (0, u "()Z"), (13, .methodref 10 101), (0, .nameAndType 102 103), (0, u "ensureCapacityInternal"), (0, u "(I)V"), (0, .methodref 10 105), (0, .nameAndType 106 107), (0, u "newCapacity"), (0, u "(I)I"), (0, .methodref 109 110), (0, .class_ 111), (0, .nameAndType 112 113), (0, u "java/util/Arrays"), (0, u "copyOf"), (0, u "([BI)[B"), (0, .methodref 115 116), (0, .class_ 117), (0, .nameAndType 118 119), (0, u "jdk/internal/util/ArraysSupport"), (0, u "newLength"), (0, u "(III)I"), (88, .methodref 10 209), (0, .nameAndType 210 211), (0, u "putStringAt"), (0, u "(ILjava/lang/String;)V"), (5, u "inflateIfNeededFor"), (2, .nameAndType 221 222), (0, u "getBytes"), (0, u "([BIB)V"), (174, .methodref 10 398), (0, .nameAndType 217 69), (0, .methodref 1 220), (3, u "()[B"), (40, .class_ 445), (0, u "java/lang/Appendable"), (106, u "getValue")] 56

def k15m0 : Method := { name := "<init>", desc := "()V", sig := { parameters := [], returnType := none }, accessFlags := 0, code := none }
def k15c1 : Code := { maxStack := 2, maxLocals := 2, code := jdk_68_method_2_code, exceptionTable := #[], attributes := #[] }
def k15m1 : Method := { name := "<init>", desc := "(I)V", sig := { parameters := [.int], returnType := none }, accessFlags := 0, code := some k15c1 }
def k15c2 : Code := { maxStack := 1, maxLocals := 1, code := jdk_68_method_6_code, exceptionTable := #[], attributes := #[] }
def k15m2 : Method := { name := "length", desc := "()I", sig := { parameters := [], returnType := some .int }, accessFlags := 1, code := some k15c2 }
def k15c3 : Code := { maxStack := 4, maxLocals := 3, code := jdk_68_method_9_code, exceptionTable := #[], attributes := #[] }
def k15m3 : Method := { name := "ensureCapacityInternal", desc := "(I)V", sig := { parameters := [.int], returnType := none }, accessFlags := 2, code := some k15c3 }
def k15c4 : Code := { maxStack := 5, maxLocals := 6, code := jdk_68_method_10_code, exceptionTable := #[], attributes := #[] }
def k15m4 : Method := { name := "newCapacity", desc := "(I)I", sig := { parameters := [.int], returnType := some .int }, accessFlags := 2, code := some k15c4 }
def k15c5 : Code := { maxStack := 3, maxLocals := 3, code := jdk_68_method_22_code, exceptionTable := #[], attributes := #[] }
def k15m5 : Method := { name := "append", desc := "(Ljava/lang/String;)Ljava/lang/AbstractStringBuilder;", sig := { parameters := [(.object "java/lang/String")], returnType := some (.object "java/lang/AbstractStringBuilder") }, accessFlags := 1, code := some k15c5 }
def k15c6 : Code := { maxStack := 1, maxLocals := 1, code := jdk_68_method_64_code, exceptionTable := #[], attributes := #[] }
def k15m6 : Method := { name := "getValue", desc := "()[B", sig := { parameters := [], returnType := some (.array .byte) }, accessFlags := 16, code := some k15c6 }
def k15c7 : Code := { maxStack := 1, maxLocals := 1, code := jdk_68_method_68_code, exceptionTable := #[], attributes := #[] }
def k15m7 : Method := { name := "isLatin1", desc := "()Z", sig := { parameters := [], returnType := some .boolean }, accessFlags := 16, code := some k15c7 }
def k15c8 : Code := { maxStack := 2, maxLocals := 2, code := jdk_68_method_71_code, exceptionTable := #[], attributes := #[] }
def k15m8 : Method := { name := "inflateIfNeededFor", desc := "(Ljava/lang/String;)V", sig := { parameters := [(.object "java/lang/String")], returnType := none }, accessFlags := 2, code := some k15c8 }
def k15c9 : Code := { maxStack := 4, maxLocals := 3, code := jdk_68_method_73_code, exceptionTable := #[], attributes := #[] }
def k15m9 : Method := { name := "putStringAt", desc := "(ILjava/lang/String;)V", sig := { parameters := [.int, (.object "java/lang/String")], returnType := none }, accessFlags := 2, code := some k15c9 }
/-- java/lang/AbstractStringBuilder -/
def k15 : Class := { plain "java/lang/AbstractStringBuilder" (some 0) with
  accessFlags := 1056
  interfaces := #[14, 4]
  cf := some (fileOf pool15 10 #[] #[{ accessFlags := 0, nameIndex := 7, descriptorIndex := 8, attributes := #[] }, { accessFlags := 0, nameIndex := 7, descriptorIndex := 103, attributes := #[] }, { accessFlags := 1, nameIndex := 34, descriptorIndex := 35, attributes := #[] }, { accessFlags := 2, nameIndex := 102, descriptorIndex := 103, attributes := #[] }, { accessFlags := 2, nameIndex := 106, descriptorIndex := 107, attributes := #[] }, { accessFlags := 1, nameIndex := 45, descriptorIndex := 46, attributes := #[] }, { accessFlags := 16, nameIndex := 552, descriptorIndex := 403, attributes := #[] }, { accessFlags := 16, nameIndex := 85, descriptorIndex := 86, attributes := #[] }, { accessFlags := 2, nameIndex := 217, descriptorIndex := 69, attributes := #[] }, { accessFlags := 2, nameIndex := 210, descriptorIndex := 211, attributes := #[] }] 1056 4 #[444, 48] #[{ accessFlags := 0, nameIndex := 17, descriptorIndex := 14, attributes := #[] }, { accessFlags := 0, nameIndex := 24, descriptorIndex := 25, attributes := #[] }, { accessFlags := 0, nameIndex := 75, descriptorIndex := 21, attributes := #[] }, { accessFlags := 0, nameIndex := 81, descriptorIndex := 82, attributes := #[] }, { accessFlags := 26, nameIndex := 13, descriptorIndex := 14, attributes := #[] }])
  fields := #[{ name := "value", type := (.array .byte), accessFlags := 0, slot := 0, constantValue := 0 }, { name := "coder", type := .byte, accessFlags := 0, slot := 1, constantValue := 0 }, { name := "maybeLatin1", type := .boolean, accessFlags := 0, slot := 2, constantValue := 0 }, { name := "count", type := .int, accessFlags := 0, slot := 3, constantValue := 0 }, { name := "EMPTYVALUE", type := (.array .byte), accessFlags := 26, slot := 0, constantValue := 0 }]
  methods := #[k15m0, k15m1, k15m2, k15m3, k15m4, k15m5, k15m6, k15m7, k15m8, k15m9]
  instanceTypes := #[(.array .byte), .byte, .boolean, .int]
  staticTypes := #[(.array .byte)]
  resolved := Array.replicate 609 none
  statics := none }

def pool16 : Array CpInfo := pool [(1, .methodref 2 3), (0, .class_ 4), (0, .nameAndType 5 6), (0, u "java/lang/AbstractStringBuilder"), (0, u "<init>"), (0, u "(I)V"), (11, .class_ 20), (1, u "java/lang/String"), (3, .class_ 26), (1, u "java/lang/StringBuilder"), (0, u "append"), (0, u "(Ljava/lang/String;)Ljava/lang/StringBuilder;"), (0, .methodref 2 30), (0, .nameAndType 27 31), (0, u "(Ljava/lang/String;)Ljava/lang/AbstractStringBuilder;"), (105, .methodref 18 138), (0, .nameAndType 5 139), (0, u "(Ljava/lang/StringBuilder;)V"), (5, u "()V"), (10, u "()I"), (186, .methodref 2 344), (0, .nameAndType 345 156), (0, u "length"), (3, .class_ 350), (0, u "java/lang/Appendable"), (0, .class_ 352), (0, u "java/io/Serializable"), (0, .class_ 354), (0, u "java/lang/Comparable"), (0, .class_ 356), (0, u "java/lang/CharSequence"), (0, u "serialVersionUID"), (0, u "J"), (40, u "toString"), (0, u "()Ljava/lang/String;")] 21

def k16c0 : Code := { maxStack := 2, maxLocals := 1, code := jdk_67_method_1_code, exceptionTable := #[], attributes := #[] }
def k16m0 : Method := { name := "<init>", desc := "()V", sig := { parameters := [], returnType := none }, accessFlags := 1, code := some k16c0 }
def k16c1 : Code := { maxStack := 2, maxLocals := 2, code := jdk_67_method_7_code, exceptionTable := #[], attributes := #[] }
def k16m1 : Method := { name := "append", desc := "(Ljava/lang/String;)Ljava/lang/StringBuilder;", sig := { parameters := [(.object "java/lang/String")], returnType := some (.object "java/lang/StringBuilder") }, accessFlags := 1, code := some k16c1 }
def k16c2 : Code := { maxStack := 3, maxLocals := 1, code := jdk_67_method_42_code, exceptionTable := #[], attributes := #[] }
def k16m2 : Method := { name := "toString", desc := "()Ljava/lang/String;", sig := { parameters := [], returnType := some (.object "java/lang/String") }, accessFlags := 1, code := some k16c2 }
def k16c3 : Code := { maxStack := 1, maxLocals := 1, code := jdk_67_method_93_code, exceptionTable := #[], attributes := #[] }
def k16m3 : Method := { name := "length", desc := "()I", sig := { parameters := [], returnType := some .int }, accessFlags := 4161, code := some k16c3 }
/-- java/lang/StringBuilder -/
def k16 : Class := { plain "java/lang/StringBuilder" (some 15) with
  accessFlags := 49
  interfaces := #[14, 2, 3, 4]
  cf := some (fileOf pool16 24 #[] #[{ accessFlags := 1, nameIndex := 5, descriptorIndex := 145, attributes := #[] }, { accessFlags := 1, nameIndex := 27, descriptorIndex := 28, attributes := #[] }, { accessFlags := 1, nameIndex := 399, descriptorIndex := 400, attributes := #[] }, { accessFlags := 4161, nameIndex := 345, descriptorIndex := 156, attributes := #[] }] 49 2 #[349, 351, 353, 355] #[{ accessFlags := 24, nameIndex := 357, descriptorIndex := 358, attributes := #[] }])
  fields := #[{ name := "serialVersionUID", type := .long, accessFlags := 24, slot := 0, constantValue := 0 }]
  methods := #[k16m0, k16m1, k16m2, k16m3]
  instanceTypes := #[(.array .byte), .byte, .boolean, .int]
  staticTypes := #[.long]
  resolved := Array.replicate 422 none
  statics := none }

def pool17 : Array CpInfo := pool [(2, .class_ 4), (1, u "java/lang/Object"), (0, u "<init>"), (0, u "()V"), (1, .class_ 10), (1, u "java/lang/System"), (0, u "allowSecurityManager"), (0, u "I"), (16, u "cons"), (0, u "Ljava/io/Console;"), (77, .class_ 110), (1, u "java/lang/System$CallersHolder"), (43, u "initialErrStream"), (0, u "Ljava/io/PrintStream;"), (19, u "security"), (0, u "Ljava/lang/SecurityManager;"), (31, .class_ 209), (0, u "java/lang/System$1"), (7, u "props"), (0, u "Ljava/util/Properties;"), (2, u "lineSeparator"), (0, u "Ljava/lang/String;"), (96, .class_ 321), (1, u "java/lang/System$LoggerFinder"), (5, .class_ 328), (0, u "java/lang/System$Logger"), (67, u "err"), (2, u "out"), (91, u "notSupportedJnuEncoding"), (15, u "in"), (17, u "initialIn"), (0, u "Ljava/io/InputStream;"), (35, u "bootLayer"), (0, u "Ljava/lang/ModuleLayer;"), (99, .class_ 664), (0, u "java/lang/System$2"), (9, u "NEVER"), (2, u "MAYBE"), (49, u "arraycopy"), (0, u "(Ljava/lang/Object;ILjava/lang/Object;II)V"), (72, .class_ 802), (0, u "java/lang/System$Logger$Level")] 31

def k17m0 : Method := { name := "<init>", desc := "()V", sig := { parameters := [], returnType := none }, accessFlags := 2, code := none }
def k17m1 : Method := { name := "arraycopy", desc := "(Ljava/lang/Object;ILjava/lang/Object;II)V", sig := { parameters := [(.object "java/lang/Object"), .int, (.object "java/lang/Object"), .int, .int], returnType := none }, accessFlags := 265, code := none }
/-- java/lang/System -/
def k17 : Class := { plain "java/lang/System" (some 0) with
  accessFlags := 49
  interfaces := #[]
  cf := some (fileOf pool17 8 #[.nestMembers #[319, 327, 801, 108, 663, 208]] #[{ accessFlags := 2, nameIndex := 5, descriptorIndex := 6, attributes := #[] }, { accessFlags := 265, nameIndex := 727, descriptorIndex := 728, attributes := #[] }] 49 2 #[] #[{ accessFlags := 25, nameIndex := 507, descriptorIndex := 526, attributes := #[] }, { accessFlags := 25, nameIndex := 399, descriptorIndex := 155, attributes := #[] }, { accessFlags := 25, nameIndex := 396, descriptorIndex := 155, attributes := #[] }, { accessFlags := 10, nameIndex := 525, descriptorIndex := 526, attributes := #[] }, { accessFlags := 26, nameIndex := 674, descriptorIndex := 12, attributes := #[] }, { accessFlags := 26, nameIndex := 677, descriptorIndex := 12, attributes := #[] }, { accessFlags := 10, nameIndex := 11, descriptorIndex := 12, attributes := #[] }, { accessFlags := 74, nameIndex := 175, descriptorIndex := 176, attributes := #[] }, { accessFlags := 10, nameIndex := 491, descriptorIndex := 222, attributes := #[] }, { accessFlags := 74, nameIndex := 29, descriptorIndex := 30, attributes := #[] }, { accessFlags := 74, nameIndex := 154, descriptorIndex := 155, attributes := #[] }, { accessFlags := 10, nameIndex := 217, descriptorIndex := 218, attributes := #[] }, { accessFlags := 10, nameIndex := 221, descriptorIndex := 222, attributes := #[] }, { accessFlags := 8, nameIndex := 562, descriptorIndex := 563, attributes := #[] }])
  fields := #[{ name := "in", type := (.object "java/io/InputStream"), accessFlags := 25, slot := 0, constantValue := 0 }, { name := "out", type := (.object "java/io/PrintStream"), accessFlags := 25, slot := 1, constantValue := 0 }, { name := "err", type := (.object "java/io/PrintStream"), accessFlags := 25, slot := 2, constantValue := 0 }, { name := "initialIn", type := (.object "java/io/InputStream"), accessFlags := 10, slot := 3, constantValue := 0 }, { name := "NEVER", type := .int, accessFlags := 26, slot := 4, constantValue := 0 }, { name := "MAYBE", type := .int, accessFlags := 26, slot := 5, constantValue := 0 }, { name := "allowSecurityManager", type := .int, accessFlags := 10, slot := 6, constantValue := 0 }, { name := "security", type := (.object "java/lang/SecurityManager"), accessFlags := 74, slot := 7, constantValue := 0 }, { name := "notSupportedJnuEncoding", type := (.object "java/lang/String"), accessFlags := 10, slot := 8, constantValue := 0 }, { name := "cons", type := (.object "java/io/Console"), accessFlags := 74, slot := 9, constantValue := 0 }, { name := "initialErrStream", type := (.object "java/io/PrintStream"), accessFlags := 74, slot := 10, constantValue := 0 }, { name := "props", type := (.object "java/util/Properties"), accessFlags := 10, slot := 11, constantValue := 0 }, { name := "lineSeparator", type := (.object "java/lang/String"), accessFlags := 10, slot := 12, constantValue := 0 }, { name := "bootLayer", type := (.object "java/lang/ModuleLayer"), accessFlags := 8, slot := 13, constantValue := 0 }]
  methods := #[k17m0, k17m1]
  instanceTypes := #[]
  staticTypes := #[(.object "java/io/InputStream"), (.object "java/io/PrintStream"), (.object "java/io/PrintStream"), (.object "java/io/InputStream"), .int, .int, .int, (.object "java/lang/SecurityManager"), (.object "java/lang/String"), (.object "java/io/Console"), (.object "java/io/PrintStream"), (.object "java/util/Properties"), (.object "java/lang/String"), (.object "java/lang/ModuleLayer")]
  resolved := Array.replicate 834 none
  statics := none }

def pool18 : Array CpInfo := pool [(9, u "<init>"), (6, .class_ 18), (1, u "java/lang/Object"), (0, u "()V"), (1, .class_ 23), (1, u "jdk/internal/util/ArraysSupport"), (0, u "LOG2_ARRAY_LONG_INDEX_SCALE"), (0, u "I"), (2, u "U"), (0, u "Ljdk/internal/misc/Unsafe;"), (8, u "BIG_ENDIAN"), (0, u "Z"), (8, u "LOG2_BYTE_BIT_SIZE"), (4, u "LOG2_ARRAY_INT_INDEX_SCALE"), (54, u "JLA"), (0, u "Ljdk/internal/access/JavaLangAccess;"), (11, u "LOG2_ARRAY_BOOLEAN_INDEX_SCALE"), (9, u "LOG2_ARRAY_BYTE_INDEX_SCALE"), (5, u "LOG2_ARRAY_CHAR_INDEX_SCALE"), (5, u "LOG2_ARRAY_SHORT_INDEX_SCALE"), (18, u "LOG2_ARRAY_FLOAT_INDEX_SCALE"), (24, u "LOG2_ARRAY_DOUBLE_INDEX_SCALE"), (6, .methodref 195 196), (0, .class_ 197), (0, .nameAndType 198 199), (0, u "java/lang/Math"), (0, u "max"), (0, u "(II)I"), (0, .integer 2147483639), (76, u "T_BOOLEAN"), (2, u "T_CHAR"), (1, u "T_FLOAT"), (1, u "T_DOUBLE"), (1, u "T_BYTE"), (1, u "T_SHORT"), (1, u "T_INT"), (1, u "T_LONG"), (1, u "SOFT_MAX_ARRAY_LENGTH"), (56, u "newLength"), (0, u "(III)I")] 25

def k18m0 : Method := { name := "<init>", desc := "()V", sig := { parameters := [], returnType := none }, accessFlags := 2, code := none }
def k18c1 : Code := { maxStack := 3, maxLocals := 4, code := jdk_48_method_27_code, exceptionTable := #[], attributes := #[] }
def k18m1 : Method := { name := "newLength", desc := "(III)I", sig := { parameters := [.int, .int, .int], returnType := some .int }, accessFlags := 9, code := some k18c1 }
/-- jdk/internal/util/ArraysSupport -/
def k18 : Class := { plain "jdk/internal/util/ArraysSupport" (some 0) with
  accessFlags := 33
  interfaces := #[]
  cf := some (fileOf pool18 21 #[] #[{ accessFlags := 2, nameIndex := 9, descriptorIndex := 19, attributes := #[] }, { accessFlags := 9, nameIndex := 351, descriptorIndex := 352, attributes := #[] }] 33 16 #[] #[{ accessFlags := 24, nameIndex := 28, descriptorIndex := 29, attributes := #[] }, { accessFlags := 26, nameIndex := 38, descriptorIndex := 39, attributes := #[] }, { accessFlags := 25, nameIndex := 121, descriptorIndex := 25, attributes := #[] }, { accessFlags := 25, nameIndex := 131, descriptorIndex := 25, attributes := #[] }, { accessFlags := 25, nameIndex := 137, descriptorIndex := 25, attributes := #[] }, { accessFlags := 25, nameIndex := 143, descriptorIndex := 25, attributes := #[] }, { accessFlags := 25, nameIndex := 53, descriptorIndex := 25, attributes := #[] }, { accessFlags := 25, nameIndex := 24, descriptorIndex := 25, attributes := #[] }, { accessFlags := 25, nameIndex := 162, descriptorIndex := 25, attributes := #[] }, { accessFlags := 25, nameIndex := 187, descriptorIndex := 25, attributes := #[] }, { accessFlags := 26, nameIndex := 48, descriptorIndex := 25, attributes := #[] }, { accessFlags := 25, nameIndex := 277, descriptorIndex := 25, attributes := #[] }, { accessFlags := 25, nameIndex := 280, descriptorIndex := 25, attributes := #[] }, { accessFlags := 25, nameIndex := 282, descriptorIndex := 25, attributes := #[] }, { accessFlags := 25, nameIndex := 284, descriptorIndex := 25, attributes := #[] }, { accessFlags := 25, nameIndex := 286, descriptorIndex := 25, attributes := #[] }, { accessFlags := 25, nameIndex := 288, descriptorIndex := 25, attributes := #[] }, { accessFlags := 25, nameIndex := 290, descriptorIndex := 25, attributes := #[] }, { accessFlags := 25, nameIndex := 292, descriptorIndex := 25, attributes := #[] }, { accessFlags := 26, nameIndex := 108, descriptorIndex := 109, attributes := #[] }, { accessFlags := 25, nameIndex := 294, descriptorIndex := 25, attributes := #[] }])
  fields := #[{ name := "U", type := (.object "jdk/internal/misc/Unsafe"), accessFlags := 24, slot := 0, constantValue := 0 }, { name := "BIG_ENDIAN", type := .boolean, accessFlags := 26, slot := 1, constantValue := 0 }, { name := "LOG2_ARRAY_BOOLEAN_INDEX_SCALE", type := .int, accessFlags := 25, slot := 2, constantValue := 0 }, { name := "LOG2_ARRAY_BYTE_INDEX_SCALE", type := .int, accessFlags := 25, slot := 3, constantValue := 0 }, { name := "LOG2_ARRAY_CHAR_INDEX_SCALE", type := .int, accessFlags := 25, slot := 4, constantValue := 0 }, { name := "LOG2_ARRAY_SHORT_INDEX_SCALE", type := .int, accessFlags := 25, slot := 5, constantValue := 0 }, { name := "LOG2_ARRAY_INT_INDEX_SCALE", type := .int, accessFlags := 25, slot := 6, constantValue := 0 }, { name := "LOG2_ARRAY_LONG_INDEX_SCALE", type := .int, accessFlags := 25, slot := 7, constantValue := 0 }, { name := "LOG2_ARRAY_FLOAT_INDEX_SCALE", type := .int, accessFlags := 25, slot := 8, constantValue := 0 }, { name := "LOG2_ARRAY_DOUBLE_INDEX_SCALE", type := .int, accessFlags := 25, slot := 9, constantValue := 0 }, { name := "LOG2_BYTE_BIT_SIZE", type := .int, accessFlags := 26, slot := 10, constantValue := 0 }, { name := "T_BOOLEAN", type := .int, accessFlags := 25, slot := 11, constantValue := 0 }, { name := "T_CHAR", type := .int, accessFlags := 25, slot := 12, constantValue := 0 }, { name := "T_FLOAT", type := .int, accessFlags := 25, slot := 13, constantValue := 0 }, { name := "T_DOUBLE", type := .int, accessFlags := 25, slot := 14, constantValue := 0 }, { name := "T_BYTE", type := .int, accessFlags := 25, slot := 15, constantValue := 0 }, { name := "T_SHORT", type := .int, accessFlags := 25, slot := 16, constantValue := 0 }, { name := "T_INT", type := .int, accessFlags := 25, slot := 17, constantValue := 0 }, { name := "T_LONG", type := .int, accessFlags := 25, slot := 18, constantValue := 0 }, { name := "JLA", type := (.object "jdk/internal/access/JavaLangAccess"), accessFlags := 26, slot := 19, constantValue := 0 }, { name := "SOFT_MAX_ARRAY_LENGTH", type := .int, accessFlags := 25, slot := 20, constantValue := 0 }]
  methods := #[k18m0, k18m1]
  instanceTypes := #[]
  staticTypes := #[(.object "jdk/internal/misc/Unsafe"), .boolean, .int, .int, .int, .int, .int, .int, .int, .int, .int, .int, .int, .int, .int, .int, .int, .int, .int, (.object "jdk/internal/access/JavaLangAccess"), .int]
  resolved := Array.replicate 378 none
  statics := none }

def pool19 : Array CpInfo := pool [(1, .class_ 2), (0, u "java/lang/Math"), (1, .class_ 6), (1, u "java/lang/Object"), (0, u "<init>"), (0, u "()V"), (89, .class_ 100), (1, u "java/lang/Math$RandomNumberGeneratorHolder"), (71, u "negativeZeroFloatBits"), (0, u "J"), (2, u "negativeZeroDoubleBits"), (21, u "max"), (2, u "min"), (43, u "$assertionsDisabled"), (0, u "Z"), (88, u "(II)I"), (2, u "twoToTheDoubleScaleDown"), (0, u "D"), (4, u "twoToTheDoubleScaleUp"), (9, u "E"), (3, u "PI"), (2, u "TAU"), (2, u "DEGREES_TO_RADIANS"), (0, u "RADIANS_TO_DEGREES")] 94

def k19m0 : Method := { name := "<init>", desc := "()V", sig := { parameters := [], returnType := none }, accessFlags := 2, code := none }
def k19c1 : Code := { maxStack := 2, maxLocals := 2, code := jdk_29_method_65_code, exceptionTable := #[], attributes := #[] }
def k19m1 : Method := { name := "max", desc := "(II)I", sig := { parameters := [.int, .int], returnType := some .int }, accessFlags := 9, code := some k19c1 }
def k19c2 : Code := { maxStack := 2, maxLocals := 2, code := jdk_29_method_69_code, exceptionTable := #[], attributes := #[] }
def k19m2 : Method := { name := "min", desc := "(II)I", sig := { parameters := [.int, .int], returnType := some .int }, accessFlags := 9, code := some k19c2 }
/-- java/lang/Math -/
def k19 : Class := { plain "java/lang/Math" (some 0) with
  accessFlags := 49
  interfaces := #[]
  cf := some (fileOf pool19 1 #[.nestMembers #[98]] #[{ accessFlags := 2, nameIndex := 7, descriptorIndex := 8, attributes := #[] }, { accessFlags := 9, nameIndex := 198, descriptorIndex := 335, attributes := #[] }, { accessFlags := 9, nameIndex := 201, descriptorIndex := 335, attributes := #[] }] 49 4 #[] #[{ accessFlags := 25, nameIndex := 354, descriptorIndex := 339, attributes := #[] }, { accessFlags := 25, nameIndex := 358, descriptorIndex := 339, attributes := #[] }, { accessFlags := 25, nameIndex := 361, descriptorIndex := 339, attributes := #[] }, { accessFlags := 26, nameIndex := 364, descriptorIndex := 339, attributes := #[] }, { accessFlags := 26, nameIndex := 365, descriptorIndex := 339, attributes := #[] }, { accessFlags := 26, nameIndex := 172, descriptorIndex := 173, attributes := #[] }, { accessFlags := 26, nameIndex := 176, descriptorIndex := 173, attributes := #[] }, { accessFlags := 8, nameIndex := 344, descriptorIndex := 339, attributes := #[] }, { accessFlags := 8, nameIndex := 338, descriptorIndex := 339, attributes := #[] }, { accessFlags := 4120, nameIndex := 245, descriptorIndex := 246, attributes := #[] }])
  fields := #[{ name := "E", type := .double, accessFlags := 25, slot := 0, constantValue := 0 }, { name := "PI", type := .double, accessFlags := 25, slot := 1, constantValue := 0 }, { name := "TAU", type := .double, accessFlags := 25, slot := 2, constantValue := 0 }, { name := "DEGREES_TO_RADIANS", type := .double, accessFlags := 26, slot := 3, constantValue := 0 }, { name := "RADIANS_TO_DEGREES", type := .double, accessFlags := 26, slot := 4, constantValue := 0 }, { name := "negativeZeroFloatBits", type := .long, accessFlags := 26, slot := 5, constantValue := 0 }, { name := "negativeZeroDoubleBits", type := .long, accessFlags := 26, slot := 6, constantValue := 0 }, { name := "twoToTheDoubleScaleUp", type := .double, accessFlags := 8, slot := 7, constantValue := 0 }, { name := "twoToTheDoubleScaleDown", type := .double, accessFlags := 8, slot := 8, constantValue := 0 }, { name := "$assertionsDisabled", type := .boolean, accessFlags := 4120, slot := 9, constantValue := 0 }]
  methods := #[k19m0, k19m1, k19m2]
  instanceTypes := #[]
  staticTypes := #[.double, .double, .double, .double, .double, .long, .long, .double, .double, .boolean]
  resolved := Array.replicate 460 none
  statics := none }

def pool20 : Array CpInfo := pool [(2, .class_ 4), (1, u "java/lang/Object"), (0, u "<init>"), (0, u "()V"), (7, .class_ 16), (1, u "java/util/Arrays"), (57, .class_ 76), (1, u "java/util/Arrays$NaturalOrder"), (32, u "()Ljava/lang/Object;"), (3, .class_ 115), (1, u "java/util/Arrays$LegacyMergeSort"), (1, u "Z"), (10, .nameAndType 129 109), (0, u "clone"), (9, u "copyOfRange"), (10, .methodref 151 152), (0, .class_ 153), (0, .nameAndType 154 155), (0, u "java/lang/System"), (0, u "arraycopy"), (0, u "(Ljava/lang/Object;ILjava/lang/Object;II)V"), (146, u "copyOf"), (1, .methodref 305 306), (0, .class_ 307), (0, .nameAndType 308 309), (0, u "java/lang/Math"), (0, u "min"), (0, u "(II)I"), (0, .methodref 311 128), (0, .class_ 312), (0, u "[B"), (29, u "([BII)[B"), (32, .class_ 376), (0, u "java/util/Arrays$ArrayList"), (68, u "$assertionsDisabled"), (269, u "MIN_ARRAY_SORT_GRAN"), (0, u "I"), (2, u "INSERTIONSORT_THRESHOLD"), (149, u "([BI)[B"), (105, .class_ 976), (0, u "java/util/Arrays$ArrayItr")] 52

def k20m0 : Method := { name := "<init>", desc := "()V", sig := { parameters := [], returnType := none }, accessFlags := 2, code := none }
def k20c1 : Code := { maxStack := 6, maxLocals := 3, code := jdk_65_method_121_code, exceptionTable := #[], attributes := #[] }
def k20m1 : Method := { name := "copyOf", desc := "([BI)[B", sig := { parameters := [(.array .byte), .int], returnType := some (.array .byte) }, accessFlags := 9, code := some k20c1 }
def k20c2 : Code := { maxStack := 3, maxLocals := 3, code := jdk_65_method_132_code, exceptionTable := #[], attributes := #[] }
def k20m2 : Method := { name := "copyOfRange", desc := "([BII)[B", sig := { parameters := [(.array .byte), .int, .int], returnType := some (.array .byte) }, accessFlags := 9, code := some k20c2 }
/-- java/util/Arrays -/
def k20 : Class := { plain "java/util/Arrays" (some 0) with
  accessFlags := 49
  interfaces := #[]
  cf := some (fileOf pool20 14 #[.nestMembers #[975, 375, 113, 74]] #[{ accessFlags := 2, nameIndex := 5, descriptorIndex := 6, attributes := #[] }, { accessFlags := 9, nameIndex := 302, descriptorIndex := 869, attributes := #[] }, { accessFlags := 9, nameIndex := 139, descriptorIndex := 342, attributes := #[] }] 49 2 #[] #[{ accessFlags := 26, nameIndex := 715, descriptorIndex := 716, attributes := #[] }, { accessFlags := 26, nameIndex := 719, descriptorIndex := 716, attributes := #[] }, { accessFlags := 4120, nameIndex := 445, descriptorIndex := 117, attributes := #[] }])
  fields := #[{ name := "MIN_ARRAY_SORT_GRAN", type := .int, accessFlags := 26, slot := 0, constantValue := 0 }, { name := "INSERTIONSORT_THRESHOLD", type := .int, accessFlags := 26, slot := 1, constantValue := 0 }, { name := "$assertionsDisabled", type := .boolean, accessFlags := 4120, slot := 2, constantValue := 0 }]
  methods := #[k20m0, k20m1, k20m2]
  instanceTypes := #[]
  staticTypes := #[.int, .int, .boolean]
  resolved := Array.replicate 1029 none
  statics := none }

def pool21 : Array CpInfo := pool [(1, .class_ 2), (0, u "java/lang/Cloneable"), (0, .class_ 4), (0, u "java/lang/Object")] 2

/-- java/lang/Cloneable -/
def k21 : Class := { plain "java/lang/Cloneable" (some 0) with
  accessFlags := 1537
  interfaces := #[]
  cf := some (fileOf pool21 1 #[] #[] 1537 3 #[] #[])
  fields := #[]
  methods := #[]
  instanceTypes := #[]
  staticTypes := #[]
  resolved := Array.replicate 7 none
  statics := none }

def pool22 : Array CpInfo := pool [(2, .class_ 4), (1, u "java/lang/Object"), (0, u "<init>"), (0, u "()V"), (17, .class_ 26), (1, u "jdk/internal/util/Preconditions"), (6, u "checkIndex"), (21, .class_ 56), (0, u "jdk/internal/util/Preconditions$4"), (57, .class_ 115), (0, u "jdk/internal/util/Preconditions$1"), (7, u "SIOOBE_FORMATTER"), (0, u "Ljava/util/function/BiFunction;"), (0, .class_ 126), (0, u "jdk/internal/util/Preconditions$2"), (3, u "AIOOBE_FORMATTER"), (0, .class_ 132), (0, u "jdk/internal/util/Preconditions$3"), (3, u "IOOBE_FORMATTER"), (41, u "(IILjava/util/function/BiFunction;)I")] 15

def k22m0 : Method := { name := "<init>", desc := "()V", sig := { parameters := [], returnType := none }, accessFlags := 1, code := none }
def k22c1 : Code := { maxStack := 3, maxLocals := 3, code := jdk_41_method_11_code, exceptionTable := #[], attributes := #[] }
def k22m1 : Method := { name := "checkIndex", desc := "(IILjava/util/function/BiFunction;)I", sig := { parameters := [.int, .int, (.object "java/util/function/BiFunction")], returnType := some .int }, accessFlags := 9, code := some k22c1 }
/-- jdk/internal/util/Preconditions -/
def k22 : Class := { plain "jdk/internal/util/Preconditions" (some 0) with
  accessFlags := 33
  interfaces := #[]
  cf := some (fileOf pool22 24 #[.nestMembers #[55, 131, 125, 114]] #[{ accessFlags := 1, nameIndex := 5, descriptorIndex := 6, attributes := #[] }, { accessFlags := 9, nameIndex := 33, descriptorIndex := 178, attributes := #[] }] 33 2 #[] #[{ accessFlags := 25, nameIndex := 123, descriptorIndex := 124, attributes := #[] }, { accessFlags := 25, nameIndex := 130, descriptorIndex := 124, attributes := #[] }, { accessFlags := 25, nameIndex := 136, descriptorIndex := 124, attributes := #[] }])
  fields := #[{ name := "SIOOBE_FORMATTER", type := (.object "java/util/function/BiFunction"), accessFlags := 25, slot := 0, constantValue := 0 }, { name := "AIOOBE_FORMATTER", type := (.object "java/util/function/BiFunction"), accessFlags := 25, slot := 1, constantValue := 0 }, { name := "IOOBE_FORMATTER", type := (.object "java/util/function/BiFunction"), accessFlags := 25, slot := 2, constantValue := 0 }]
  methods := #[k22m0, k22m1]
  instanceTypes := #[]
  staticTypes := #[(.object "java/util/function/BiFunction"), (.object "java/util/function/BiFunction"), (.object "java/util/function/BiFunction")]
  resolved := Array.replicate 194 none
  statics := some 2 }

def pool23 : Array CpInfo := pool [(6, .class_ 8), (1, u "java/lang/Object"), (0, u "<init>"), (0, u "()V"), (1, .class_ 14), (1, u "java/lang/StringUTF16"), (31, u "$assertionsDisabled"), (0, u "Z"), (13, u "HI_BYTE_SHIFT"), (0, u "I"), (2, u "LO_BYTE_SHIFT"), (49, .methodref 12 116), (0, .nameAndType 117 118), (0, u "compress"), (0, u "([CI[BII)I"), (3, u "([CII)[B"), (138, u "coderFromArrayLen"), (0, u "([BI)B"), (106, .class_ 371), (1, u "java/lang/StringUTF16$LinesSpliterator"), (58, u "MAX_LENGTH"), (196, .class_ 628), (0, u "java/lang/StringUTF16$CodePointsSpliterator"), (0, .class_ 630), (0, u "java/lang/StringUTF16$CharsSpliterator")] 4

def k23m0 : Method := { name := "<init>", desc := "()V", sig := { parameters := [], returnType := none }, accessFlags := 0, code := none }
def k23c1 : Code := { maxStack := 2, maxLocals := 2, code := jdk_52_method_15_code, exceptionTable := #[], attributes := #[] }
def k23m1 : Method := { name := "coderFromArrayLen", desc := "([BI)B", sig := { parameters := [(.array .byte), .int], returnType := some .byte }, accessFlags := 8, code := some k23c1 }
def k23c2 : Code := { maxStack := 5, maxLocals := 6, code := jdk_52_method_16_code, exceptionTable := #[], attributes := #[] }
def k23m2 : Method := { name := "compress", desc := "([CII)[B", sig := { parameters := [(.array .char), .int, .int], returnType := some (.array .byte) }, accessFlags := 9, code := some k23c2 }
def k23c3 : Code := { maxStack := 3, maxLocals := 7, code := jdk_52_method_21_code, exceptionTable := #[], attributes := #[] }
def k23m3 : Method := { name := "compress", desc := "([CI[BII)I", sig := { parameters := [(.array .char), .int, (.array .byte), .int, .int], returnType := some .int }, accessFlags := 9, code := some k23c3 }
/-- java/lang/StringUTF16 -/
def k23 : Class := { plain "java/lang/StringUTF16" (some 0) with
  accessFlags := 48
  interfaces := #[]
  cf := some (fileOf pool23 12 #[.nestMembers #[627, 629, 369]] #[{ accessFlags := 0, nameIndex := 9, descriptorIndex := 10, attributes := #[] }, { accessFlags := 8, nameIndex := 261, descriptorIndex := 262, attributes := #[] }, { accessFlags := 9, nameIndex := 117, descriptorIndex := 122, attributes := #[] }, { accessFlags := 9, nameIndex := 117, descriptorIndex := 118, attributes := #[] }] 48 6 #[] #[{ accessFlags := 26, nameIndex := 61, descriptorIndex := 62, attributes := #[] }, { accessFlags := 26, nameIndex := 65, descriptorIndex := 62, attributes := #[] }, { accessFlags := 24, nameIndex := 430, descriptorIndex := 62, attributes := #[] }, { accessFlags := 4120, nameIndex := 46, descriptorIndex := 47, attributes := #[] }])
  fields := #[{ name := "HI_BYTE_SHIFT", type := .int, accessFlags := 26, slot := 0, constantValue := 0 }, { name := "LO_BYTE_SHIFT", type := .int, accessFlags := 26, slot := 1, constantValue := 0 }, { name := "MAX_LENGTH", type := .int, accessFlags := 24, slot := 2, constantValue := 0 }, { name := "$assertionsDisabled", type := .boolean, accessFlags := 4120, slot := 3, constantValue := 0 }]
  methods := #[k23m0, k23m1, k23m2, k23m3]
  instanceTypes := #[]
  staticTypes := #[.int, .int, .int, .boolean]
  resolved := Array.replicate 635 none
  statics := none }

def pool24 : Array CpInfo := pool [(2, .class_ 4), (1, u "java/lang/Object"), (0, u "<init>"), (0, u "()V"), (12, .class_ 20), (0, u "java/util/Collections"), (63, u "r"), (0, u "Ljava/util/Random;"), (80, .class_ 167), (0, u "java/util/Collections$UnmodifiableCollection"), (6, .class_ 175), (0, u "java/util/Collections$UnmodifiableSequencedCollection"), (6, .class_ 183), (0, u "java/util/Collections$UnmodifiableSet"), (6, .class_ 191), (0, u "java/util/Collections$UnmodifiableSequencedSet"), (6, .class_ 199), (0, u "java/util/Collections$UnmodifiableSortedSet"), (6, .class_ 207), (0, u "java/util/Collections$UnmodifiableNavigableSet"), (4, .class_ 213), (0, u "java/util/Collections$UnmodifiableList"), (1, .class_ 216), (0, u "java/util/Collections$UnmodifiableRandomAccessList"), (6, .class_ 224), (0, u "java/util/Collections$UnmodifiableMap"), (6, .class_ 232), (0, u "java/util/Collections$UnmodifiableSequencedMap"), (4, .class_ 238), (0, u "java/util/Collections$UnmodifiableSortedMap"), (6, .class_ 246), (0, u "java/util/Collections$UnmodifiableNavigableMap"), (3, .class_ 251), (0, u "java/util/Collections$SynchronizedCollection"), (4, .class_ 257), (0, u "java/util/Collections$SynchronizedSet"), (4, .class_ 263), (0, u "java/util/Collections$SynchronizedSortedSet"), (1, .class_ 266), (0, u "java/util/Collections$SynchronizedNavigableSet"), (1, .class_ 269), (0, u "java/util/Collections$SynchronizedRandomAccessList"), (1, .class_ 272), (0, u "java/util/Collections$SynchronizedList"), (5, .class_ 279), (0, u "java/util/Collections$SynchronizedMap"), (1, .class_ 282), (0, u "java/util/Collections$SynchronizedSortedMap"), (1, .class_ 285), (0, u "java/util/Collections$SynchronizedNavigableMap"), (1, .class_ 288), (0, u "java/util/Collections$CheckedCollection"), (11, .class_ 301), (0, u "java/util/Collections$CheckedQueue"), (3, .class_ 306), (0, u "java/util/Collections$CheckedSet"), (3, .class_ 311), (0, u "java/util/Collections$CheckedSortedSet"), (3, .class_ 316), (0, u "java/util/Collections$CheckedNavigableSet"), (3, .class_ 321), (0, u "java/util/Collections$CheckedRandomAccessList"), (3, .class_ 326), (0, u "java/util/Collections$CheckedList"), (1, .class_ 329), (0, u "java/util/Collections$CheckedMap"), (3, .class_ 334), (0, u "java/util/Collections$CheckedSortedMap"), (3, .class_ 339), (0, u "java/util/Collections$CheckedNavigableMap"), (4, .class_ 346), (1, u "java/util/Collections$EmptyIterator"), (3, .class_ 352), (1, u "java/util/Collections$EmptyListIterator"), (2, .class_ 357), (1, u "java/util/Collections$EmptyEnumeration"), (4, u "EMPTY_SET"), (0, u "Ljava/util/Set;"), (6, u "EMPTY_LIST"), (0, u "Ljava/util/List;"), (2, u "EMPTY_MAP"), (0, u "Ljava/util/Map;"), (4, .class_ 381), (0, u "java/util/Collections$SingletonSet"), (2, .class_ 385), (0, u "java/util/Collections$1"), (1, .class_ 388), (0, u "java/util/Collections$2"), (1, .class_ 391), (0, u "java/util/Collections$SingletonList"), (1, .class_ 394), (0, u "java/util/Collections$SingletonMap"), (22, .class_ 418), (0, u "java/util/Collections$CopiesList"), (4, .class_ 425), (1, u "java/util/Collections$ReverseComparator"), (8, .class_ 435), (0, u "java/util/Collections$ReverseComparator2"), (6, .class_ 443), (0, u "java/util/Collections$3"), (25, .class_ 470), (0, u "java/util/Collections$SetFromMap"), (2, .class_ 474), (0, u "java/util/Collections$SequencedSetFromMap"), (3, .class_ 479), (0, u "java/util/Collections$AsLIFOQueue"), (11, .class_ 492), (0, u "java/util/Collections$EmptySet"), (1, .class_ 495), (0, u "java/util/Collections$EmptyList"), (1, .class_ 498), (0, u "java/util/Collections$EmptyMap"), (1, u "BINARYSEARCH_THRESHOLD"), (0, u "I"), (2, u "REVERSE_THRESHOLD"), (1, u "SHUFFLE_THRESHOLD"), (1, u "FILL_THRESHOLD"), (1, u "ROTATE_THRESHOLD"), (1, u "COPY_THRESHOLD"), (1, u "REPLACEALL_THRESHOLD"), (1, u "INDEXOFSUBLIST_THRESHOLD"), (333, .class_ 851), (0, u "java/util/Collections$CheckedMap$CheckedEntrySet"), (0, .class_ 853), (0, u "java/util/Collections$CheckedMap$CheckedEntrySet$CheckedEntry"), (0, .class_ 855), (0, u "java/util/Collections$CheckedMap$CheckedEntrySet$1"), (0, .class_ 857), (0, u "java/util/Collections$CheckedList$1"), (0, .class_ 859), (0, u "java/util/Collections$CheckedCollection$1"), (0, .class_ 861), (0, u "java/util/Collections$UnmodifiableNavigableMap$EmptyNavigableMap"), (0, .class_ 863), (0, u "java/util/Collections$UnmodifiableMap$UnmodifiableEntrySet"), (0, .class_ 865), (0, u "java/util/Collections$UnmodifiableMap$UnmodifiableEntrySet$UnmodifiableEntry"), (0, .class_ 867), (0, u "java/util/Collections$UnmodifiableMap$UnmodifiableEntrySet$UnmodifiableEntrySetSpliterator"), (0, .class_ 869), (0, u "java/util/Collections$UnmodifiableMap$UnmodifiableEntrySet$1"), (0, .class_ 871), (0, u "java/util/Collections$UnmodifiableList$1"), (0, .class_ 873), (0, u "java/util/Collections$UnmodifiableNavigableSet$EmptyNavigableSet"), (0, .class_ 875), (0, u "java/util/Collections$UnmodifiableCollection$1")] 57

def k24m0 : Method := { name := "<init>", desc := "()V", sig := { parameters := [], returnType := none }, accessFlags := 2, code := none }
/-- java/util/Collections -/
def k24 : Class := { plain "java/util/Collections" (some 0) with
  accessFlags := 33
  interfaces := #[]
  cf := some (fileOf pool24 19 #[.nestMembers #[478, 473, 469, 434, 423, 417, 393, 390, 380, 497, 494, 491, 355, 350, 344, 338, 333, 328, 850, 852, 854, 320, 325, 856, 315, 310, 305, 300, 287, 858, 284, 281, 278, 268, 271, 265, 262, 256, 250, 245, 860, 237, 231, 223, 862, 864, 866, 868, 215, 212, 870, 206, 872, 198, 190, 182, 174, 166, 874, 442, 387, 384]] #[{ accessFlags := 2, nameIndex := 5, descriptorIndex := 6, attributes := #[] }] 33 2 #[] #[{ accessFlags := 26, nameIndex := 500, descriptorIndex := 501, attributes := #[] }, { accessFlags := 26, nameIndex := 504, descriptorIndex := 501, attributes := #[] }, { accessFlags := 26, nameIndex := 506, descriptorIndex := 501, attributes := #[] }, { accessFlags := 26, nameIndex := 508, descriptorIndex := 501, attributes := #[] }, { accessFlags := 26, nameIndex := 510, descriptorIndex := 501, attributes := #[] }, { accessFlags := 26, nameIndex := 512, descriptorIndex := 501, attributes := #[] }, { accessFlags := 26, nameIndex := 514, descriptorIndex := 501, attributes := #[] }, { accessFlags := 26, nameIndex := 516, descriptorIndex := 501, attributes := #[] }, { accessFlags := 10, nameIndex := 84, descriptorIndex := 85, attributes := #[] }, { accessFlags := 25, nameIndex := 362, descriptorIndex := 363, attributes := #[] }, { accessFlags := 25, nameIndex := 370, descriptorIndex := 371, attributes := #[] }, { accessFlags := 25, nameIndex := 374, descriptorIndex := 375, attributes := #[] }])
  fields := #[{ name := "BINARYSEARCH_THRESHOLD", type := .int, accessFlags := 26, slot := 0, constantValue := 0 }, { name := "REVERSE_THRESHOLD", type := .int, accessFlags := 26, slot := 1, constantValue := 0 }, { name := "SHUFFLE_THRESHOLD", type := .int, accessFlags := 26, slot := 2, constantValue := 0 }, { name := "FILL_THRESHOLD", type := .int, accessFlags := 26, slot := 3, constantValue := 0 }, { name := "ROTATE_THRESHOLD", type := .int, accessFlags := 26, slot := 4, constantValue := 0 }, { name := "COPY_THRESHOLD", type := .int, accessFlags := 26, slot := 5, constantValue := 0 }, { name := "REPLACEALL_THRESHOLD", type := .int, accessFlags := 26, slot := 6, constantValue := 0 }, { name := "INDEXOFSUBLIST_THRESHOLD", type := .int, accessFlags := 26, slot := 7, constantValue := 0 }, { name := "r", type := (.object "java/util/Random"), accessFlags := 10, slot := 8, constantValue := 0 }, { name := "EMPTY_SET", type := (.object "java/util/Set"), accessFlags := 25, slot := 9, constantValue := 0 }, { name := "EMPTY_LIST", type := (.object "java/util/List"), accessFlags := 25, slot := 10, constantValue := 0 }, { name := "EMPTY_MAP", type := (.object "java/util/Map"), accessFlags := 25, slot := 11, constantValue := 0 }]
  methods := #[k24m0]
  instanceTypes := #[]
  staticTypes := #[.int, .int, .int, .int, .int, .int, .int, .int, (.object "java/util/Random"), (.object "java/util/Set"), (.object "java/util/List"), (.object "java/util/Map")]
  resolved := Array.replicate 933 none
  statics := some 3 }

def pool25 : Array CpInfo := pool [(8, .class_ 10), (1, u "java/lang/Iterable"), (24, .class_ 36), (0, u "java/lang/Object")] 25

/-- java/lang/Iterable -/
def k25 : Class := { plain "java/lang/Iterable" (some 0) with
  accessFlags := 1537
  interfaces := #[]
  cf := some (fileOf pool25 8 #[] #[] 1537 35 #[] #[])
  fields := #[]
  methods := #[]
  instanceTypes := #[]
  staticTypes := #[]
  resolved := Array.replicate 62 none
  statics := none }

def pool26 : Array CpInfo := pool [(10, .class_ 12), (1, u "java/util/Collection"), (47, .class_ 61), (0, u "java/lang/Object"), (0, .class_ 63), (0, u "java/lang/Iterable")] 51

/-- java/util/Collection -/
def k26 : Class := { plain "java/util/Collection" (some 0) with
  accessFlags := 1537
  interfaces := #[25]
  cf := some (fileOf pool26 10 #[] #[] 1537 60 #[62] #[])
  fields := #[]
  methods := #[]
  instanceTypes := #[]
  staticTypes := #[]
  resolved := Array.replicate 115 none
  statics := none }

def pool27 : Array CpInfo := pool [(2, .class_ 4), (1, u "java/lang/Object"), (0, u "<init>"), (0, u "()V"), (1, .class_ 10), (1, u "java/util/AbstractCollection"), (66, .class_ 78), (0, u "java/util/Collection")] 81

def k27m0 : Method := { name := "<init>", desc := "()V", sig := { parameters := [], returnType := none }, accessFlags := 4, code := none }
/-- java/util/AbstractCollection -/
def k27 : Class := { plain "java/util/AbstractCollection" (some 0) with
  accessFlags := 1057
  interfaces := #[26]
  cf := some (fileOf pool27 8 #[] #[{ accessFlags := 4, nameIndex := 5, descriptorIndex := 6, attributes := #[] }] 1057 2 #[77] #[])
  fields := #[]
  methods := #[k27m0]
  instanceTypes := #[]
  staticTypes := #[]
  resolved := Array.replicate 160 none
  statics := none }

def pool28 : Array CpInfo := pool [(8, .class_ 10), (1, u "java/util/SequencedCollection"), (15, .class_ 27), (0, u "java/lang/Object"), (0, .class_ 29), (0, u "java/util/Collection")] 27

/-- java/util/SequencedCollection -/
def k28 : Class := { plain "java/util/SequencedCollection" (some 0) with
  accessFlags := 1537
  interfaces := #[26]
  cf := some (fileOf pool28 8 #[] #[] 1537 26 #[28] #[])
  fields := #[]
  methods := #[]
  instanceTypes := #[]
  staticTypes := #[]
  resolved := Array.replicate 57 none
  statics := none }

def pool29 : Array CpInfo := pool [(8, .class_ 10), (1, u "java/util/List"), (92, .class_ 104), (0, u "java/lang/Object"), (15, .class_ 121), (0, u "java/util/SequencedCollection")] 129

/-- java/util/List -/
def k29 : Class := { plain "java/util/List" (some 0) with
  accessFlags := 1537
  interfaces := #[28]
  cf := some (fileOf pool29 8 #[] #[] 1537 103 #[120] #[])
  fields := #[]
  methods := #[]
  instanceTypes := #[]
  staticTypes := #[]
  resolved := Array.replicate 251 none
  statics := none }

def pool30 : Array CpInfo := pool [(2, .class_ 4), (1, u "java/util/AbstractCollection"), (0, u "<init>"), (0, u "()V"), (1, .class_ 10), (1, u "java/util/AbstractList"), (0, u "modCount"), (0, u "I"), (64, .class_ 78), (0, u "java/util/AbstractList$Itr"), (3, .class_ 83), (0, u "java/util/AbstractList$ListItr"), (9, .class_ 94), (0, u "java/util/AbstractList$RandomAccessSubList"), (3, .class_ 99), (0, u "java/util/AbstractList$SubList"), (33, .class_ 134), (0, u "java/util/List"), (73, .class_ 209), (0, u "java/util/AbstractList$SubList$1"), (0, .class_ 211), (0, u "java/util/AbstractList$RandomAccessSpliterator")] 6

def k30m0 : Method := { name := "<init>", desc := "()V", sig := { parameters := [], returnType := none }, accessFlags := 4, code := none }
/-- java/util/AbstractList -/
def k30 : Class := { plain "java/util/AbstractList" (some 27) with
  accessFlags := 1057
  interfaces := #[29]
  cf := some (fileOf pool30 8 #[.nestMembers #[93, 98, 208, 210, 82, 77]] #[{ accessFlags := 4, nameIndex := 5, descriptorIndex := 6, attributes := #[] }] 1057 2 #[133] #[{ accessFlags := 132, nameIndex := 11, descriptorIndex := 12, attributes := #[] }])
  fields := #[{ name := "modCount", type := .int, accessFlags := 132, slot := 0, constantValue := 0 }]
  methods := #[k30m0]
  instanceTypes := #[.int]
  staticTypes := #[]
  resolved := Array.replicate 218 none
  statics := none }

def pool31 : Array CpInfo := pool [(1, .class_ 2), (0, u "java/util/RandomAccess"), (0, .class_ 4), (0, u "java/lang/Object")] 2

/-- java/util/RandomAccess -/
def k31 : Class := { plain "java/util/RandomAccess" (some 0) with
  accessFlags := 1537
  interfaces := #[]
  cf := some (fileOf pool31 1 #[] #[] 1537 3 #[] #[])
  fields := #[]
  methods := #[]
  instanceTypes := #[]
  staticTypes := #[]
  resolved := Array.replicate 7 none
  statics := none }

def pool32 : Array CpInfo := pool [(2, .class_ 4), (1, u "java/util/AbstractList"), (0, u "<init>"), (0, u "()V"), (1, .class_ 10), (1, u "java/util/Collections"), (54, .class_ 66), (0, u "java/util/Collections$EmptyList"), (0, .class_ 68), (0, u "java/util/RandomAccess"), (0, .class_ 70), (0, u "java/io/Serializable"), (0, u "serialVersionUID"), (0, u "J")] 77

def k32m0 : Method := { name := "<init>", desc := "()V", sig := { parameters := [], returnType := none }, accessFlags := 2, code := none }
/-- java/util/Collections$EmptyList -/
def k32 : Class := { plain "java/util/Collections$EmptyList" (some 30) with
  accessFlags := 32
  interfaces := #[31, 2]
  cf := some (fileOf pool32 65 #[.nestHost 8] #[{ accessFlags := 2, nameIndex := 5, descriptorIndex := 6, attributes := #[] }] 32 2 #[67, 69] #[{ accessFlags := 26, nameIndex := 71, descriptorIndex := 72, attributes := #[] }])
  fields := #[{ name := "serialVersionUID", type := .long, accessFlags := 26, slot := 0, constantValue := 0 }]
  methods := #[k32m0]
  instanceTypes := #[.int]
  staticTypes := #[.long]
  resolved := Array.replicate 150 none
  statics := none }

def pool33 : Array CpInfo := pool [(2, .class_ 4), (1, u "java/lang/StackTraceElement"), (0, u "<init>"), (2, .class_ 10), (1, u "java/lang/Object"), (0, u "()V"), (2, u "format"), (0, u "B"), (2, u "classLoaderName"), (0, u "Ljava/lang/String;"), (2, u "moduleName"), (2, u "moduleVersion"), (12, u "declaringClass"), (4, u "methodName"), (2, u "fileName"), (2, u "lineNumber"), (0, u "I"), (65, u "declaringClassObject"), (0, u "Ljava/lang/Class;"), (33, .class_ 153), (1, u "java/lang/StackTraceElement$HashedModules"), (17, .class_ 172), (0, u "java/io/Serializable"), (0, u "NATIVE_METHOD"), (1, u "UNKNOWN_SOURCE"), (2, u "BUILTIN_CLASS_LOADER"), (1, u "JDK_NON_UPGRADEABLE_MODULE"), (1, u "serialVersionUID"), (0, u "J")] 51

def k33m0 : Method := { name := "<init>", desc := "()V", sig := { parameters := [], returnType := none }, accessFlags := 2, code := none }
/-- java/lang/StackTraceElement -/
def k33 : Class := { plain "java/lang/StackTraceElement" (some 0) with
  accessFlags := 49
  interfaces := #[2]
  cf := some (fileOf pool33 2 #[.nestMembers #[151]] #[{ accessFlags := 2, nameIndex := 5, descriptorIndex := 11, attributes := #[] }] 49 8 #[171] #[{ accessFlags := 26, nameIndex := 173, descriptorIndex := 19, attributes := #[] }, { accessFlags := 26, nameIndex := 175, descriptorIndex := 19, attributes := #[] }, { accessFlags := 130, nameIndex := 116, descriptorIndex := 117, attributes := #[] }, { accessFlags := 2, nameIndex := 18, descriptorIndex := 19, attributes := #[] }, { accessFlags := 2, nameIndex := 22, descriptorIndex := 19, attributes := #[] }, { accessFlags := 2, nameIndex := 25, descriptorIndex := 19, attributes := #[] }, { accessFlags := 2, nameIndex := 38, descriptorIndex := 19, attributes := #[] }, { accessFlags := 2, nameIndex := 43, descriptorIndex := 19, attributes := #[] }, { accessFlags := 2, nameIndex := 46, descriptorIndex := 19, attributes := #[] }, { accessFlags := 2, nameIndex := 49, descriptorIndex := 50, attributes := #[] }, { accessFlags := 2, nameIndex := 14, descriptorIndex := 15, attributes := #[] }, { accessFlags := 26, nameIndex := 178, descriptorIndex := 15, attributes := #[] }, { accessFlags := 26, nameIndex := 180, descriptorIndex := 15, attributes := #[] }, { accessFlags := 26, nameIndex := 182, descriptorIndex := 183, attributes := #[] }])
  fields := #[{ name := "NATIVE_METHOD", type := (.object "java/lang/String"), accessFlags := 26, slot := 0, constantValue := 0 }, { name := "UNKNOWN_SOURCE", type := (.object "java/lang/String"), accessFlags := 26, slot := 1, constantValue := 0 }, { name := "declaringClassObject", type := (.object "java/lang/Class"), accessFlags := 130, slot := 0, constantValue := 0 }, { name := "classLoaderName", type := (.object "java/lang/String"), accessFlags := 2, slot := 1, constantValue := 0 }, { name := "moduleName", type := (.object "java/lang/String"), accessFlags := 2, slot := 2, constantValue := 0 }, { name := "moduleVersion", type := (.object "java/lang/String"), accessFlags := 2, slot := 3, constantValue := 0 }, { name := "declaringClass", type := (.object "java/lang/String"), accessFlags := 2, slot := 4, constantValue := 0 }, { name := "methodName", type := (.object "java/lang/String"), accessFlags := 2, slot := 5, constantValue := 0 }, { name := "fileName", type := (.object "java/lang/String"), accessFlags := 2, slot := 6, constantValue := 0 }, { name := "lineNumber", type := .int, accessFlags := 2, slot := 7, constantValue := 0 }, { name := "format", type := .byte, accessFlags := 2, slot := 8, constantValue := 0 }, { name := "BUILTIN_CLASS_LOADER", type := .byte, accessFlags := 26, slot := 2, constantValue := 0 }, { name := "JDK_NON_UPGRADEABLE_MODULE", type := .byte, accessFlags := 26, slot := 3, constantValue := 0 }, { name := "serialVersionUID", type := .long, accessFlags := 26, slot := 4, constantValue := 0 }]
  methods := #[k33m0]
  instanceTypes := #[(.object "java/lang/Class"), (.object "java/lang/String"), (.object "java/lang/String"), (.object "java/lang/String"), (.object "java/lang/String"), (.object "java/lang/String"), (.object "java/lang/String"), .int, .byte]
  staticTypes := #[(.object "java/lang/String"), (.object "java/lang/String"), .byte, .byte, .long]
  resolved := Array.replicate 235 none
  statics := none }

/-- the primitive byte -/
def k34 : Class := { plain "byte" none with kind := .primitive 'B', accessFlags := 0x411 }
/-- [B -/
def k35 : Class := { plain "[B" (some 0) with kind := .array 34 .byte, interfaces := #[21, 2], accessFlags := 1041 }

/-- the primitive char -/
def k36 : Class := { plain "char" none with kind := .primitive 'C', accessFlags := 0x411 }
/-- [C -/
def k37 : Class := { plain "[C" (some 0) with kind := .array 36 .char, interfaces := #[21, 2], accessFlags := 1041 }

/-- the primitive int -/
def k38 : Class := { plain "int" none with kind := .primitive 'I', accessFlags := 0x411 }
/-- [I -/
def k39 : Class := { plain "[I" (some 0) with kind := .array 38 .int, interfaces := #[21, 2], accessFlags := 1041 }

/-- [Ljava/lang/Object; -/
def k40 : Class := { plain "[Ljava/lang/Object;" (some 0) with kind := .array 0 (.object "java/lang/Object"), interfaces := #[21, 2], accessFlags := 1041 }

/-- [Ljava/lang/StackTraceElement; -/
def k41 : Class := { plain "[Ljava/lang/StackTraceElement;" (some 0) with kind := .array 33 (.object "java/lang/StackTraceElement"), interfaces := #[21, 2], accessFlags := 1041 }

/-- [Ljava/lang/Throwable; -/
def k42 : Class := { plain "[Ljava/lang/Throwable;" (some 0) with kind := .array 9 (.object "java/lang/Throwable"), interfaces := #[21, 2], accessFlags := 1041 }

def heap : Heap := #[{ cls := 7, slots := #[.long 0, .int 1, .null, .int 0, .null, .int 0, .int 0], vm := .statics 7 },
  { cls := 9, slots := #[.long 0, .ref 4, .ref 5, .null, .null, .null, .null, .ref 6, .int 1], vm := .statics 9 },
  { cls := 22, slots := #[.null, .null, .null], vm := .statics 22 },
  { cls := 24, slots := #[.int 0, .int 0, .int 0, .int 0, .int 0, .int 0, .int 0, .int 0, .null, .null, .ref 5, .null], vm := .statics 24 },
  { cls := 41, slots := #[], vm := .none },
  { cls := 32, slots := #[.int 0], vm := .none },
  { cls := 42, slots := #[], vm := .none }]
def classes : Array Class := #[k0, k1, k2, k3, k4, k5, k6, k7, k8, k9, k10, k11, k12, k13, k14, k15, k16, k17, k18, k19, k20, k21, k22, k23, k24, k25, k26, k27, k28, k29, k30, k31, k32, k33, k34, k35, k36, k37, k38, k39, k40, k41, k42]
def interned : List (Array UInt16 × Addr) := []
def slotsUsed : Nat := 32
def theMethod : MethodId := ⟨1, 2⟩
def args0 : Array Value := #[.int 5, .int 65, .int 66, .int 67, .int 68]
def aboutOver (below : List Frame) : State where
  vm := { classes := classes, interned := interned.toArray }
  heap := heap
  slotsUsed := slotsUsed
  threads := #[{ frames := .invoking theMethod args0 :: below }]
def below0 : List Frame := [.native { method := ⟨0, 0⟩, args := #[] }]
def about1 : State := aboutOver below0
def p0 : Program := .bare "" "" ""
def e0 : Env := launch0.env 0 0 0
theorem w_frames : about1.frames = Frame.invoking theMethod args0 :: below0 := rfl
set_option maxRecDepth 65536 in
theorem w_args : argsFit about1.vm theMethod args0 = true := by decide +kernel
set_option maxRecDepth 65536 in
theorem w_heap : heapFits about1 = true := by decide +kernel
set_option maxRecDepth 65536 in
theorem w_runnable : about1.curStatus? = some .runnable := by decide +kernel
set_option maxRecDepth 65536 in
theorem w_alone : about1.alone = true := by decide +kernel
set_option maxRecDepth 65536 in
theorem w_named : about1.methodNamed? x = some theMethod := by decide +kernel
set_option maxRecDepth 65536 in
theorem w_hears : about1.hears theMethod below0 = true := by decide +kernel
set_option maxRecDepth 65536 in
theorem w_ripe : about1.ripe theMethod args0 below0 = true := by decide +kernel
theorem w_running : about1.status = .running := rfl
set_option maxRecDepth 65536 in
theorem w_room : about1.hasRoom e0.platform room_1 = true :=
  launch0.hasRoom_least _ room_1 (by decide +kernel) (by decide +kernel) (by decide +kernel) (by decide +kernel) (by decide +kernel) (by decide +kernel)
theorem allAtoms_all (ts : List Jvm.Cond) (a : Array Jvm.Value) (st : Jvm.State) : (allAtoms ts).before a st = ts.all (fun c => c.before a st) := by
  induction ts with
  | nil => rfl
  | cons c t ih =>
    show (Jvm.Cond.and c (allAtoms t)).before a st = _
    rw [Jvm.Cond.before_and, ih, List.all_cons]
def words1 : List Jvm.Cond := Jvm.Cond.code x code maxLocals ret :: tables_1
/-- a 'code' word, met by the world's own term for the bytes: nothing is compared byte by byte -/
theorem code_word {y : MethodName} {bytes : ByteArray} {mx : Nat} {rt : Option FieldType} {a : Array Value} {s : State} {m : MethodId} {meth : Method} {c : Code} (h1 : s.methodNamed? y = some m) (h2 : s.vm.method? m = some meth) (h3 : meth.code = some c) (h4 : c.code = bytes)
    (h5 : (c.maxLocals == mx && c.exceptionTable.isEmpty && decide (c.maxStack ≤ mostOperands) && decide (meth.sig.returnType = rt) && !meth.locks && decide (parseMethodDescriptor y.desc = some meth.sig)) = true) : (Jvm.Cond.code y bytes mx rt).before a s = true := by
  simp only [Bool.and_eq_true, beq_iff_eq, Bool.not_eq_true', decide_eq_true_eq] at h5
  obtain ⟨⟨⟨⟨⟨g1, g2⟩, g3⟩, g4⟩, g5⟩, g6⟩ := h5
  simp [Cond.before, Cond.holds, Cond.value, h1, h2, h3, h4, g1, g2, g3, g4, g5, g6]
def isCode : Jvm.Cond → Bool
  | .code _ _ _ _ => true
  | _ => false
theorem all_split {L : List Jvm.Cond} {P : Jvm.Cond → Bool} (h1 : L.all (fun c => isCode c || P c) = true) (h2 : ∀ c ∈ L.filter isCode, P c = true) : L.all P = true := by
  refine List.all_eq_true.mpr fun c hc => ?_
  have h := List.all_eq_true.mp h1 c hc
  rcases Bool.eq_false_or_eq_true (isCode c) with hi | hi
  · exact h2 c (List.mem_filter.mpr ⟨hc, hi⟩)
  · simpa [hi] using h
set_option maxRecDepth 65536 in
theorem w_c0 : (Jvm.Cond.code x code maxLocals ret).before args0 about1 = true := code_word (m := ⟨1, 2⟩) (meth := k1m2) (c := k1c2) (by decide +kernel) rfl rfl rfl (by decide +kernel)
set_option maxRecDepth 65536 in
theorem w_c1 : (Jvm.Cond.code ({ cls := "com/example/record_guard/recordguard/conflict/SerializationFailureExceptionNotInCallersSnapshotPinLaw", name := "mk", desc := "(ICCC)Ljava/lang/String;" } : Jvm.MethodName) method_2_code (4 : Nat) (Option.some (Jvm.ClassFile.FieldType.object "java/lang/String"))).before args0 about1 = true := code_word (m := ⟨1, 1⟩) (meth := k1m1) (c := k1c1) (by decide +kernel) rfl rfl rfl (by decide +kernel)
set_option maxRecDepth 65536 in
theorem w_c2 : (Jvm.Cond.code ({ cls := "java/lang/String", name := "<init>", desc := "([C)V" } : Jvm.MethodName) jdk_42_method_3_code (2 : Nat) (Option.none : Option Jvm.ClassFile.FieldType)).before args0 about1 = true := code_word (m := ⟨7, 1⟩) (meth := k7m1) (c := k7c1) (by decide +kernel) rfl rfl rfl (by decide +kernel)
set_option maxRecDepth 65536 in
theorem w_c3 : (Jvm.Cond.code ({ cls := "java/lang/String", name := "<init>", desc := "([CIILjava/lang/Void;)V" } : Jvm.MethodName) jdk_42_method_149_code (6 : Nat) (Option.none : Option Jvm.ClassFile.FieldType)).before args0 about1 = true := code_word (m := ⟨7, 8⟩) (meth := k7m8) (c := k7c8) (by decide +kernel) rfl rfl rfl (by decide +kernel)
set_option maxRecDepth 65536 in
theorem w_c4 : (Jvm.Cond.code ({ cls := "java/lang/Object", name := "<init>", desc := "()V" } : Jvm.MethodName) object_method_1_code (1 : Nat) (Option.none : Option Jvm.ClassFile.FieldType)).before args0 about1 = true := code_word (m := ⟨0, 0⟩) (meth := k0m0) (c := k0c0) (by decide +kernel) rfl rfl rfl (by decide +kernel)
set_option maxRecDepth 65536 in
theorem w_c5 : (Jvm.Cond.code ({ cls := "java/lang/String", name := "valueOf", desc := "(C)Ljava/lang/String;" } : Jvm.MethodName) jdk_42_method_139_code (1 : Nat) (Option.some (Jvm.ClassFile.FieldType.object "java/lang/String"))).before args0 about1 = true := code_word (m := ⟨7, 6⟩) (meth := k7m6) (c := k7c6) (by decide +kernel) rfl rfl rfl (by decide +kernel)
set_option maxRecDepth 65536 in
theorem w_c6 : (Jvm.Cond.code ({ cls := "java/lang/StringLatin1", name := "canEncode", desc := "(C)Z" } : Jvm.MethodName) jdk_43_method_3_code (1 : Nat) (Option.some Jvm.ClassFile.FieldType.boolean)).before args0 about1 = true := code_word (m := ⟨8, 2⟩) (meth := k8m2) (c := k8c2) (by decide +kernel) rfl rfl rfl (by decide +kernel)
set_option maxRecDepth 65536 in
theorem w_c7 : (Jvm.Cond.code ({ cls := "java/lang/StringLatin1", name := "toBytes", desc := "(C)[B" } : Jvm.MethodName) jdk_43_method_46_code (1 : Nat) (Option.some (Jvm.ClassFile.FieldType.array Jvm.ClassFile.FieldType.byte))).before args0 about1 = true := code_word (m := ⟨8, 4⟩) (meth := k8m4) (c := k8c4) (by decide +kernel) rfl rfl rfl (by decide +kernel)
set_option maxRecDepth 65536 in
theorem w_c8 : (Jvm.Cond.code ({ cls := "java/lang/String", name := "<init>", desc := "([BB)V" } : Jvm.MethodName) jdk_42_method_151_code (3 : Nat) (Option.none : Option Jvm.ClassFile.FieldType)).before args0 about1 = true := code_word (m := ⟨7, 10⟩) (meth := k7m10) (c := k7c10) (by decide +kernel) rfl rfl rfl (by decide +kernel)
set_option maxRecDepth 65536 in
theorem w_c9 : (Jvm.Cond.code ({ cls := "com/example/record_guard/recordguard/conflict/SerializationFailureException", name := "notInCallersSnapshot", desc := "(Ljava/lang/String;)Lcom/example/record_guard/recordguard/conflict/SerializationFailureException;" } : Jvm.MethodName) prog_64_method_4_code (1 : Nat) (Option.some (Jvm.ClassFile.FieldType.object "com/example/record_guard/recordguard/conflict/SerializationFailureException"))).before args0 about1 = true := code_word (m := ⟨13, 2⟩) (meth := k13m2) (c := k13c2) (by decide +kernel) rfl rfl rfl (by decide +kernel)
set_option maxRecDepth 65536 in
theorem w_c10 : (Jvm.Cond.code ({ cls := "java/lang/StringBuilder", name := "<init>", desc := "()V" } : Jvm.MethodName) jdk_67_method_1_code (1 : Nat) (Option.none : Option Jvm.ClassFile.FieldType)).before args0 about1 = true := code_word (m := ⟨16, 0⟩) (meth := k16m0) (c := k16c0) (by decide +kernel) rfl rfl rfl (by decide +kernel)
set_option maxRecDepth 65536 in
theorem w_c11 : (Jvm.Cond.code ({ cls := "java/lang/AbstractStringBuilder", name := "<init>", desc := "(I)V" } : Jvm.MethodName) jdk_68_method_2_code (2 : Nat) (Option.none : Option Jvm.ClassFile.FieldType)).before args0 about1 = true := code_word (m := ⟨15, 1⟩) (meth := k15m1) (c := k15c1) (by decide +kernel) rfl rfl rfl (by decide +kernel)
set_option maxRecDepth 65536 in
theorem w_c12 : (Jvm.Cond.code ({ cls := "java/lang/StringBuilder", name := "append", desc := "(Ljava/lang/String;)Ljava/lang/StringBuilder;" } : Jvm.MethodName) jdk_67_method_7_code (2 : Nat) (Option.some (Jvm.ClassFile.FieldType.object "java/lang/StringBuilder"))).before args0 about1 = true := code_word (m := ⟨16, 1⟩) (meth := k16m1) (c := k16c1) (by decide +kernel) rfl rfl rfl (by decide +kernel)
set_option maxRecDepth 65536 in
theorem w_c13 : (Jvm.Cond.code ({ cls := "java/lang/AbstractStringBuilder", name := "append", desc := "(Ljava/lang/String;)Ljava/lang/AbstractStringBuilder;" } : Jvm.MethodName) jdk_68_method_22_code (3 : Nat) (Option.some (Jvm.ClassFile.FieldType.object "java/lang/AbstractStringBuilder"))).before args0 about1 = true := code_word (m := ⟨15, 5⟩) (meth := k15m5) (c := k15c5) (by decide +kernel) rfl rfl rfl (by decide +kernel)
set_option maxRecDepth 65536 in
theorem w_c14 : (Jvm.Cond.code ({ cls := "java/lang/String", name := "length", desc := "()I" } : Jvm.MethodName) jdk_42_method_54_code (1 : Nat) (Option.some Jvm.ClassFile.FieldType.int)).before args0 about1 = true := code_word (m := ⟨7, 3⟩) (meth := k7m3) (c := k7c3) (by decide +kernel) rfl rfl rfl (by decide +kernel)
set_option maxRecDepth 65536 in
theorem w_c15 : (Jvm.Cond.code ({ cls := "java/lang/String", name := "coder", desc := "()B" } : Jvm.MethodName) jdk_42_method_152_code (1 : Nat) (Option.some Jvm.ClassFile.FieldType.byte)).before args0 about1 = true := code_word (m := ⟨7, 11⟩) (meth := k7m11) (c := k7c11) (by decide +kernel) rfl rfl rfl (by decide +kernel)
set_option maxRecDepth 65536 in
theorem w_c16 : (Jvm.Cond.code ({ cls := "java/lang/AbstractStringBuilder", name := "ensureCapacityInternal", desc := "(I)V" } : Jvm.MethodName) jdk_68_method_9_code (3 : Nat) (Option.none : Option Jvm.ClassFile.FieldType)).before args0 about1 = true := code_word (m := ⟨15, 3⟩) (meth := k15m3) (c := k15c3) (by decide +kernel) rfl rfl rfl (by decide +kernel)
set_option maxRecDepth 65536 in
theorem w_c17 : (Jvm.Cond.code ({ cls := "java/lang/AbstractStringBuilder", name := "putStringAt", desc := "(ILjava/lang/String;)V" } : Jvm.MethodName) jdk_68_method_73_code (3 : Nat) (Option.none : Option Jvm.ClassFile.FieldType)).before args0 about1 = true := code_word (m := ⟨15, 9⟩) (meth := k15m9) (c := k15c9) (by decide +kernel) rfl rfl rfl (by decide +kernel)
set_option maxRecDepth 65536 in
theorem w_c18 : (Jvm.Cond.code ({ cls := "java/lang/AbstractStringBuilder", name := "inflateIfNeededFor", desc := "(Ljava/lang/String;)V" } : Jvm.MethodName) jdk_68_method_71_code (2 : Nat) (Option.none : Option Jvm.ClassFile.FieldType)).before args0 about1 = true := code_word (m := ⟨15, 8⟩) (meth := k15m8) (c := k15c8) (by decide +kernel) rfl rfl rfl (by decide +kernel)
set_option maxRecDepth 65536 in
theorem w_c19 : (Jvm.Cond.code ({ cls := "java/lang/String", name := "getBytes", desc := "([BIB)V" } : Jvm.MethodName) jdk_42_method_147_code (4 : Nat) (Option.none : Option Jvm.ClassFile.FieldType)).before args0 about1 = true := code_word (m := ⟨7, 7⟩) (meth := k7m7) (c := k7c7) (by decide +kernel) rfl rfl rfl (by decide +kernel)
set_option maxRecDepth 65536 in
theorem w_c20 : (Jvm.Cond.code ({ cls := "java/lang/AbstractStringBuilder", name := "newCapacity", desc := "(I)I" } : Jvm.MethodName) jdk_68_method_10_code (6 : Nat) (Option.some Jvm.ClassFile.FieldType.int)).before args0 about1 = true := code_word (m := ⟨15, 4⟩) (meth := k15m4) (c := k15c4) (by decide +kernel) rfl rfl rfl (by decide +kernel)
set_option maxRecDepth 65536 in
theorem w_c21 : (Jvm.Cond.code ({ cls := "jdk/internal/util/ArraysSupport", name := "newLength", desc := "(III)I" } : Jvm.MethodName) jdk_48_method_27_code (4 : Nat) (Option.some Jvm.ClassFile.FieldType.int)).before args0 about1 = true := code_word (m := ⟨18, 1⟩) (meth := k18m1) (c := k18c1) (by decide +kernel) rfl rfl rfl (by decide +kernel)
set_option maxRecDepth 65536 in
theorem w_c22 : (Jvm.Cond.code ({ cls := "java/lang/Math", name := "max", desc := "(II)I" } : Jvm.MethodName) jdk_29_method_65_code (2 : Nat) (Option.some Jvm.ClassFile.FieldType.int)).before args0 about1 = true := code_word (m := ⟨19, 1⟩) (meth := k19m1) (c := k19c1) (by decide +kernel) rfl rfl rfl (by decide +kernel)
set_option maxRecDepth 65536 in
theorem w_c23 : (Jvm.Cond.code ({ cls := "java/util/Arrays", name := "copyOf", desc := "([BI)[B" } : Jvm.MethodName) jdk_65_method_121_code (3 : Nat) (Option.some (Jvm.ClassFile.FieldType.array Jvm.ClassFile.FieldType.byte))).before args0 about1 = true := code_word (m := ⟨20, 1⟩) (meth := k20m1) (c := k20c1) (by decide +kernel) rfl rfl rfl (by decide +kernel)
set_option maxRecDepth 65536 in
theorem w_c24 : (Jvm.Cond.code ({ cls := "java/lang/Math", name := "min", desc := "(II)I" } : Jvm.MethodName) jdk_29_method_69_code (2 : Nat) (Option.some Jvm.ClassFile.FieldType.int)).before args0 about1 = true := code_word (m := ⟨19, 2⟩) (meth := k19m2) (c := k19c2) (by decide +kernel) rfl rfl rfl (by decide +kernel)
set_option maxRecDepth 65536 in
theorem w_c25 : (Jvm.Cond.code ({ cls := "java/lang/StringBuilder", name := "toString", desc := "()Ljava/lang/String;" } : Jvm.MethodName) jdk_67_method_42_code (1 : Nat) (Option.some (Jvm.ClassFile.FieldType.object "java/lang/String"))).before args0 about1 = true := code_word (m := ⟨16, 2⟩) (meth := k16m2) (c := k16c2) (by decide +kernel) rfl rfl rfl (by decide +kernel)
set_option maxRecDepth 65536 in
theorem w_c26 : (Jvm.Cond.code ({ cls := "java/lang/String", name := "<init>", desc := "(Ljava/lang/StringBuilder;)V" } : Jvm.MethodName) jdk_42_method_53_code (2 : Nat) (Option.none : Option Jvm.ClassFile.FieldType)).before args0 about1 = true := code_word (m := ⟨7, 2⟩) (meth := k7m2) (c := k7c2) (by decide +kernel) rfl rfl rfl (by decide +kernel)
set_option maxRecDepth 65536 in
theorem w_c27 : (Jvm.Cond.code ({ cls := "java/lang/String", name := "<init>", desc := "(Ljava/lang/AbstractStringBuilder;Ljava/lang/Void;)V" } : Jvm.MethodName) jdk_42_method_150_code (5 : Nat) (Option.none : Option Jvm.ClassFile.FieldType)).before args0 about1 = true := code_word (m := ⟨7, 9⟩) (meth := k7m9) (c := k7c9) (by decide +kernel) rfl rfl rfl (by decide +kernel)
set_option maxRecDepth 65536 in
theorem w_c28 : (Jvm.Cond.code ({ cls := "java/lang/AbstractStringBuilder", name := "getValue", desc := "()[B" } : Jvm.MethodName) jdk_68_method_64_code (1 : Nat) (Option.some (Jvm.ClassFile.FieldType.array Jvm.ClassFile.FieldType.byte))).before args0 about1 = true := code_word (m := ⟨15, 6⟩) (meth := k15m6) (c := k15c6) (by decide +kernel) rfl rfl rfl (by decide +kernel)
set_option maxRecDepth 65536 in
theorem w_c29 : (Jvm.Cond.code ({ cls := "java/lang/StringBuilder", name := "length", desc := "()I" } : Jvm.MethodName) jdk_67_method_93_code (1 : Nat) (Option.some Jvm.ClassFile.FieldType.int)).before args0 about1 = true := code_word (m := ⟨16, 3⟩) (meth := k16m3) (c := k16c3) (by decide +kernel) rfl rfl rfl (by decide +kernel)
set_option maxRecDepth 65536 in
theorem w_c30 : (Jvm.Cond.code ({ cls := "java/lang/AbstractStringBuilder", name := "length", desc := "()I" } : Jvm.MethodName) jdk_68_method_6_code (1 : Nat) (Option.some Jvm.ClassFile.FieldType.int)).before args0 about1 = true := code_word (m := ⟨15, 2⟩) (meth := k15m2) (c := k15c2) (by decide +kernel) rfl rfl rfl (by decide +kernel)
set_option maxRecDepth 65536 in
theorem w_c31 : (Jvm.Cond.code ({ cls := "java/lang/AbstractStringBuilder", name := "isLatin1", desc := "()Z" } : Jvm.MethodName) jdk_68_method_68_code (1 : Nat) (Option.some Jvm.ClassFile.FieldType.boolean)).before args0 about1 = true := code_word (m := ⟨15, 7⟩) (meth := k15m7) (c := k15c7) (by decide +kernel) rfl rfl rfl (by decide +kernel)
set_option maxRecDepth 65536 in
theorem w_c32 : (Jvm.Cond.code ({ cls := "java/util/Arrays", name := "copyOfRange", desc := "([BII)[B" } : Jvm.MethodName) jdk_65_method_132_code (3 : Nat) (Option.some (Jvm.ClassFile.FieldType.array Jvm.ClassFile.FieldType.byte))).before args0 about1 = true := code_word (m := ⟨20, 2⟩) (meth := k20m2) (c := k20c2) (by decide +kernel) rfl rfl rfl (by decide +kernel)
set_option maxRecDepth 65536 in
theorem w_c33 : (Jvm.Cond.code ({ cls := "com/example/record_guard/recordguard/conflict/SerializationFailureException", name := "<init>", desc := "(Ljava/lang/String;)V" } : Jvm.MethodName) prog_64_method_2_code (2 : Nat) (Option.none : Option Jvm.ClassFile.FieldType)).before args0 about1 = true := code_word (m := ⟨13, 0⟩) (meth := k13m0) (c := k13c0) (by decide +kernel) rfl rfl rfl (by decide +kernel)
set_option maxRecDepth 65536 in
theorem w_c34 : (Jvm.Cond.code ({ cls := "com/example/record_guard/recordguard/conflict/ConcurrencyException", name := "<init>", desc := "(Ljava/lang/String;)V" } : Jvm.MethodName) prog_58_method_1_code (2 : Nat) (Option.none : Option Jvm.ClassFile.FieldType)).before args0 about1 = true := code_word (m := ⟨12, 0⟩) (meth := k12m0) (c := k12c0) (by decide +kernel) rfl rfl rfl (by decide +kernel)
set_option maxRecDepth 65536 in
theorem w_c35 : (Jvm.Cond.code ({ cls := "java/lang/RuntimeException", name := "<init>", desc := "(Ljava/lang/String;)V" } : Jvm.MethodName) jdk_58_method_2_code (2 : Nat) (Option.none : Option Jvm.ClassFile.FieldType)).before args0 about1 = true := code_word (m := ⟨11, 1⟩) (meth := k11m1) (c := k11c1) (by decide +kernel) rfl rfl rfl (by decide +kernel)
set_option maxRecDepth 65536 in
theorem w_c36 : (Jvm.Cond.code ({ cls := "java/lang/Exception", name := "<init>", desc := "(Ljava/lang/String;)V" } : Jvm.MethodName) jdk_59_method_2_code (2 : Nat) (Option.none : Option Jvm.ClassFile.FieldType)).before args0 about1 = true := code_word (m := ⟨10, 1⟩) (meth := k10m1) (c := k10c1) (by decide +kernel) rfl rfl rfl (by decide +kernel)
set_option maxRecDepth 65536 in
theorem w_c37 : (Jvm.Cond.code ({ cls := "java/lang/Throwable", name := "<init>", desc := "(Ljava/lang/String;)V" } : Jvm.MethodName) jdk_78_method_2_code (2 : Nat) (Option.none : Option Jvm.ClassFile.FieldType)).before args0 about1 = true := code_word (m := ⟨9, 1⟩) (meth := k9m1) (c := k9c1) (by decide +kernel) rfl rfl rfl (by decide +kernel)
set_option maxRecDepth 65536 in
theorem w_c38 : (Jvm.Cond.code ({ cls := "java/lang/Throwable", name := "<init>", desc := "()V" } : Jvm.MethodName) jdk_78_method_1_code (1 : Nat) (Option.none : Option Jvm.ClassFile.FieldType)).before args0 about1 = true := code_word (m := ⟨9, 0⟩) (meth := k9m0) (c := k9c0) (by decide +kernel) rfl rfl rfl (by decide +kernel)
set_option maxRecDepth 65536 in
theorem w_c39 : (Jvm.Cond.code ({ cls := "com/example/record_guard/recordguard/conflict/SerializationFailureException", name := "notInSnapshot", desc := "(Ljava/lang/String;)Lcom/example/record_guard/recordguard/conflict/SerializationFailureException;" } : Jvm.MethodName) prog_64_method_3_code (1 : Nat) (Option.some (Jvm.ClassFile.FieldType.object "com/example/record_guard/recordguard/conflict/SerializationFailureException"))).before args0 about1 = true := code_word (m := ⟨13, 1⟩) (meth := k13m1) (c := k13c1) (by decide +kernel) rfl rfl rfl (by decide +kernel)
set_option maxRecDepth 65536 in
theorem w_c40 : (Jvm.Cond.code ({ cls := "java/lang/Throwable", name := "getMessage", desc := "()Ljava/lang/String;" } : Jvm.MethodName) jdk_78_method_6_code (1 : Nat) (Option.some (Jvm.ClassFile.FieldType.object "java/lang/String"))).before args0 about1 = true := code_word (m := ⟨9, 2⟩) (meth := k9m2) (c := k9c2) (by decide +kernel) rfl rfl rfl (by decide +kernel)
set_option maxRecDepth 65536 in
theorem w_c41 : (Jvm.Cond.code ({ cls := "java/lang/String", name := "charAt", desc := "(I)C" } : Jvm.MethodName) jdk_42_method_56_code (2 : Nat) (Option.some Jvm.ClassFile.FieldType.char)).before args0 about1 = true := code_word (m := ⟨7, 4⟩) (meth := k7m4) (c := k7c4) (by decide +kernel) rfl rfl rfl (by decide +kernel)
set_option maxRecDepth 65536 in
theorem w_c42 : (Jvm.Cond.code ({ cls := "java/lang/String", name := "isLatin1", desc := "()Z" } : Jvm.MethodName) jdk_42_method_154_code (1 : Nat) (Option.some Jvm.ClassFile.FieldType.boolean)).before args0 about1 = true := code_word (m := ⟨7, 12⟩) (meth := k7m12) (c := k7c12) (by decide +kernel) rfl rfl rfl (by decide +kernel)
set_option maxRecDepth 65536 in
theorem w_c43 : (Jvm.Cond.code ({ cls := "java/lang/StringLatin1", name := "charAt", desc := "([BI)C" } : Jvm.MethodName) jdk_43_method_2_code (2 : Nat) (Option.some Jvm.ClassFile.FieldType.char)).before args0 about1 = true := code_word (m := ⟨8, 1⟩) (meth := k8m1) (c := k8c1) (by decide +kernel) rfl rfl rfl (by decide +kernel)
set_option maxRecDepth 65536 in
theorem w_c44 : (Jvm.Cond.code ({ cls := "java/lang/String", name := "checkIndex", desc := "(II)V" } : Jvm.MethodName) jdk_42_method_155_code (2 : Nat) (Option.none : Option Jvm.ClassFile.FieldType)).before args0 about1 = true := code_word (m := ⟨7, 13⟩) (meth := k7m13) (c := k7c13) (by decide +kernel) rfl rfl rfl (by decide +kernel)
set_option maxRecDepth 65536 in
theorem w_c45 : (Jvm.Cond.code ({ cls := "jdk/internal/util/Preconditions", name := "checkIndex", desc := "(IILjava/util/function/BiFunction;)I" } : Jvm.MethodName) jdk_41_method_11_code (3 : Nat) (Option.some Jvm.ClassFile.FieldType.int)).before args0 about1 = true := code_word (m := ⟨22, 1⟩) (meth := k22m1) (c := k22c1) (by decide +kernel) rfl rfl rfl (by decide +kernel)
set_option maxRecDepth 65536 in
theorem w_c46 : (Jvm.Cond.code ({ cls := "java/lang/String", name := "equals", desc := "(Ljava/lang/Object;)Z" } : Jvm.MethodName) jdk_42_method_66_code (3 : Nat) (Option.some Jvm.ClassFile.FieldType.boolean)).before args0 about1 = true := code_word (m := ⟨7, 5⟩) (meth := k7m5) (c := k7c5) (by decide +kernel) rfl rfl rfl (by decide +kernel)
set_option maxRecDepth 65536 in
theorem w_c47 : (Jvm.Cond.code ({ cls := "java/lang/StringLatin1", name := "equals", desc := "([B[B)Z" } : Jvm.MethodName) jdk_43_method_13_code (3 : Nat) (Option.some Jvm.ClassFile.FieldType.boolean)).before args0 about1 = true := code_word (m := ⟨8, 3⟩) (meth := k8m3) (c := k8c3) (by decide +kernel) rfl rfl rfl (by decide +kernel)
set_option maxRecDepth 65536 in
theorem w_c48 : (Jvm.Cond.code ({ cls := "java/lang/StringUTF16", name := "compress", desc := "([CII)[B" } : Jvm.MethodName) jdk_52_method_16_code (6 : Nat) (Option.some (Jvm.ClassFile.FieldType.array Jvm.ClassFile.FieldType.byte))).before args0 about1 = true := code_word (m := ⟨23, 2⟩) (meth := k23m2) (c := k23c2) (by decide +kernel) rfl rfl rfl (by decide +kernel)
set_option maxRecDepth 65536 in
theorem w_c49 : (Jvm.Cond.code ({ cls := "java/lang/StringUTF16", name := "compress", desc := "([CI[BII)I" } : Jvm.MethodName) jdk_52_method_21_code (7 : Nat) (Option.some Jvm.ClassFile.FieldType.int)).before args0 about1 = true := code_word (m := ⟨23, 3⟩) (meth := k23m3) (c := k23c3) (by decide +kernel) rfl rfl rfl (by decide +kernel)
set_option maxRecDepth 65536 in
theorem w_c50 : (Jvm.Cond.code ({ cls := "java/lang/StringUTF16", name := "coderFromArrayLen", desc := "([BI)B" } : Jvm.MethodName) jdk_52_method_15_code (2 : Nat) (Option.some Jvm.ClassFile.FieldType.byte)).before args0 about1 = true := code_word (m := ⟨23, 1⟩) (meth := k23m1) (c := k23c1) (by decide +kernel) rfl rfl rfl (by decide +kernel)
def codes1 : List Jvm.Cond := [Jvm.Cond.code x code maxLocals ret, Jvm.Cond.code ({ cls := "com/example/record_guard/recordguard/conflict/SerializationFailureExceptionNotInCallersSnapshotPinLaw", name := "mk", desc := "(ICCC)Ljava/lang/String;" } : Jvm.MethodName) method_2_code (4 : Nat) (Option.some (Jvm.ClassFile.FieldType.object "java/lang/String")), Jvm.Cond.code ({ cls := "java/lang/String", name := "<init>", desc := "([C)V" } : Jvm.MethodName) jdk_42_method_3_code (2 : Nat) (Option.none : Option Jvm.ClassFile.FieldType), Jvm.Cond.code ({ cls := "java/lang/String", name := "<init>", desc := "([CIILjava/lang/Void;)V" } : Jvm.MethodName) jdk_42_method_149_code (6 : Nat) (Option.none : Option Jvm.ClassFile.FieldType), Jvm.Cond.code ({ cls := "java/lang/Object", name := "<init>", desc := "()V" } : Jvm.MethodName) object_method_1_code (1 : Nat) (Option.none : Option Jvm.ClassFile.FieldType), Jvm.Cond.code ({ cls := "java/lang/String", name := "valueOf", desc := "(C)Ljava/lang/String;" } : Jvm.MethodName) jdk_42_method_139_code (1 : Nat) (Option.some (Jvm.ClassFile.FieldType.object "java/lang/String")), Jvm.Cond.code ({ cls := "java/lang/StringLatin1", name := "canEncode", desc := "(C)Z" } : Jvm.MethodName) jdk_43_method_3_code (1 : Nat) (Option.some Jvm.ClassFile.FieldType.boolean), Jvm.Cond.code ({ cls := "java/lang/StringLatin1", name := "toBytes", desc := "(C)[B" } : Jvm.MethodName) jdk_43_method_46_code (1 : Nat) (Option.some (Jvm.ClassFile.FieldType.array Jvm.ClassFile.FieldType.byte)), Jvm.Cond.code ({ cls := "java/lang/String", name := "<init>", desc := "([BB)V" } : Jvm.MethodName) jdk_42_method_151_code (3 : Nat) (Option.none : Option Jvm.ClassFile.FieldType), Jvm.Cond.code ({ cls := "com/example/record_guard/recordguard/conflict/SerializationFailureException", name := "notInCallersSnapshot", desc := "(Ljava/lang/String;)Lcom/example/record_guard/recordguard/conflict/SerializationFailureException;" } : Jvm.MethodName) prog_64_method_4_code (1 : Nat) (Option.some (Jvm.ClassFile.FieldType.object "com/example/record_guard/recordguard/conflict/SerializationFailureException")), Jvm.Cond.code ({ cls := "java/lang/StringBuilder", name := "<init>", desc := "()V" } : Jvm.MethodName) jdk_67_method_1_code (1 : Nat) (Option.none : Option Jvm.ClassFile.FieldType), Jvm.Cond.code ({ cls := "java/lang/AbstractStringBuilder", name := "<init>", desc := "(I)V" } : Jvm.MethodName) jdk_68_method_2_code (2 : Nat) (Option.none : Option Jvm.ClassFile.FieldType), Jvm.Cond.code ({ cls := "java/lang/StringBuilder", name := "append", desc := "(Ljava/lang/String;)Ljava/lang/StringBuilder;" } : Jvm.MethodName) jdk_67_method_7_code (2 : Nat) (Option.some (Jvm.ClassFile.FieldType.object "java/lang/StringBuilder")), Jvm.Cond.code ({ cls := "java/lang/AbstractStringBuilder", name := "append", desc := "(Ljava/lang/String;)Ljava/lang/AbstractStringBuilder;" } : Jvm.MethodName) jdk_68_method_22_code (3 : Nat) (Option.some (Jvm.ClassFile.FieldType.object "java/lang/AbstractStringBuilder")), Jvm.Cond.code ({ cls := "java/lang/String", name := "length", desc := "()I" } : Jvm.MethodName) jdk_42_method_54_code (1 : Nat) (Option.some Jvm.ClassFile.FieldType.int), Jvm.Cond.code ({ cls := "java/lang/String", name := "coder", desc := "()B" } : Jvm.MethodName) jdk_42_method_152_code (1 : Nat) (Option.some Jvm.ClassFile.FieldType.byte), Jvm.Cond.code ({ cls := "java/lang/AbstractStringBuilder", name := "ensureCapacityInternal", desc := "(I)V" } : Jvm.MethodName) jdk_68_method_9_code (3 : Nat) (Option.none : Option Jvm.ClassFile.FieldType), Jvm.Cond.code ({ cls := "java/lang/AbstractStringBuilder", name := "putStringAt", desc := "(ILjava/lang/String;)V" } : Jvm.MethodName) jdk_68_method_73_code (3 : Nat) (Option.none : Option Jvm.ClassFile.FieldType), Jvm.Cond.code ({ cls := "java/lang/AbstractStringBuilder", name := "inflateIfNeededFor", desc := "(Ljava/lang/String;)V" } : Jvm.MethodName) jdk_68_method_71_code (2 : Nat) (Option.none : Option Jvm.ClassFile.FieldType), Jvm.Cond.code ({ cls := "java/lang/String", name := "getBytes", desc := "([BIB)V" } : Jvm.MethodName) jdk_42_method_147_code (4 : Nat) (Option.none : Option Jvm.ClassFile.FieldType), Jvm.Cond.code ({ cls := "java/lang/AbstractStringBuilder", name := "newCapacity", desc := "(I)I" } : Jvm.MethodName) jdk_68_method_10_code (6 : Nat) (Option.some Jvm.ClassFile.FieldType.int), Jvm.Cond.code ({ cls := "jdk/internal/util/ArraysSupport", name := "newLength", desc := "(III)I" } : Jvm.MethodName) jdk_48_method_27_code (4 : Nat) (Option.some Jvm.ClassFile.FieldType.int), Jvm.Cond.code ({ cls := "java/lang/Math", name := "max", desc := "(II)I" } : Jvm.MethodName) jdk_29_method_65_code (2 : Nat) (Option.some Jvm.ClassFile.FieldType.int), Jvm.Cond.code ({ cls := "java/util/Arrays", name := "copyOf", desc := "([BI)[B" } : Jvm.MethodName) jdk_65_method_121_code (3 : Nat) (Option.some (Jvm.ClassFile.FieldType.array Jvm.ClassFile.FieldType.byte)), Jvm.Cond.code ({ cls := "java/lang/Math", name := "min", desc := "(II)I" } : Jvm.MethodName) jdk_29_method_69_code (2 : Nat) (Option.some Jvm.ClassFile.FieldType.int), Jvm.Cond.code ({ cls := "java/lang/StringBuilder", name := "toString", desc := "()Ljava/lang/String;" } : Jvm.MethodName) jdk_67_method_42_code (1 : Nat) (Option.some (Jvm.ClassFile.FieldType.object "java/lang/String")), Jvm.Cond.code ({ cls := "java/lang/String", name := "<init>", desc := "(Ljava/lang/StringBuilder;)V" } : Jvm.MethodName) jdk_42_method_53_code (2 : Nat) (Option.none : Option Jvm.ClassFile.FieldType), Jvm.Cond.code ({ cls := "java/lang/String", name := "<init>", desc := "(Ljava/lang/AbstractStringBuilder;Ljava/lang/Void;)V" } : Jvm.MethodName) jdk_42_method_150_code (5 : Nat) (Option.none : Option Jvm.ClassFile.FieldType), Jvm.Cond.code ({ cls := "java/lang/AbstractStringBuilder", name := "getValue", desc := "()[B" } : Jvm.MethodName) jdk_68_method_64_code (1 : Nat) (Option.some (Jvm.ClassFile.FieldType.array Jvm.ClassFile.FieldType.byte)), Jvm.Cond.code ({ cls := "java/lang/StringBuilder", name := "length", desc := "()I" } : Jvm.MethodName) jdk_67_method_93_code (1 : Nat) (Option.some Jvm.ClassFile.FieldType.int), Jvm.Cond.code ({ cls := "java/lang/AbstractStringBuilder", name := "length", desc := "()I" } : Jvm.MethodName) jdk_68_method_6_code (1 : Nat) (Option.some Jvm.ClassFile.FieldType.int), Jvm.Cond.code ({ cls := "java/lang/AbstractStringBuilder", name := "isLatin1", desc := "()Z" } : Jvm.MethodName) jdk_68_method_68_code (1 : Nat) (Option.some Jvm.ClassFile.FieldType.boolean), Jvm.Cond.code ({ cls := "java/util/Arrays", name := "copyOfRange", desc := "([BII)[B" } : Jvm.MethodName) jdk_65_method_132_code (3 : Nat) (Option.some (Jvm.ClassFile.FieldType.array Jvm.ClassFile.FieldType.byte)), Jvm.Cond.code ({ cls := "com/example/record_guard/recordguard/conflict/SerializationFailureException", name := "<init>", desc := "(Ljava/lang/String;)V" } : Jvm.MethodName) prog_64_method_2_code (2 : Nat) (Option.none : Option Jvm.ClassFile.FieldType), Jvm.Cond.code ({ cls := "com/example/record_guard/recordguard/conflict/ConcurrencyException", name := "<init>", desc := "(Ljava/lang/String;)V" } : Jvm.MethodName) prog_58_method_1_code (2 : Nat) (Option.none : Option Jvm.ClassFile.FieldType), Jvm.Cond.code ({ cls := "java/lang/RuntimeException", name := "<init>", desc := "(Ljava/lang/String;)V" } : Jvm.MethodName) jdk_58_method_2_code (2 : Nat) (Option.none : Option Jvm.ClassFile.FieldType), Jvm.Cond.code ({ cls := "java/lang/Exception", name := "<init>", desc := "(Ljava/lang/String;)V" } : Jvm.MethodName) jdk_59_method_2_code (2 : Nat) (Option.none : Option Jvm.ClassFile.FieldType), Jvm.Cond.code ({ cls := "java/lang/Throwable", name := "<init>", desc := "(Ljava/lang/String;)V" } : Jvm.MethodName) jdk_78_method_2_code (2 : Nat) (Option.none : Option Jvm.ClassFile.FieldType), Jvm.Cond.code ({ cls := "java/lang/Throwable", name := "<init>", desc := "()V" } : Jvm.MethodName) jdk_78_method_1_code (1 : Nat) (Option.none : Option Jvm.ClassFile.FieldType), Jvm.Cond.code ({ cls := "com/example/record_guard/recordguard/conflict/SerializationFailureException", name := "notInSnapshot", desc := "(Ljava/lang/String;)Lcom/example/record_guard/recordguard/conflict/SerializationFailureException;" } : Jvm.MethodName) prog_64_method_3_code (1 : Nat) (Option.some (Jvm.ClassFile.FieldType.object "com/example/record_guard/recordguard/conflict/SerializationFailureException")), Jvm.Cond.code ({ cls := "java/lang/Throwable", name := "getMessage", desc := "()Ljava/lang/String;" } : Jvm.MethodName) jdk_78_method_6_code (1 : Nat) (Option.some (Jvm.ClassFile.FieldType.object "java/lang/String")), Jvm.Cond.code ({ cls := "java/lang/String", name := "charAt", desc := "(I)C" } : Jvm.MethodName) jdk_42_method_56_code (2 : Nat) (Option.some Jvm.ClassFile.FieldType.char), Jvm.Cond.code ({ cls := "java/lang/String", name := "isLatin1", desc := "()Z" } : Jvm.MethodName) jdk_42_method_154_code (1 : Nat) (Option.some Jvm.ClassFile.FieldType.boolean), Jvm.Cond.code ({ cls := "java/lang/StringLatin1", name := "charAt", desc := "([BI)C" } : Jvm.MethodName) jdk_43_method_2_code (2 : Nat) (Option.some Jvm.ClassFile.FieldType.char), Jvm.Cond.code ({ cls := "java/lang/String", name := "checkIndex", desc := "(II)V" } : Jvm.MethodName) jdk_42_method_155_code (2 : Nat) (Option.none : Option Jvm.ClassFile.FieldType), Jvm.Cond.code ({ cls := "jdk/internal/util/Preconditions", name := "checkIndex", desc := "(IILjava/util/function/BiFunction;)I" } : Jvm.MethodName) jdk_41_method_11_code (3 : Nat) (Option.some Jvm.ClassFile.FieldType.int), Jvm.Cond.code ({ cls := "java/lang/String", name := "equals", desc := "(Ljava/lang/Object;)Z" } : Jvm.MethodName) jdk_42_method_66_code (3 : Nat) (Option.some Jvm.ClassFile.FieldType.boolean), Jvm.Cond.code ({ cls := "java/lang/StringLatin1", name := "equals", desc := "([B[B)Z" } : Jvm.MethodName) jdk_43_method_13_code (3 : Nat) (Option.some Jvm.ClassFile.FieldType.boolean), Jvm.Cond.code ({ cls := "java/lang/StringUTF16", name := "compress", desc := "([CII)[B" } : Jvm.MethodName) jdk_52_method_16_code (6 : Nat) (Option.some (Jvm.ClassFile.FieldType.array Jvm.ClassFile.FieldType.byte)), Jvm.Cond.code ({ cls := "java/lang/StringUTF16", name := "compress", desc := "([CI[BII)I" } : Jvm.MethodName) jdk_52_method_21_code (7 : Nat) (Option.some Jvm.ClassFile.FieldType.int), Jvm.Cond.code ({ cls := "java/lang/StringUTF16", name := "coderFromArrayLen", desc := "([BI)B" } : Jvm.MethodName) jdk_52_method_15_code (2 : Nat) (Option.some Jvm.ClassFile.FieldType.byte)]
set_option maxRecDepth 65536 in
theorem codes_eq : words1.filter isCode = codes1 := rfl
theorem w_codes : ∀ c ∈ words1.filter isCode, c.before args0 about1 = true := by
  rw [codes_eq]
  intro c hc
  simp only [codes1, List.mem_cons, List.not_mem_nil, or_false] at hc
  rcases hc with rfl | rfl | rfl | rfl | rfl | rfl | rfl | rfl | rfl | rfl | rfl | rfl | rfl | rfl | rfl | rfl | rfl | rfl | rfl | rfl | rfl | rfl | rfl | rfl | rfl | rfl | rfl | rfl | rfl | rfl | rfl | rfl | rfl | rfl | rfl | rfl | rfl | rfl | rfl | rfl | rfl | rfl | rfl | rfl | rfl | rfl | rfl | rfl | rfl | rfl | rfl
  · exact w_c0
  · exact w_c1
  · exact w_c2
  · exact w_c3
  · exact w_c4
  · exact w_c5
  · exact w_c6
  · exact w_c7
  · exact w_c8
  · exact w_c9
  · exact w_c10
  · exact w_c11
  · exact w_c12
  · exact w_c13
  · exact w_c14
  · exact w_c15
  · exact w_c16
  · exact w_c17
  · exact w_c18
  · exact w_c19
  · exact w_c20
  · exact w_c21
  · exact w_c22
  · exact w_c23
  · exact w_c24
  · exact w_c25
  · exact w_c26
  · exact w_c27
  · exact w_c28
  · exact w_c29
  · exact w_c30
  · exact w_c31
  · exact w_c32
  · exact w_c33
  · exact w_c34
  · exact w_c35
  · exact w_c36
  · exact w_c37
  · exact w_c38
  · exact w_c39
  · exact w_c40
  · exact w_c41
  · exact w_c42
  · exact w_c43
  · exact w_c44
  · exact w_c45
  · exact w_c46
  · exact w_c47
  · exact w_c48
  · exact w_c49
  · exact w_c50
set_option maxRecDepth 65536 in
theorem w_t1 : (words1.take 24).all (fun c => isCode c || c.before args0 about1) = true := by decide +kernel
set_option maxRecDepth 65536 in
theorem w_t2 : ((words1.drop 24).take 24).all (fun c => isCode c || c.before args0 about1) = true := by decide +kernel
set_option maxRecDepth 65536 in
theorem w_t3 : (((words1.drop 24).drop 24).take 24).all (fun c => isCode c || c.before args0 about1) = true := by decide +kernel
set_option maxRecDepth 65536 in
theorem w_t4 : ((((words1.drop 24).drop 24).drop 24).take 24).all (fun c => isCode c || c.before args0 about1) = true := by decide +kernel
set_option maxRecDepth 65536 in
theorem w_t5 : (((((words1.drop 24).drop 24).drop 24).drop 24).take 24).all (fun c => isCode c || c.before args0 about1) = true := by decide +kernel
set_option maxRecDepth 65536 in
theorem w_t6 : ((((((words1.drop 24).drop 24).drop 24).drop 24).drop 24).take 24).all (fun c => isCode c || c.before args0 about1) = true := by decide +kernel
set_option maxRecDepth 65536 in
theorem w_t7 : (((((((words1.drop 24).drop 24).drop 24).drop 24).drop 24).drop 24).take 24).all (fun c => isCode c || c.before args0 about1) = true := by decide +kernel
set_option maxRecDepth 65536 in
theorem w_t8 : ((((((((words1.drop 24).drop 24).drop 24).drop 24).drop 24).drop 24).drop 24).take 24).all (fun c => isCode c || c.before args0 about1) = true := by decide +kernel
set_option maxRecDepth 65536 in
theorem w_t9 : (((((((((words1.drop 24).drop 24).drop 24).drop 24).drop 24).drop 24).drop 24).drop 24).take 24).all (fun c => isCode c || c.before args0 about1) = true := by decide +kernel
set_option maxRecDepth 65536 in
theorem w_t10 : ((((((((((words1.drop 24).drop 24).drop 24).drop 24).drop 24).drop 24).drop 24).drop 24).drop 24).take 24).all (fun c => isCode c || c.before args0 about1) = true := by decide +kernel
set_option maxRecDepth 65536 in
theorem w_t11 : (((((((((((words1.drop 24).drop 24).drop 24).drop 24).drop 24).drop 24).drop 24).drop 24).drop 24).drop 24).take 24).all (fun c => isCode c || c.before args0 about1) = true := by decide +kernel
set_option maxRecDepth 65536 in
theorem w_t12 : ((((((((((((words1.drop 24).drop 24).drop 24).drop 24).drop 24).drop 24).drop 24).drop 24).drop 24).drop 24).drop 24).take 24).all (fun c => isCode c || c.before args0 about1) = true := by decide +kernel
set_option maxRecDepth 65536 in
theorem w_t13 : ((((((((((((words1.drop 24).drop 24).drop 24).drop 24).drop 24).drop 24).drop 24).drop 24).drop 24).drop 24).drop 24).drop 24).all (fun c => isCode c || c.before args0 about1) = true := by decide +kernel
theorem w_tables : (allAtoms (Jvm.Cond.code x code maxLocals ret :: tables_1)).before args0 about1 = true := by
  rw [allAtoms_all]
  show words1.all (fun c => c.before args0 about1) = true
  refine all_split ?_ w_codes
  rw [← List.take_append_drop 24 words1, List.all_append, w_t1, ← List.take_append_drop 24 (words1.drop 24), List.all_append, w_t2, ← List.take_append_drop 24 ((words1.drop 24).drop 24), List.all_append, w_t3, ← List.take_append_drop 24 (((words1.drop 24).drop 24).drop 24), List.all_append, w_t4, ← List.take_append_drop 24 ((((words1.drop 24).drop 24).drop 24).drop 24), List.all_append, w_t5, ← List.take_append_drop 24 (((((words1.drop 24).drop 24).drop 24).drop 24).drop 24), List.all_append, w_t6, ← List.take_append_drop 24 ((((((words1.drop 24).drop 24).drop 24).drop 24).drop 24).drop 24), List.all_append, w_t7, ← List.take_append_drop 24 (((((((words1.drop 24).drop 24).drop 24).drop 24).drop 24).drop 24).drop 24), List.all_append, w_t8, ← List.take_append_drop 24 ((((((((words1.drop 24).drop 24).drop 24).drop 24).drop 24).drop 24).drop 24).drop 24), List.all_append, w_t9, ← List.take_append_drop 24 (((((((((words1.drop 24).drop 24).drop 24).drop 24).drop 24).drop 24).drop 24).drop 24).drop 24), List.all_append, w_t10, ← List.take_append_drop 24 ((((((((((words1.drop 24).drop 24).drop 24).drop 24).drop 24).drop 24).drop 24).drop 24).drop 24).drop 24), List.all_append, w_t11, ← List.take_append_drop 24 (((((((((((words1.drop 24).drop 24).drop 24).drop 24).drop 24).drop 24).drop 24).drop 24).drop 24).drop 24).drop 24), List.all_append, w_t12, w_t13]
  rfl
set_option maxRecDepth 65536 in
theorem w_rest : rest_1_c.before args0 about1 = true := by decide +kernel
set_option maxRecDepth 65536 in
theorem w_case : (Jvm.Cond.and given_1 narrow_1).before args0 about1 = true := by decide +kernel
set_option maxRecDepth 65536 in
theorem w_consts : constsHeld consts_1 about1 := Jvm.Lit.constsHeldB_iff.mp (by decide +kernel)
theorem w_applies : (headSpec (Jvm.Cond.code x code maxLocals ret :: tables_1) room_1).applies x e0.platform about1 = true :=
  (Spec.applies_iff w_frames).mpr ⟨w_running, w_runnable, w_alone, w_named, w_hears, w_ripe, w_room, w_tables⟩
theorem atStart : AtStart classFile x code maxLocals ret World_1 tables_1 room_1 Calls_1 rest_1 Pre_1 launch0 p0 e0 about1 theMethod args0 below0 :=
  ⟨lists_1, trivial, launch0.admits_env _ _ _, launch0.least_env, fairChoices_fair.cas, fairChoices_fair.clock, w_frames, w_args, w_heap, w_applies, ⟨(by decide +kernel : framesKnown about1 = true), ⟨(by decide +kernel : tablesKnown about1 = true), ⟨w_consts, trivial⟩⟩⟩, w_rest, w_case⟩
end start1
theorem witness_1 : WitnessClaimed_1 := ⟨start1.p0, start1.e0, start1.about1, start1.theMethod, start1.args0, start1.below0, start1.atStart⟩
end Jvm.Pilot.@@N@@
