import JvmDerived
import JvmDerived.Pilot.@@N@@Statement
import JvmDerived.Pilot.@@N@@Code
set_option linter.unusedVariables false
set_option linter.unusedSimpArgs false
namespace Jvm.RoadKit
open Sem ClassFile Op Lib Jvm.Stand Jvm.Free Jvm.LawKit
section OwnKit
/-- what stands fast while one body is walked -/
def own_Cx (p : Program) (l : Launch) (e : Env) (R : Room) (s : State) (m : MethodId) (args : Array Value) (below : List Frame) (meth : Method) (c : Code) (Z : State) (own nm : String) (bytes : ByteArray) (maxL : Nat) (ret : Option FieldType) : Prop :=
  p.tables.exec = Jvm.exec ∧ Z.Warmed39 s.vm ∧ s.vm.findClass own = some m.cls ∧ c.code = bytes ∧ c.maxLocals = maxL ∧ meth.sig.returnType = ret ∧ meth.locks = false ∧ meth.name = nm
/-- from here the body comes to its end, and Q holds of what it returns and of the heap -/
def own_Go (p : Program) (l : Launch) (e : Env) (R : Room) (s : State) (m : MethodId) (args : Array Value) (below : List Frame) (meth : Method) (c : Code) (n0 : Nat) (Q : Option Value → State → List Loc → Prop) (cells slots : Nat) (h : Heap) (pc : Nat) (Ls : List Slot) (st : List Value) : Prop :=
  ∀ (T : State) (locs : List Loc) (ce sl : Nat), ce ≤ cells → sl ≤ slots → Fr n0 locs → Stand p l e R s m args below meth c T locs ce sl → T.heap = h →
    ∃ s₂ o, Steps p.tables e below (T.setTop (mkF m pc Ls.toArray st)) s₂ ∧ s₂.status = .running ∧ Ended s₂ below o ∧ ∃ v L, o = .returned v ∧ Q v s₂ L
/-- the plain end: what is returned, the heap, what was written, the frame -/
def own_N (s : State) (n0 : Nat) (R : Room) (Q : Option Value → Heap → Prop) (v : Option Value) (t : State) (L : List Loc) : Prop := (Q v t.heap ∧ Fr n0 L) ∧ FrameEnd s (.returned v) t L R.cells R.slots
/-- an instruction and the place behind it -/
def own_D (bytes : ByteArray) (pc : Nat) (i : Instr) (n pn : Nat) : Prop := decode bytes pc = .ok (i, n) ∧ pc + n = pn
/-- where a branch leads -/
def own_T (pc : Nat) (o : Int) (pt : Nat) : Prop := 0 ≤ (pc : Int) + o ∧ ((pc : Int) + o).toNat = pt
/-- a body's contract, over the start's tables Z and the heap h -/
def own_Con (l : Launch) (Z : State) (y : MethodName) (bytes : ByteArray) (maxL : Nat) (ret : Option FieldType) (rm : Room) (n0 : Nat) (as' : List Value) (h : Heap) (Q : Option Value → Heap → Prop) : Prop :=
  ∀ ws : List Jvm.Cond, MetFree l y (head1 (Jvm.Cond.code y bytes maxL ret :: ws) rm) (fun a U => a = as'.toArray ∧ Z.Warmed39 U.vm ∧ U.heap = h) (fun _ _ _ _ _ => True) (fun _ U o U' => ∃ v L, o = .returned v ∧ (Q v U'.heap ∧ Fr n0 L) ∧ FrameEnd U o U' L rm.cells rm.slots)
variable {p : Program} {l : Launch} {e : Env} {R : Room} {s : State} {m : MethodId} {args : Array Value} {below : List Frame} {meth : Method} {c : Code} {Z : State} {a0 : Array Value} {h : Heap} {own nm : String} {bytes : ByteArray} {maxL : Nat} {ret : Option FieldType} {n0 cells slots pc pn pt : Nat} {Q : Option Value → State → List Loc → Prop} {Qn : Option Value → Heap → Prop} {Ls : List Slot} {st rest : List Value}
theorem own_Con.mk {y : MethodName} {rm : Room} {as' : List Value} (hpn : plainFor y = true) (hef : ∀ m, entryFrame m as'.toArray maxL = mkF m 0 Ls.toArray [])
    (body : ∀ p e s m below meth c, own_Cx p l e rm s m as'.toArray below meth c Z y.cls y.name bytes maxL ret → own_Go p l e rm s m as'.toArray below meth c n0 (own_N s n0 rm Qn) 0 0 h 0 Ls []) : own_Con l Z y bytes maxL ret rm n0 as' h Qn := by
  intro ws
  refine MetFree.of_bodySF hpn hisR ?_
  intro p e s m args below meth c s₁ Bd hml0 hP hK
  obtain ⟨rfl, hZ, hh⟩ := hP
  have X0 : Stand p l e rm s m as'.toArray below meth c s₁ [] 0 0 := Stand.of_body Bd
  have e0 : s₁.heap = h := by rw [← hh, Bd.state]; rfl
  obtain ⟨s₂, o, h1, h2, h3, v, L, rfl, h4⟩ := body p e s m below meth c ⟨Bd.exec, hZ, findClass_of_methodNamed Bd.named, Bd.bytes, hml0, Bd.returns, Bd.notSynchronized, (name_of_methodNamed Bd.named Bd.method).1⟩ s₁ [] 0 0 (Nat.le_refl _) (Nat.le_refl _) (Fr.nil n0) X0 e0
  exact ⟨s₂, _, castTop (hef m) h1, h2, h3, v, L, rfl, h4⟩
theorem own_Con.imp {y : MethodName} {rm : Room} {as' : List Value} {Q' : Option Value → Heap → Prop} (K : own_Con l Z y bytes maxL ret rm n0 as' h Qn) (q : ∀ v h', Qn v h' → Q' v h') : own_Con l Z y bytes maxL ret rm n0 as' h Q' := by
  intro ws p e ha hc hk s m args below hf happ hP hK
  obtain ⟨n, o, h1, h2, h3, v, L, h4, h5, h6⟩ := K ws p e ha hc hk s m args below hf happ hP hK
  exact ⟨n, o, h1, h2, h3, v, L, h4, ⟨q _ _ h5.1, h5.2⟩, h6⟩
theorem own_step {pc' : Nat} {Ls' : List Slot} {st' : List Value} (H : ∀ (T : State) (locs : List Loc) (ce sl : Nat), Stand p l e R s m args below meth c T locs ce sl → ∀ target, Steps p.tables e below (T.setTop (mkF m pc' Ls'.toArray st')) target → Steps p.tables e below (T.setTop (mkF m pc Ls.toArray st)) target)
    (k : own_Go p l e R s m args below meth c n0 Q cells slots h pc' Ls' st') : own_Go p l e R s m args below meth c n0 Q cells slots h pc Ls st := by
  intro T locs ce sl hc hs hf X eT
  obtain ⟨s₂, o, h1, h2⟩ := k T locs ce sl hc hs hf X eT
  exact ⟨s₂, o, H T locs ce sl X _ h1, h2⟩
theorem own_warm {pc' : Nat} {Ls' : List Slot} {st' : List Value} (H : ∀ (T : State) (locs : List Loc) (ce sl : Nat), Stand p l e R s m args below meth c T locs ce sl → T.heap = h → ∃ T', Stand p l e R s m args below meth c T' locs ce sl ∧ T'.heap = h ∧ ∀ target, Steps p.tables e below (T'.setTop (mkF m pc' Ls'.toArray st')) target → Steps p.tables e below (T.setTop (mkF m pc Ls.toArray st)) target)
    (k : own_Go p l e R s m args below meth c n0 Q cells slots h pc' Ls' st') : own_Go p l e R s m args below meth c n0 Q cells slots h pc Ls st := by
  intro T locs ce sl hc hs hf X eT
  obtain ⟨T', X', eT', H'⟩ := H T locs ce sl X eT
  obtain ⟨s₂, o, h1, h2⟩ := k T' locs ce sl hc hs hf X' eT'
  exact ⟨s₂, o, H' _ h1, h2⟩
theorem own_Go.more {cells' slots' : Nat} (hc : cells ≤ cells') (hs : slots ≤ slots') (k : own_Go p l e R s m args below meth c n0 Q cells' slots' h pc Ls st) : own_Go p l e R s m args below meth c n0 Q cells slots h pc Ls st :=
  fun T locs ce sl h1 h2 hf X eT => k T locs ce sl (Nat.le_trans h1 hc) (Nat.le_trans h2 hs) hf X eT
theorem own_Go.cast {pc' : Nat} {Ls' : List Slot} {st' : List Value} (k : own_Go p l e R s m args below meth c n0 Q cells slots h pc' Ls' st') (e1 : pc = pc' := by rfl) (e2 : Ls = Ls' := by rfl) (e3 : st = st' := by rfl) : own_Go p l e R s m args below meth c n0 Q cells slots h pc Ls st := by
  subst e1 e2 e3; exact k
theorem own_aloadN (C : own_Cx p l e R s m args below meth c Z own nm bytes maxL ret) {i : Fin 4} {v : Value} (d : own_D bytes pc (.aload_n i) 1 pn) (hl : Ls[i.val]? = some (.val v)) (hv : v.isRef = true) (k : own_Go p l e R s m args below meth c n0 Q cells slots h pn Ls (v :: st)) : own_Go p l e R s m args below meth c n0 Q cells slots h pc Ls st := by
  obtain ⟨hd, rfl⟩ := d
  exact own_step (fun T locs ce sl X t r => XS.aloadN X.here C.1 rfl (hb C.2.2.2.1 hd) (by simpa using hl) hv r) k
theorem own_aload (C : own_Cx p l e R s m args below meth c Z own nm bytes maxL ret) {i : Nat} {v : Value} (d : own_D bytes pc (.aload i) 2 pn) (hl : Ls[i]? = some (.val v)) (hv : v.isRef = true) (k : own_Go p l e R s m args below meth c n0 Q cells slots h pn Ls (v :: st)) : own_Go p l e R s m args below meth c n0 Q cells slots h pc Ls st := by
  obtain ⟨hd, rfl⟩ := d
  exact own_step (fun T locs ce sl X t r => XS.aload X.here C.1 rfl (hb C.2.2.2.1 hd) (by simpa using hl) hv r) k
theorem own_iloadN (C : own_Cx p l e R s m args below meth c Z own nm bytes maxL ret) {i : Fin 4} {v : Int32} (d : own_D bytes pc (.iload_n i) 1 pn) (hl : Ls[i.val]? = some (.val (.int v))) (k : own_Go p l e R s m args below meth c n0 Q cells slots h pn Ls (.int v :: st)) : own_Go p l e R s m args below meth c n0 Q cells slots h pc Ls st := by
  obtain ⟨hd, rfl⟩ := d
  exact own_step (fun T locs ce sl X t r => XS.iloadN X.here C.1 rfl (hb C.2.2.2.1 hd) (by simpa using hl) r) k
theorem own_iload (C : own_Cx p l e R s m args below meth c Z own nm bytes maxL ret) {i : Nat} {v : Int32} (d : own_D bytes pc (.iload i) 2 pn) (hl : Ls[i]? = some (.val (.int v))) (k : own_Go p l e R s m args below meth c n0 Q cells slots h pn Ls (.int v :: st)) : own_Go p l e R s m args below meth c n0 Q cells slots h pc Ls st := by
  obtain ⟨hd, rfl⟩ := d
  exact own_step (fun T locs ce sl X t r => XS.iload X.here C.1 rfl (hb C.2.2.2.1 hd) (by simpa using hl) r) k
theorem own_lloadN (C : own_Cx p l e R s m args below meth c Z own nm bytes maxL ret) {i : Fin 4} {v : Int64} (d : own_D bytes pc (.lload_n i) 1 pn) (hl : Ls[i.val]? = some (.val (.long v))) (k : own_Go p l e R s m args below meth c n0 Q cells slots h pn Ls (.long v :: st)) : own_Go p l e R s m args below meth c n0 Q cells slots h pc Ls st := by
  obtain ⟨hd, rfl⟩ := d
  exact own_step (fun T locs ce sl X t r => XS.lloadN X.here C.1 rfl (hb C.2.2.2.1 hd) (by simpa using hl) r) k
theorem own_lload (C : own_Cx p l e R s m args below meth c Z own nm bytes maxL ret) {i : Nat} {v : Int64} (d : own_D bytes pc (.lload i) 2 pn) (hl : Ls[i]? = some (.val (.long v))) (k : own_Go p l e R s m args below meth c n0 Q cells slots h pn Ls (.long v :: st)) : own_Go p l e R s m args below meth c n0 Q cells slots h pc Ls st := by
  obtain ⟨hd, rfl⟩ := d
  exact own_step (fun T locs ce sl X t r => XS.lload X.here C.1 rfl (hb C.2.2.2.1 hd) (by simpa using hl) r) k
theorem own_iconst (C : own_Cx p l e R s m args below meth c Z own nm bytes maxL ret) {i : Int} (v : Int32) (d : own_D bytes pc (.iconst i) 1 pn) (hv : Int32.ofInt i = v) (k : own_Go p l e R s m args below meth c n0 Q cells slots h pn Ls (.int v :: st)) : own_Go p l e R s m args below meth c n0 Q cells slots h pc Ls st := by
  obtain ⟨hd, rfl⟩ := d
  exact own_step (fun T locs ce sl X t r => XS.iconst X.here C.1 rfl (hb C.2.2.2.1 hd) (by rw [hv]; exact r)) k
theorem own_bipush (C : own_Cx p l e R s m args below meth c Z own nm bytes maxL ret) {i : Int} (v : Int32) (d : own_D bytes pc (.bipush i) 2 pn) (hv : (Int8.ofInt i).toInt32 = v) (k : own_Go p l e R s m args below meth c n0 Q cells slots h pn Ls (.int v :: st)) : own_Go p l e R s m args below meth c n0 Q cells slots h pc Ls st := by
  obtain ⟨hd, rfl⟩ := d
  exact own_step (fun T locs ce sl X t r => XS.bipush X.here C.1 rfl (hb C.2.2.2.1 hd) (by rw [hv]; exact r)) k
theorem own_sipush (C : own_Cx p l e R s m args below meth c Z own nm bytes maxL ret) {i : Int} (v : Int32) (d : own_D bytes pc (.sipush i) 3 pn) (hv : (Int16.ofInt i).toInt32 = v) (k : own_Go p l e R s m args below meth c n0 Q cells slots h pn Ls (.int v :: st)) : own_Go p l e R s m args below meth c n0 Q cells slots h pc Ls st := by
  obtain ⟨hd, rfl⟩ := d
  exact own_step (fun T locs ce sl X t r => XS.sipush X.here C.1 rfl (hb C.2.2.2.1 hd) (by rw [hv]; exact r)) k
theorem own_lconst (C : own_Cx p l e R s m args below meth c Z own nm bytes maxL ret) {i : Fin 2} (v : Int64) (d : own_D bytes pc (.lconst i) 1 pn) (hv : Int64.ofNat i = v) (k : own_Go p l e R s m args below meth c n0 Q cells slots h pn Ls (.long v :: st)) : own_Go p l e R s m args below meth c n0 Q cells slots h pc Ls st := by
  obtain ⟨hd, rfl⟩ := d
  exact own_step (fun T locs ce sl X t r => XS.lconst X.here C.1 rfl (hb C.2.2.2.1 hd) (by rw [hv]; exact r)) k
theorem own_aconst_null (C : own_Cx p l e R s m args below meth c Z own nm bytes maxL ret)  (d : own_D bytes pc (.aconst_null) 1 pn)  (k : own_Go p l e R s m args below meth c n0 Q cells slots h pn Ls (.null :: st)) : own_Go p l e R s m args below meth c n0 Q cells slots h pc Ls st := by
  obtain ⟨hd, rfl⟩ := d
  exact own_step (fun T locs ce sl X t r => XS.aconstNull X.here C.1 rfl (hb C.2.2.2.1 hd) r) k
theorem own_iadd (C : own_Cx p l e R s m args below meth c Z own nm bytes maxL ret) {x y : Int32} (d : own_D bytes pc (.iadd) 1 pn)  (k : own_Go p l e R s m args below meth c n0 Q cells slots h pn Ls (.int (x + y) :: st)) : own_Go p l e R s m args below meth c n0 Q cells slots h pc Ls (.int y :: .int x :: st) := by
  obtain ⟨hd, rfl⟩ := d
  exact own_step (fun T locs ce sl X t r => XS.iadd X.here C.1 rfl (hb C.2.2.2.1 hd) rfl r) k
theorem own_isub (C : own_Cx p l e R s m args below meth c Z own nm bytes maxL ret) {x y : Int32} (d : own_D bytes pc (.isub) 1 pn)  (k : own_Go p l e R s m args below meth c n0 Q cells slots h pn Ls (.int (x - y) :: st)) : own_Go p l e R s m args below meth c n0 Q cells slots h pc Ls (.int y :: .int x :: st) := by
  obtain ⟨hd, rfl⟩ := d
  exact own_step (fun T locs ce sl X t r => XS.isub X.here C.1 rfl (hb C.2.2.2.1 hd) rfl r) k
theorem own_imul (C : own_Cx p l e R s m args below meth c Z own nm bytes maxL ret) {x y : Int32} (d : own_D bytes pc (.imul) 1 pn)  (k : own_Go p l e R s m args below meth c n0 Q cells slots h pn Ls (.int (x * y) :: st)) : own_Go p l e R s m args below meth c n0 Q cells slots h pc Ls (.int y :: .int x :: st) := by
  obtain ⟨hd, rfl⟩ := d
  exact own_step (fun T locs ce sl X t r => XS.imul X.here C.1 rfl (hb C.2.2.2.1 hd) rfl r) k
theorem own_iand (C : own_Cx p l e R s m args below meth c Z own nm bytes maxL ret) {x y : Int32} (d : own_D bytes pc (.iand) 1 pn)  (k : own_Go p l e R s m args below meth c n0 Q cells slots h pn Ls (.int (x &&& y) :: st)) : own_Go p l e R s m args below meth c n0 Q cells slots h pc Ls (.int y :: .int x :: st) := by
  obtain ⟨hd, rfl⟩ := d
  exact own_step (fun T locs ce sl X t r => XS.iand X.here C.1 rfl (hb C.2.2.2.1 hd) rfl r) k
theorem own_ior (C : own_Cx p l e R s m args below meth c Z own nm bytes maxL ret) {x y : Int32} (d : own_D bytes pc (.ior) 1 pn)  (k : own_Go p l e R s m args below meth c n0 Q cells slots h pn Ls (.int (x ||| y) :: st)) : own_Go p l e R s m args below meth c n0 Q cells slots h pc Ls (.int y :: .int x :: st) := by
  obtain ⟨hd, rfl⟩ := d
  exact own_step (fun T locs ce sl X t r => XS.ior X.here C.1 rfl (hb C.2.2.2.1 hd) rfl r) k
theorem own_ixor (C : own_Cx p l e R s m args below meth c Z own nm bytes maxL ret) {x y : Int32} (d : own_D bytes pc (.ixor) 1 pn)  (k : own_Go p l e R s m args below meth c n0 Q cells slots h pn Ls (.int (x ^^^ y) :: st)) : own_Go p l e R s m args below meth c n0 Q cells slots h pc Ls (.int y :: .int x :: st) := by
  obtain ⟨hd, rfl⟩ := d
  exact own_step (fun T locs ce sl X t r => XS.ixor X.here C.1 rfl (hb C.2.2.2.1 hd) rfl r) k
theorem own_ladd (C : own_Cx p l e R s m args below meth c Z own nm bytes maxL ret) {x y : Int64} (d : own_D bytes pc (.ladd) 1 pn)  (k : own_Go p l e R s m args below meth c n0 Q cells slots h pn Ls (.long (x + y) :: st)) : own_Go p l e R s m args below meth c n0 Q cells slots h pc Ls (.long y :: .long x :: st) := by
  obtain ⟨hd, rfl⟩ := d
  exact own_step (fun T locs ce sl X t r => XS.ladd X.here C.1 rfl (hb C.2.2.2.1 hd) rfl r) k
theorem own_lsub (C : own_Cx p l e R s m args below meth c Z own nm bytes maxL ret) {x y : Int64} (d : own_D bytes pc (.lsub) 1 pn)  (k : own_Go p l e R s m args below meth c n0 Q cells slots h pn Ls (.long (x - y) :: st)) : own_Go p l e R s m args below meth c n0 Q cells slots h pc Ls (.long y :: .long x :: st) := by
  obtain ⟨hd, rfl⟩ := d
  exact own_step (fun T locs ce sl X t r => XS.lsub X.here C.1 rfl (hb C.2.2.2.1 hd) rfl r) k
theorem own_land (C : own_Cx p l e R s m args below meth c Z own nm bytes maxL ret) {x y : Int64} (d : own_D bytes pc (.land) 1 pn)  (k : own_Go p l e R s m args below meth c n0 Q cells slots h pn Ls (.long (x &&& y) :: st)) : own_Go p l e R s m args below meth c n0 Q cells slots h pc Ls (.long y :: .long x :: st) := by
  obtain ⟨hd, rfl⟩ := d
  exact own_step (fun T locs ce sl X t r => XS.land X.here C.1 rfl (hb C.2.2.2.1 hd) rfl r) k
theorem own_lor (C : own_Cx p l e R s m args below meth c Z own nm bytes maxL ret) {x y : Int64} (d : own_D bytes pc (.lor) 1 pn)  (k : own_Go p l e R s m args below meth c n0 Q cells slots h pn Ls (.long (x ||| y) :: st)) : own_Go p l e R s m args below meth c n0 Q cells slots h pc Ls (.long y :: .long x :: st) := by
  obtain ⟨hd, rfl⟩ := d
  exact own_step (fun T locs ce sl X t r => XS.lor X.here C.1 rfl (hb C.2.2.2.1 hd) rfl r) k
theorem own_lxor (C : own_Cx p l e R s m args below meth c Z own nm bytes maxL ret) {x y : Int64} (d : own_D bytes pc (.lxor) 1 pn)  (k : own_Go p l e R s m args below meth c n0 Q cells slots h pn Ls (.long (x ^^^ y) :: st)) : own_Go p l e R s m args below meth c n0 Q cells slots h pc Ls (.long y :: .long x :: st) := by
  obtain ⟨hd, rfl⟩ := d
  exact own_step (fun T locs ce sl X t r => XS.lxor X.here C.1 rfl (hb C.2.2.2.1 hd) rfl r) k
theorem own_ishl (C : own_Cx p l e R s m args below meth c Z own nm bytes maxL ret) {x y : Int32} (d : own_D bytes pc (.ishl) 1 pn)  (k : own_Go p l e R s m args below meth c n0 Q cells slots h pn Ls (.int (x <<< (y &&& 31)) :: st)) : own_Go p l e R s m args below meth c n0 Q cells slots h pc Ls (.int y :: .int x :: st) := by
  obtain ⟨hd, rfl⟩ := d
  exact own_step (fun T locs ce sl X t r => XS.ishl X.here C.1 rfl (hb C.2.2.2.1 hd) rfl r) k
theorem own_ishr (C : own_Cx p l e R s m args below meth c Z own nm bytes maxL ret) {x y : Int32} (d : own_D bytes pc (.ishr) 1 pn)  (k : own_Go p l e R s m args below meth c n0 Q cells slots h pn Ls (.int (x >>> (y &&& 31)) :: st)) : own_Go p l e R s m args below meth c n0 Q cells slots h pc Ls (.int y :: .int x :: st) := by
  obtain ⟨hd, rfl⟩ := d
  exact own_step (fun T locs ce sl X t r => XS.ishr X.here C.1 rfl (hb C.2.2.2.1 hd) rfl r) k
theorem own_iushr (C : own_Cx p l e R s m args below meth c Z own nm bytes maxL ret) {x y : Int32} (d : own_D bytes pc (.iushr) 1 pn)  (k : own_Go p l e R s m args below meth c n0 Q cells slots h pn Ls (.int ((x.toUInt32 >>> (y &&& 31).toUInt32).toInt32) :: st)) : own_Go p l e R s m args below meth c n0 Q cells slots h pc Ls (.int y :: .int x :: st) := by
  obtain ⟨hd, rfl⟩ := d
  exact own_step (fun T locs ce sl X t r => XS.iushr X.here C.1 rfl (hb C.2.2.2.1 hd) rfl r) k
theorem own_ineg (C : own_Cx p l e R s m args below meth c Z own nm bytes maxL ret) {x : Int32} (d : own_D bytes pc (.ineg) 1 pn)  (k : own_Go p l e R s m args below meth c n0 Q cells slots h pn Ls (.int (-x) :: st)) : own_Go p l e R s m args below meth c n0 Q cells slots h pc Ls (.int x :: st) := by
  obtain ⟨hd, rfl⟩ := d
  exact own_step (fun T locs ce sl X t r => XS.ineg X.here C.1 rfl (hb C.2.2.2.1 hd) rfl r) k
theorem own_irem (C : own_Cx p l e R s m args below meth c Z own nm bytes maxL ret) {x y : Int32} (d : own_D bytes pc (.irem) 1 pn) (hy : y ≠ 0) (k : own_Go p l e R s m args below meth c n0 Q cells slots h pn Ls (.int (x % y) :: st)) : own_Go p l e R s m args below meth c n0 Q cells slots h pc Ls (.int y :: .int x :: st) := by
  obtain ⟨hd, rfl⟩ := d
  exact own_step (fun T locs ce sl X t r => iremM X C.1 rfl (hb C.2.2.2.1 hd) rfl hy r) k
theorem own_lcmp (C : own_Cx p l e R s m args below meth c Z own nm bytes maxL ret) {x y : Int64} (d : own_D bytes pc (.lcmp) 1 pn)  (k : own_Go p l e R s m args below meth c n0 Q cells slots h pn Ls (.int (lcmpW x y) :: st)) : own_Go p l e R s m args below meth c n0 Q cells slots h pc Ls (.long y :: .long x :: st) := by
  obtain ⟨hd, rfl⟩ := d
  exact own_step (fun T locs ce sl X t r => XS.lcmp X.here C.1 rfl (hb C.2.2.2.1 hd) rfl r) k
theorem own_dup (C : own_Cx p l e R s m args below meth c Z own nm bytes maxL ret) {x : Value} (d : own_D bytes pc (.dup) 1 pn) (hc : x.category = 1) (k : own_Go p l e R s m args below meth c n0 Q cells slots h pn Ls (x :: x :: st)) : own_Go p l e R s m args below meth c n0 Q cells slots h pc Ls (x :: st) := by
  obtain ⟨hd, rfl⟩ := d
  exact own_step (fun T locs ce sl X t r => XS.dup X.here C.1 rfl (hb C.2.2.2.1 hd) rfl hc r) k
theorem own_dupX1 (C : own_Cx p l e R s m args below meth c Z own nm bytes maxL ret) {x y : Value} (d : own_D bytes pc (.dup_x1) 1 pn) (hc : x.category = 1) (hc' : y.category = 1) (k : own_Go p l e R s m args below meth c n0 Q cells slots h pn Ls (x :: y :: x :: st)) : own_Go p l e R s m args below meth c n0 Q cells slots h pc Ls (x :: y :: st) := by
  obtain ⟨hd, rfl⟩ := d
  exact own_step (fun T locs ce sl X t r => XS.dupX1 X.here C.1 rfl (hb C.2.2.2.1 hd) rfl hc hc' r) k
theorem own_dup2 (C : own_Cx p l e R s m args below meth c Z own nm bytes maxL ret) {x y : Value} (d : own_D bytes pc (.dup2) 1 pn) (hc : x.category = 1) (hc' : y.category = 1) (k : own_Go p l e R s m args below meth c n0 Q cells slots h pn Ls (x :: y :: x :: y :: st)) : own_Go p l e R s m args below meth c n0 Q cells slots h pc Ls (x :: y :: st) := by
  obtain ⟨hd, rfl⟩ := d
  exact own_step (fun T locs ce sl X t r => XT.dup2 X.here C.1 rfl (hb C.2.2.2.1 hd) rfl hc hc' r) k
theorem own_pop (C : own_Cx p l e R s m args below meth c Z own nm bytes maxL ret) {x : Value} (d : own_D bytes pc (.pop) 1 pn) (hc : x.category = 1) (k : own_Go p l e R s m args below meth c n0 Q cells slots h pn Ls st) : own_Go p l e R s m args below meth c n0 Q cells slots h pc Ls (x :: st) := by
  obtain ⟨hd, rfl⟩ := d
  exact own_step (fun T locs ce sl X t r => XS.pop X.here C.1 rfl (hb C.2.2.2.1 hd) rfl hc r) k
/-- a slot that one word may be laid over -/
def own_one : Slot → Bool
  | .unset => true
  | .second => false
  | .val w => w.category == 1
theorem own_one_spec {o : Slot} (q : own_one o = true) : o = .unset ∨ ∃ w, o = .val w ∧ w.category = 1 := by
  cases o with
  | unset => exact Or.inl rfl
  | second => cases q
  | val w => exact Or.inr ⟨w, rfl, by simpa [own_one] using q⟩
theorem own_store {k : Nat} {v : Value} {o : Slot} (hold : Ls[k]? = some o) (ho : own_one o = true) (hv : v.category = 1) : storeLocals Ls.toArray k v = some (Ls.set k (.val v)).toArray := by
  rw [XS.store1 (o := o) (by simpa using hold) (own_one_spec ho) hv]; simp
theorem own_istoreN (C : own_Cx p l e R s m args below meth c Z own nm bytes maxL ret) {i : Fin 4} {x : Int32} {o : Slot} (j : Nat) (d : own_D bytes pc (.istore_n i) 1 pn) (hj : i.val = j) (hl : Ls[j]? = some o) (ho : own_one o = true) (k : own_Go p l e R s m args below meth c n0 Q cells slots h pn (Ls.set j (.val (.int x))) st) : own_Go p l e R s m args below meth c n0 Q cells slots h pc Ls (.int x :: st) := by
  obtain ⟨hd, rfl⟩ := d
  exact own_step (fun T locs ce sl X t r => XS.istoreN X.here C.1 rfl (hb C.2.2.2.1 hd) rfl (by rw [hj]; exact own_store hl ho rfl) r) k
theorem own_istore (C : own_Cx p l e R s m args below meth c Z own nm bytes maxL ret) {i : Nat} {x : Int32} {o : Slot} (j : Nat) (d : own_D bytes pc (.istore i) 2 pn) (hj : i = j) (hl : Ls[j]? = some o) (ho : own_one o = true) (k : own_Go p l e R s m args below meth c n0 Q cells slots h pn (Ls.set j (.val (.int x))) st) : own_Go p l e R s m args below meth c n0 Q cells slots h pc Ls (.int x :: st) := by
  obtain ⟨hd, rfl⟩ := d
  exact own_step (fun T locs ce sl X t r => XS.istore X.here C.1 rfl (hb C.2.2.2.1 hd) rfl (by rw [hj]; exact own_store hl ho rfl) r) k
theorem own_astoreN (C : own_Cx p l e R s m args below meth c Z own nm bytes maxL ret) {i : Fin 4} {x : Value} {o : Slot} (j : Nat) (d : own_D bytes pc (.astore_n i) 1 pn) (hj : i.val = j) (hl : Ls[j]? = some o) (ho : own_one o = true) (hv : x.isRef = true) (k : own_Go p l e R s m args below meth c n0 Q cells slots h pn (Ls.set j (.val x)) st) : own_Go p l e R s m args below meth c n0 Q cells slots h pc Ls (x :: st) := by
  obtain ⟨hd, rfl⟩ := d
  exact own_step (fun T locs ce sl X t r => XS.astoreN X.here C.1 rfl (hb C.2.2.2.1 hd) rfl hv (by rw [hj]; exact own_store hl ho (XT.cat1 hv)) r) k
theorem own_astore (C : own_Cx p l e R s m args below meth c Z own nm bytes maxL ret) {i : Nat} {x : Value} {o : Slot} (j : Nat) (d : own_D bytes pc (.astore i) 2 pn) (hj : i = j) (hl : Ls[j]? = some o) (ho : own_one o = true) (hv : x.isRef = true) (k : own_Go p l e R s m args below meth c n0 Q cells slots h pn (Ls.set j (.val x)) st) : own_Go p l e R s m args below meth c n0 Q cells slots h pc Ls (x :: st) := by
  obtain ⟨hd, rfl⟩ := d
  exact own_step (fun T locs ce sl X t r => XS.astore X.here C.1 rfl (hb C.2.2.2.1 hd) rfl hv (by rw [hj]; exact own_store hl ho (XT.cat1 hv)) r) k
theorem own_lstoreN (C : own_Cx p l e R s m args below meth c Z own nm bytes maxL ret) {i : Fin 4} {x : Int64} {Ls' : List Slot} (d : own_D bytes pc (.lstore_n i) 1 pn) (hl : storeLocals Ls.toArray i.val (.long x) = some Ls'.toArray) (k : own_Go p l e R s m args below meth c n0 Q cells slots h pn Ls' st) : own_Go p l e R s m args below meth c n0 Q cells slots h pc Ls (.long x :: st) := by
  obtain ⟨hd, rfl⟩ := d
  exact own_step (fun T locs ce sl X t r => XS.lstoreN X.here C.1 rfl (hb C.2.2.2.1 hd) rfl hl r) k
theorem own_lstore (C : own_Cx p l e R s m args below meth c Z own nm bytes maxL ret) {i : Nat} {x : Int64} {Ls' : List Slot} (d : own_D bytes pc (.lstore i) 2 pn) (hl : storeLocals Ls.toArray i (.long x) = some Ls'.toArray) (k : own_Go p l e R s m args below meth c n0 Q cells slots h pn Ls' st) : own_Go p l e R s m args below meth c n0 Q cells slots h pc Ls (.long x :: st) := by
  obtain ⟨hd, rfl⟩ := d
  exact own_step (fun T locs ce sl X t r => XS.lstore X.here C.1 rfl (hb C.2.2.2.1 hd) rfl hl r) k
theorem own_iinc (C : own_Cx p l e R s m args below meth c Z own nm bytes maxL ret) {i : Nat} {cst : Int} {x : Int32} (v : Int32) (d : own_D bytes pc (.iinc i cst) 3 pn) (hv : Int32.ofInt cst = v) (hl : Ls[i]? = some (.val (.int x))) (k : own_Go p l e R s m args below meth c n0 Q cells slots h pn (Ls.set i (.val (.int (x + v)))) st) : own_Go p l e R s m args below meth c n0 Q cells slots h pc Ls st := by
  obtain ⟨hd, rfl⟩ := d
  exact own_step (fun T locs ce sl X t r => XS.iinc X.here C.1 rfl (hb C.2.2.2.1 hd) (by simpa using hl) (by rw [hv]; exact own_store hl rfl rfl) r) k
theorem own_goto (C : own_Cx p l e R s m args below meth c Z own nm bytes maxL ret) {o : Int} (d : own_D bytes pc (.goto o) 3 pn) (ht : own_T pc o pt) (k : own_Go p l e R s m args below meth c n0 Q cells slots h pt Ls st) : own_Go p l e R s m args below meth c n0 Q cells slots h pc Ls st := by
  obtain ⟨hd, rfl⟩ := d
  exact own_step (fun T locs ce sl X t r => XS.goto X.here C.1 rfl rfl (hb C.2.2.2.1 hd) ht.1 ht.2 r) k
theorem own_icmplt (C : own_Cx p l e R s m args below meth c Z own nm bytes maxL ret) {o : Int} {x y : Int32} (d : own_D bytes pc (.if_icmp .lt o) 3 pn) (ht : own_T pc o pt) (ky : x < y → own_Go p l e R s m args below meth c n0 Q cells slots h pt Ls st) (kn : ¬ x < y → own_Go p l e R s m args below meth c n0 Q cells slots h pn Ls st) : own_Go p l e R s m args below meth c n0 Q cells slots h pc Ls (.int y :: .int x :: st) := by
  obtain ⟨hd, rfl⟩ := d
  by_cases h' : x < y
  · exact own_step (fun T locs ce sl X t r => XS.icmpYes X.here C.1 rfl rfl (hb C.2.2.2.1 hd) rfl (tlt h').1 ht.1 ht.2 r) (ky h')
  · exact own_step (fun T locs ce sl X t r => XS.icmpNo X.here C.1 rfl (hb C.2.2.2.1 hd) rfl (flt h').1 r) (kn h')
theorem own_iflt (C : own_Cx p l e R s m args below meth c Z own nm bytes maxL ret) {o : Int} {x : Int32} (d : own_D bytes pc (.ifCond .lt o) 3 pn) (ht : own_T pc o pt) (ky : x < (0 : Int32) → own_Go p l e R s m args below meth c n0 Q cells slots h pt Ls st) (kn : ¬ x < (0 : Int32) → own_Go p l e R s m args below meth c n0 Q cells slots h pn Ls st) : own_Go p l e R s m args below meth c n0 Q cells slots h pc Ls (.int x :: st) := by
  obtain ⟨hd, rfl⟩ := d
  by_cases h' : x < (0 : Int32)
  · exact own_step (fun T locs ce sl X t r => XS.ifYes X.here C.1 rfl rfl (hb C.2.2.2.1 hd) rfl ((if0 _ _).trans (tlt h').1) ht.1 ht.2 r) (ky h')
  · exact own_step (fun T locs ce sl X t r => XS.ifNo X.here C.1 rfl (hb C.2.2.2.1 hd) rfl ((if0 _ _).trans (flt h').1) r) (kn h')
theorem own_icmpge (C : own_Cx p l e R s m args below meth c Z own nm bytes maxL ret) {o : Int} {x y : Int32} (d : own_D bytes pc (.if_icmp .ge o) 3 pn) (ht : own_T pc o pt) (ky : ¬ x < y → own_Go p l e R s m args below meth c n0 Q cells slots h pt Ls st) (kn : x < y → own_Go p l e R s m args below meth c n0 Q cells slots h pn Ls st) : own_Go p l e R s m args below meth c n0 Q cells slots h pc Ls (.int y :: .int x :: st) := by
  obtain ⟨hd, rfl⟩ := d
  by_cases h' : x < y
  · exact own_step (fun T locs ce sl X t r => XS.icmpNo X.here C.1 rfl (hb C.2.2.2.1 hd) rfl (tlt h').2.1 r) (kn h')
  · exact own_step (fun T locs ce sl X t r => XS.icmpYes X.here C.1 rfl rfl (hb C.2.2.2.1 hd) rfl (flt h').2.1 ht.1 ht.2 r) (ky h')
theorem own_ifge (C : own_Cx p l e R s m args below meth c Z own nm bytes maxL ret) {o : Int} {x : Int32} (d : own_D bytes pc (.ifCond .ge o) 3 pn) (ht : own_T pc o pt) (ky : ¬ x < (0 : Int32) → own_Go p l e R s m args below meth c n0 Q cells slots h pt Ls st) (kn : x < (0 : Int32) → own_Go p l e R s m args below meth c n0 Q cells slots h pn Ls st) : own_Go p l e R s m args below meth c n0 Q cells slots h pc Ls (.int x :: st) := by
  obtain ⟨hd, rfl⟩ := d
  by_cases h' : x < (0 : Int32)
  · exact own_step (fun T locs ce sl X t r => XS.ifNo X.here C.1 rfl (hb C.2.2.2.1 hd) rfl ((if0 _ _).trans (tlt h').2.1) r) (kn h')
  · exact own_step (fun T locs ce sl X t r => XS.ifYes X.here C.1 rfl rfl (hb C.2.2.2.1 hd) rfl ((if0 _ _).trans (flt h').2.1) ht.1 ht.2 r) (ky h')
theorem own_icmpgt (C : own_Cx p l e R s m args below meth c Z own nm bytes maxL ret) {o : Int} {x y : Int32} (d : own_D bytes pc (.if_icmp .gt o) 3 pn) (ht : own_T pc o pt) (ky : y < x → own_Go p l e R s m args below meth c n0 Q cells slots h pt Ls st) (kn : ¬ y < x → own_Go p l e R s m args below meth c n0 Q cells slots h pn Ls st) : own_Go p l e R s m args below meth c n0 Q cells slots h pc Ls (.int y :: .int x :: st) := by
  obtain ⟨hd, rfl⟩ := d
  by_cases h' : y < x
  · exact own_step (fun T locs ce sl X t r => XS.icmpYes X.here C.1 rfl rfl (hb C.2.2.2.1 hd) rfl (tlt h').2.2.1 ht.1 ht.2 r) (ky h')
  · exact own_step (fun T locs ce sl X t r => XS.icmpNo X.here C.1 rfl (hb C.2.2.2.1 hd) rfl (flt h').2.2.1 r) (kn h')
theorem own_ifgt (C : own_Cx p l e R s m args below meth c Z own nm bytes maxL ret) {o : Int} {x : Int32} (d : own_D bytes pc (.ifCond .gt o) 3 pn) (ht : own_T pc o pt) (ky : (0 : Int32) < x → own_Go p l e R s m args below meth c n0 Q cells slots h pt Ls st) (kn : ¬ (0 : Int32) < x → own_Go p l e R s m args below meth c n0 Q cells slots h pn Ls st) : own_Go p l e R s m args below meth c n0 Q cells slots h pc Ls (.int x :: st) := by
  obtain ⟨hd, rfl⟩ := d
  by_cases h' : (0 : Int32) < x
  · exact own_step (fun T locs ce sl X t r => XS.ifYes X.here C.1 rfl rfl (hb C.2.2.2.1 hd) rfl ((if0 _ _).trans (tlt h').2.2.1) ht.1 ht.2 r) (ky h')
  · exact own_step (fun T locs ce sl X t r => XS.ifNo X.here C.1 rfl (hb C.2.2.2.1 hd) rfl ((if0 _ _).trans (flt h').2.2.1) r) (kn h')
theorem own_icmple (C : own_Cx p l e R s m args below meth c Z own nm bytes maxL ret) {o : Int} {x y : Int32} (d : own_D bytes pc (.if_icmp .le o) 3 pn) (ht : own_T pc o pt) (ky : ¬ y < x → own_Go p l e R s m args below meth c n0 Q cells slots h pt Ls st) (kn : y < x → own_Go p l e R s m args below meth c n0 Q cells slots h pn Ls st) : own_Go p l e R s m args below meth c n0 Q cells slots h pc Ls (.int y :: .int x :: st) := by
  obtain ⟨hd, rfl⟩ := d
  by_cases h' : y < x
  · exact own_step (fun T locs ce sl X t r => XS.icmpNo X.here C.1 rfl (hb C.2.2.2.1 hd) rfl (tlt h').2.2.2 r) (kn h')
  · exact own_step (fun T locs ce sl X t r => XS.icmpYes X.here C.1 rfl rfl (hb C.2.2.2.1 hd) rfl (flt h').2.2.2 ht.1 ht.2 r) (ky h')
theorem own_ifle (C : own_Cx p l e R s m args below meth c Z own nm bytes maxL ret) {o : Int} {x : Int32} (d : own_D bytes pc (.ifCond .le o) 3 pn) (ht : own_T pc o pt) (ky : ¬ (0 : Int32) < x → own_Go p l e R s m args below meth c n0 Q cells slots h pt Ls st) (kn : (0 : Int32) < x → own_Go p l e R s m args below meth c n0 Q cells slots h pn Ls st) : own_Go p l e R s m args below meth c n0 Q cells slots h pc Ls (.int x :: st) := by
  obtain ⟨hd, rfl⟩ := d
  by_cases h' : (0 : Int32) < x
  · exact own_step (fun T locs ce sl X t r => XS.ifNo X.here C.1 rfl (hb C.2.2.2.1 hd) rfl ((if0 _ _).trans (tlt h').2.2.2) r) (kn h')
  · exact own_step (fun T locs ce sl X t r => XS.ifYes X.here C.1 rfl rfl (hb C.2.2.2.1 hd) rfl ((if0 _ _).trans (flt h').2.2.2) ht.1 ht.2 r) (ky h')
theorem own_icmpeq (C : own_Cx p l e R s m args below meth c Z own nm bytes maxL ret) {o : Int} {x y : Int32} (d : own_D bytes pc (.if_icmp .eq o) 3 pn) (ht : own_T pc o pt) (ky : x = y → own_Go p l e R s m args below meth c n0 Q cells slots h pt Ls st) (kn : ¬ x = y → own_Go p l e R s m args below meth c n0 Q cells slots h pn Ls st) : own_Go p l e R s m args below meth c n0 Q cells slots h pc Ls (.int y :: .int x :: st) := by
  obtain ⟨hd, rfl⟩ := d
  by_cases h' : x = y
  · exact own_step (fun T locs ce sl X t r => XS.icmpYes X.here C.1 rfl rfl (hb C.2.2.2.1 hd) rfl (teq h').1 ht.1 ht.2 r) (ky h')
  · exact own_step (fun T locs ce sl X t r => XS.icmpNo X.here C.1 rfl (hb C.2.2.2.1 hd) rfl (feq h').1 r) (kn h')
theorem own_ifeq (C : own_Cx p l e R s m args below meth c Z own nm bytes maxL ret) {o : Int} {x : Int32} (d : own_D bytes pc (.ifCond .eq o) 3 pn) (ht : own_T pc o pt) (ky : x = (0 : Int32) → own_Go p l e R s m args below meth c n0 Q cells slots h pt Ls st) (kn : ¬ x = (0 : Int32) → own_Go p l e R s m args below meth c n0 Q cells slots h pn Ls st) : own_Go p l e R s m args below meth c n0 Q cells slots h pc Ls (.int x :: st) := by
  obtain ⟨hd, rfl⟩ := d
  by_cases h' : x = (0 : Int32)
  · exact own_step (fun T locs ce sl X t r => XS.ifYes X.here C.1 rfl rfl (hb C.2.2.2.1 hd) rfl ((if0 _ _).trans (teq h').1) ht.1 ht.2 r) (ky h')
  · exact own_step (fun T locs ce sl X t r => XS.ifNo X.here C.1 rfl (hb C.2.2.2.1 hd) rfl ((if0 _ _).trans (feq h').1) r) (kn h')
theorem own_icmpne (C : own_Cx p l e R s m args below meth c Z own nm bytes maxL ret) {o : Int} {x y : Int32} (d : own_D bytes pc (.if_icmp .ne o) 3 pn) (ht : own_T pc o pt) (ky : ¬ x = y → own_Go p l e R s m args below meth c n0 Q cells slots h pt Ls st) (kn : x = y → own_Go p l e R s m args below meth c n0 Q cells slots h pn Ls st) : own_Go p l e R s m args below meth c n0 Q cells slots h pc Ls (.int y :: .int x :: st) := by
  obtain ⟨hd, rfl⟩ := d
  by_cases h' : x = y
  · exact own_step (fun T locs ce sl X t r => XS.icmpNo X.here C.1 rfl (hb C.2.2.2.1 hd) rfl (teq h').2 r) (kn h')
  · exact own_step (fun T locs ce sl X t r => XS.icmpYes X.here C.1 rfl rfl (hb C.2.2.2.1 hd) rfl (feq h').2 ht.1 ht.2 r) (ky h')
theorem own_ifne (C : own_Cx p l e R s m args below meth c Z own nm bytes maxL ret) {o : Int} {x : Int32} (d : own_D bytes pc (.ifCond .ne o) 3 pn) (ht : own_T pc o pt) (ky : ¬ x = (0 : Int32) → own_Go p l e R s m args below meth c n0 Q cells slots h pt Ls st) (kn : x = (0 : Int32) → own_Go p l e R s m args below meth c n0 Q cells slots h pn Ls st) : own_Go p l e R s m args below meth c n0 Q cells slots h pc Ls (.int x :: st) := by
  obtain ⟨hd, rfl⟩ := d
  by_cases h' : x = (0 : Int32)
  · exact own_step (fun T locs ce sl X t r => XS.ifNo X.here C.1 rfl (hb C.2.2.2.1 hd) rfl ((if0 _ _).trans (teq h').2) r) (kn h')
  · exact own_step (fun T locs ce sl X t r => XS.ifYes X.here C.1 rfl rfl (hb C.2.2.2.1 hd) rfl ((if0 _ _).trans (feq h').2) ht.1 ht.2 r) (ky h')
theorem own_acmpeq (C : own_Cx p l e R s m args below meth c Z own nm bytes maxL ret) {o : Int} {x y : Value} (d : own_D bytes pc (.if_acmp .eq o) 3 pn) (ht : own_T pc o pt) (hx' : x.isRef = true) (hy' : y.isRef = true) (ky : x = y → own_Go p l e R s m args below meth c n0 Q cells slots h pt Ls st) (kn : ¬ x = y → own_Go p l e R s m args below meth c n0 Q cells slots h pn Ls st) : own_Go p l e R s m args below meth c n0 Q cells slots h pc Ls (y :: x :: st) := by
  obtain ⟨hd, rfl⟩ := d
  by_cases h' : x = y
  · exact own_step (fun T locs ce sl X t r => XT.acmpYes X.here C.1 rfl rfl (hb C.2.2.2.1 hd) rfl hx' hy' (XT.aa_eq_t h') ht.1 ht.2 r) (ky h')
  · exact own_step (fun T locs ce sl X t r => XT.acmpNo X.here C.1 rfl (hb C.2.2.2.1 hd) rfl hx' hy' (XT.aa_eq_f h') r) (kn h')
theorem own_acmpne (C : own_Cx p l e R s m args below meth c Z own nm bytes maxL ret) {o : Int} {x y : Value} (d : own_D bytes pc (.if_acmp .ne o) 3 pn) (ht : own_T pc o pt) (hx' : x.isRef = true) (hy' : y.isRef = true) (ky : ¬ x = y → own_Go p l e R s m args below meth c n0 Q cells slots h pt Ls st) (kn : x = y → own_Go p l e R s m args below meth c n0 Q cells slots h pn Ls st) : own_Go p l e R s m args below meth c n0 Q cells slots h pc Ls (y :: x :: st) := by
  obtain ⟨hd, rfl⟩ := d
  by_cases h' : x = y
  · exact own_step (fun T locs ce sl X t r => XT.acmpNo X.here C.1 rfl (hb C.2.2.2.1 hd) rfl hx' hy' (XT.aa_ne_f h') r) (kn h')
  · exact own_step (fun T locs ce sl X t r => XT.acmpYes X.here C.1 rfl rfl (hb C.2.2.2.1 hd) rfl hx' hy' (XT.aa_ne_t h') ht.1 ht.2 r) (ky h')
theorem own_ifnull (C : own_Cx p l e R s m args below meth c Z own nm bytes maxL ret) {o : Int} {v : Value} (d : own_D bytes pc (.ifnull o) 3 pn) (ht : own_T pc o pt) (hv : v.isRef = true) (ky : v = .null → own_Go p l e R s m args below meth c n0 Q cells slots h pt Ls st) (kn : ¬ v = .null → own_Go p l e R s m args below meth c n0 Q cells slots h pn Ls st) : own_Go p l e R s m args below meth c n0 Q cells slots h pc Ls (v :: st) := by
  obtain ⟨hd, rfl⟩ := d
  by_cases h' : v = .null
  · exact own_step (fun T locs ce sl X t r => XT.nullYes X.here C.1 rfl rfl (hb C.2.2.2.1 hd) rfl h' ht.1 ht.2 r) (ky h')
  · exact own_step (fun T locs ce sl X t r => XT.nullNo X.here C.1 rfl (hb C.2.2.2.1 hd) rfl hv h' r) (kn h')
theorem own_ifnonnull (C : own_Cx p l e R s m args below meth c Z own nm bytes maxL ret) {o : Int} {v : Value} (d : own_D bytes pc (.ifnonnull o) 3 pn) (ht : own_T pc o pt) (hv : v.isRef = true) (ky : ¬ v = .null → own_Go p l e R s m args below meth c n0 Q cells slots h pt Ls st) (kn : v = .null → own_Go p l e R s m args below meth c n0 Q cells slots h pn Ls st) : own_Go p l e R s m args below meth c n0 Q cells slots h pc Ls (v :: st) := by
  obtain ⟨hd, rfl⟩ := d
  by_cases h' : v = .null
  · exact own_step (fun T locs ce sl X t r => XT.nonnullNo X.here C.1 rfl (hb C.2.2.2.1 hd) rfl h' r) (kn h')
  · exact own_step (fun T locs ce sl X t r => XT.nonnullYes X.here C.1 rfl rfl (hb C.2.2.2.1 hd) rfl hv h' ht.1 ht.2 r) (ky h')
theorem own_ldc (C : own_Cx p l e R s m args below meth c Z own nm bytes maxL ret) {i : Nat} {v : Int32} (d : own_D bytes pc (.ldc i) 2 pn) (w1 : (Jvm.Cond.constant own i v).before a0 Z = true) (k : own_Go p l e R s m args below meth c n0 Q cells slots h pn Ls (.int v :: st)) : own_Go p l e R s m args below meth c n0 Q cells slots h pc Ls st := by
  obtain ⟨hd, rfl⟩ := d
  exact own_step (fun T locs ce sl X t r => ldcI X C.1 C.2.2.1 (mv C.2.1 w1) rfl (hb C.2.2.2.1 hd) r) k
theorem own_ldc2 (C : own_Cx p l e R s m args below meth c Z own nm bytes maxL ret) {i : Nat} {v : Int64} (d : own_D bytes pc (.ldc2_w i) 3 pn) (w1 : (Jvm.Cond.constantLong own i v).before a0 Z = true) (k : own_Go p l e R s m args below meth c n0 Q cells slots h pn Ls (.long v :: st)) : own_Go p l e R s m args below meth c n0 Q cells slots h pc Ls st := by
  obtain ⟨hd, rfl⟩ := d
  exact own_step (fun T locs ce sl X t r => ldc2J X C.1 C.2.2.1 (mv C.2.1 w1) rfl (hb C.2.2.2.1 hd) r) k
theorem own_getS (C : own_Cx p l e R s m args below meth c Z own nm bytes maxL ret) {O n dd : String} {i : Nat} {v : Value} (d : own_D bytes pc (.getstatic i) 3 pn) (w1 : (Jvm.Cond.fieldLink own i O n dd).before a0 Z = true) (F : Sta Z h O n dd v) (k : own_Go p l e R s m args below meth c n0 Q cells slots h pn Ls (v :: st)) : own_Go p l e R s m args below meth c n0 Q cells slots h pc Ls st := by
  obtain ⟨hd, rfl⟩ := d
  refine own_warm (fun T locs ce sl X eT => ?_) k
  obtain ⟨T', X', e', st'⟩ := getS2 X C.1 C.2.1 C.2.2.1 (host := "") (Or.inl w1) Via.refl eT F (g := mkF m pc Ls.toArray st) rfl (hb C.2.2.2.1 hd)
  exact ⟨T', X', e', st'⟩
theorem own_getF (C : own_Cx p l e R s m args below meth c Z own nm bytes maxL ret) {R0 O n dd : String} {i : Nat} {a : Addr} {v : Value} (d : own_D bytes pc (.getfield i) 3 pn) (w1 : (Jvm.Cond.fieldLink own i R0 n dd).before a0 Z = true) (via : Via Z R0 O n dd) (F : Fld Z h a O n dd v) (k : own_Go p l e R s m args below meth c n0 Q cells slots h pn Ls (v :: st)) : own_Go p l e R s m args below meth c n0 Q cells slots h pc Ls (.ref a :: st) := by
  obtain ⟨hd, rfl⟩ := d
  refine own_warm (fun T locs ce sl X eT => ?_) k
  obtain ⟨T', X', e', st'⟩ := getF X C.1 C.2.1 C.2.2.1 (host := "") (Or.inl w1) via eT F (g := mkF m pc Ls.toArray (.ref a :: st)) rfl rfl (hb C.2.2.2.1 hd)
  exact ⟨T', X', e', st'⟩
theorem own_cast (C : own_Cx p l e R s m args below meth c Z own nm bytes maxL ret) {K : String} {i : Nat} {a : Addr} (d : own_D bytes pc (.checkcast i) 3 pn) (w1 : (Jvm.Cond.classLink own i K).before a0 Z = true) (F : Ins Z h a K true) (k : own_Go p l e R s m args below meth c n0 Q cells slots h pn Ls (.ref a :: st)) : own_Go p l e R s m args below meth c n0 Q cells slots h pc Ls (.ref a :: st) := by
  obtain ⟨hd, rfl⟩ := d
  refine own_warm (fun T locs ce sl X eT => ?_) k
  obtain ⟨T', X', e', st'⟩ := castY X C.1 C.2.1 C.2.2.1 w1 eT F (g := mkF m pc Ls.toArray (.ref a :: st)) rfl rfl (hb C.2.2.2.1 hd)
  exact ⟨T', X', e', st'⟩
theorem own_instY (C : own_Cx p l e R s m args below meth c Z own nm bytes maxL ret) {K : String} {i : Nat} {a : Addr} (d : own_D bytes pc (.instanceof i) 3 pn) (w1 : (Jvm.Cond.classLink own i K).before a0 Z = true) (F : Ins Z h a K true) (k : own_Go p l e R s m args below meth c n0 Q cells slots h pn Ls (.int 1 :: st)) : own_Go p l e R s m args below meth c n0 Q cells slots h pc Ls (.ref a :: st) := by
  obtain ⟨hd, rfl⟩ := d
  refine own_warm (fun T locs ce sl X eT => ?_) k
  obtain ⟨T', X', e', st'⟩ := instY X C.1 C.2.1 C.2.2.1 w1 eT F (g := mkF m pc Ls.toArray (.ref a :: st)) rfl rfl (hb C.2.2.2.1 hd)
  exact ⟨T', X', e', st'⟩
theorem own_write {pc' : Nat} {Ls' : List Slot} {st' : List Value} {a : Addr} {j : Nat} {v : Value} (ha : n0 ≤ a) (H : ∀ (T : State) (locs : List Loc) (ce sl : Nat), Stand p l e R s m args below meth c T locs ce sl → T.heap = h → ∃ T' h', Stand p l e R s m args below meth c T' (locs ++ [⟨a, j⟩]) ce sl ∧ T'.heap = h' ∧ Wr h h' a j v ∧ ∀ target, Steps p.tables e below (T'.setTop (mkF m pc' Ls'.toArray st')) target → Steps p.tables e below (T.setTop (mkF m pc Ls.toArray st)) target)
    (k : ∀ h', Wr h h' a j v → own_Go p l e R s m args below meth c n0 Q cells slots h' pc' Ls' st') : own_Go p l e R s m args below meth c n0 Q cells slots h pc Ls st := by
  intro T locs ce sl hc hs hf X eT
  obtain ⟨T', h', X', eT', W, H'⟩ := H T locs ce sl X eT
  obtain ⟨s₂, o, h1, h2⟩ := k h' W T' _ ce sl hc hs (Fr.snoc X' hf ha) X' eT'
  exact ⟨s₂, o, H' _ h1, h2⟩
theorem own_putF (C : own_Cx p l e R s m args below meth c Z own nm bytes maxL ret) {R0 O n dd K : String} {i kk : Nat} {ty : FieldType} {a : Addr} {v old : Value} (d : own_D bytes pc (.putfield i) 3 pn) (w1 : (Jvm.Cond.fieldLink own i R0 n dd).before a0 Z = true) (via : Via Z R0 O n dd) (F : Fld Z h a O n dd old) (E : Exa Z h a K)
    (L : (Jvm.Cond.lays K O n dd).before a0 Z = true ∨ ((Jvm.Cond.laysFinal K O n dd).before a0 Z = true ∧ own = O ∧ nm = "<init>")) (wi : (Jvm.Cond.instantiable K kk).before a0 Z = true) (hty : parseFieldDescriptor dd = some ty) (hn : narrow ty v = v) (hf : fits ty v = true) (ha : n0 ≤ a)
    (k : ∀ h', Wr h h' a (slotOf Z O n dd) v → own_Go p l e R s m args below meth c n0 Q cells slots h' pn Ls st) : own_Go p l e R s m args below meth c n0 Q cells slots h pc Ls (v :: .ref a :: st) := by
  obtain ⟨hd, rfl⟩ := d
  refine own_write ha (fun T locs ce sl X eT => ?_) k
  obtain ⟨T', h', X', e', W, st'⟩ := putF X C.1 C.2.1 C.2.2.1 (host := "") (Or.inl w1) via eT F E (L.imp id fun q => ⟨q.1, q.2.1, C.2.2.2.2.2.2.2.trans q.2.2⟩) wi hty hn hf (g := mkF m pc Ls.toArray (v :: .ref a :: st)) rfl rfl (hb C.2.2.2.1 hd)
  exact ⟨T', h', X', e', W, st'⟩
theorem own_stR (C : own_Cx p l e R s m args below meth c Z own nm bytes maxL ret) {ty : FieldType} {a : Addr} {v : Value} {cl : Cell} {j : Int32} (d : own_D bytes pc .aastore 1 pn) (A : Arr Z h a cl ty) (hj : ¬ (j < 0 ∨ cl.slots.size ≤ j.toNatClampNeg)) (hty : ty.isReference = true) (F : Sto Z h a v) (ha : n0 ≤ a)
    (k : ∀ h', Wr h h' a j.toNatClampNeg v → own_Go p l e R s m args below meth c n0 Q cells slots h' pn Ls st) : own_Go p l e R s m args below meth c n0 Q cells slots h pc Ls (v :: .int j :: .ref a :: st) := by
  obtain ⟨hd, rfl⟩ := d
  refine own_write ha (fun T locs ce sl X eT => ?_) k
  obtain ⟨T', h', X', e', W, st'⟩ := stR X C.1 C.2.1 eT A hj hty F (g := mkF m pc Ls.toArray (v :: .int j :: .ref a :: st)) rfl rfl (hb C.2.2.2.1 hd)
  exact ⟨T', h', X', e', W, st'⟩
theorem own_newO (C : own_Cx p l e R s m args below meth c Z own nm bytes maxL ret) {K : String} {i n : Nat} (d : own_D bytes pc (.new i) 3 pn) (w1 : (Jvm.Cond.classLink own i K).before a0 Z = true) (w2 : (Jvm.Cond.instantiable K n).before a0 Z = true) (w3 : (Jvm.Cond.initialized K).before a0 Z = true) (hc : cells + 1 ≤ R.cells) (hs : slots + n ≤ R.slots)
    (k : ∀ (h' : Heap) (a : Addr), a = h.size → Ext h h' → Exa Z h' a K → (∀ {O fn dd : String} {ty : FieldType}, Laid Z a0 K O fn dd → parseFieldDescriptor dd = some ty → Fld Z h' a O fn dd (defaultValue ty)) → own_Go p l e R s m args below meth c n0 Q (cells + 1) (slots + n) h' pn Ls (.ref a :: st)) : own_Go p l e R s m args below meth c n0 Q cells slots h pc Ls st := by
  obtain ⟨hd, rfl⟩ := d
  intro T locs ce sl h1 h2 hf X eT
  obtain ⟨T', h', X', e', E', A', D', -, st'⟩ := newO X C.1 C.2.1 C.2.2.1 w1 w2 w3 eT (g := mkF m pc Ls.toArray st) rfl (hb C.2.2.2.1 hd) (Nat.le_trans (Nat.add_le_add_right h1 1) hc) (Nat.le_trans (Nat.add_le_add_right h2 n) hs)
  obtain ⟨s₂, o, g1, g2⟩ := k h' h.size rfl E' A' D' T' locs _ _ (Nat.add_le_add_right h1 1) (Nat.add_le_add_right h2 n) hf X' e'
  exact ⟨s₂, o, st' _ g1, g2⟩
theorem own_newR (C : own_Cx p l e R s m args below meth c Z own nm bytes maxL ret) {K : String} {i : Nat} {n : Int32} (d : own_D bytes pc (.anewarray i) 3 pn) (w1 : (Jvm.Cond.classLink own i K).before a0 Z = true) (w2 : (Jvm.Cond.arrayOver (.object K)).before a0 Z = true) (hn : ¬ n < 0) (cap : Nat) (hcap : n.toNatClampNeg ≤ cap) (hb8 : cap * 8 ≤ 536870912) (hc : cells + 1 ≤ R.cells) (hs : slots + cap ≤ R.slots)
    (k : ∀ (h' : Heap) (a : Addr) (cA : ClassId), a = h.size → Ext h h' → Arr Z h' a (newA cA (.object K) n) (.object K) → Ovr Z cA K → own_Go p l e R s m args below meth c n0 Q (cells + 1) (slots + cap) h' pn Ls (.ref a :: st)) : own_Go p l e R s m args below meth c n0 Q cells slots h pc Ls (.int n :: st) := by
  obtain ⟨hd, rfl⟩ := d
  intro T locs ce sl h1 h2 hf X eT
  obtain ⟨T', h', cA, X', e', E', A', O', st'⟩ := newR X C.1 C.2.1 C.2.2.1 w1 w2 eT (g := mkF m pc Ls.toArray (.int n :: st)) rfl (hb C.2.2.2.1 hd) rfl hn hcap hb8 (Nat.le_trans (Nat.add_le_add_right h1 1) hc) (Nat.le_trans (Nat.add_le_add_right h2 cap) hs)
  obtain ⟨s₂, o, g1, g2⟩ := k h' h.size cA rfl E' A' O' T' locs _ _ (Nat.add_le_add_right h1 1) (Nat.add_le_add_right h2 cap) hf X' e'
  exact ⟨s₂, o, st' _ g1, g2⟩
theorem own_aaload (C : own_Cx p l e R s m args below meth c Z own nm bytes maxL ret) {ty : FieldType} {a : Addr} {v : Value} {cl : Cell} {j : Int32} (d : own_D bytes pc .aaload 1 pn) (A : Arr Z h a cl ty) (hty : ty.isReference = true) (hj : ¬ (j < 0 ∨ cl.slots.size ≤ j.toNatClampNeg)) (hat : cl.slots[j.toNatClampNeg]? = some v)
    (k : own_Go p l e R s m args below meth c n0 Q cells slots h pn Ls (v :: st)) : own_Go p l e R s m args below meth c n0 Q cells slots h pc Ls (.int j :: .ref a :: st) := by
  obtain ⟨hd, rfl⟩ := d
  refine own_warm (fun T locs ce sl X eT => ⟨T, X, eT, ?_⟩) k
  exact X.aaload C.1 (by rw [eT]; exact A.1) (State.isArrayOf_alike C.2.1.alike A.2.1) hty A.2.2 hj hat (g := mkF m pc Ls.toArray (.int j :: .ref a :: st)) rfl rfl (hb C.2.2.2.1 hd)
theorem own_arraylength (C : own_Cx p l e R s m args below meth c Z own nm bytes maxL ret) {ty : FieldType} {a : Addr} {cl : Cell} (d : own_D bytes pc .arraylength 1 pn) (A : Arr Z h a cl ty)
    (k : own_Go p l e R s m args below meth c n0 Q cells slots h pn Ls (.int cl.slots.size.toInt32 :: st)) : own_Go p l e R s m args below meth c n0 Q cells slots h pc Ls (.ref a :: st) := by
  obtain ⟨hd, rfl⟩ := d
  refine own_warm (fun T locs ce sl X eT => ⟨T, X, eT, ?_⟩) k
  exact X.arraylength C.1 (by rw [eT]; exact A.1) (State.isArrayOf_alike C.2.1.alike A.2.1) (g := mkF m pc Ls.toArray (.ref a :: st)) rfl rfl (hb C.2.2.2.1 hd)
theorem own_ret {t : FieldType} (C : own_Cx p l e R s m args below meth c Z own nm bytes maxL (some t)) {w : Value} {i : Instr} (d : own_D bytes pc i 1 pn) (hn : narrow t w = w)
    (hi : (i = .ireturn ∧ (t = .int ∨ t = .boolean ∨ t = .byte ∨ t = .char ∨ t = .short) ∧ ∃ z, w = .int z) ∨ (i = .lreturn ∧ t = .long ∧ ∃ z, w = .long z) ∨ (i = .dreturn ∧ t = .double ∧ ∃ z, w = .double z) ∨ (i = .freturn ∧ t = .float ∧ ∃ z, w = .float z) ∨ (i = .areturn ∧ t.isReference = true ∧ w.isRef = true))
    (hc : cells ≤ R.cells) (hs : slots ≤ R.slots) (q : Qn (some w) h) : own_Go p l e R s m args below meth c n0 (own_N s n0 R Qn) cells slots h pc Ls (w :: st) := by
  obtain ⟨hd, rfl⟩ := d
  intro T locs ce sl h1 h2 hf X eT
  obtain ⟨fs, hr, hrun, hended, hW, hsame⟩ := X.leave (v := some w) (fun h => by rw [C.2.2.2.2.2.1] at h; cases h) C.2.2.2.2.2.2.1
  exact ⟨_, _, retOut X C.1 C.2.2.2.2.2.1 hn hi (hb C.2.2.2.1 hd) hr, hrun, hended, _, locs, rfl, ⟨by show Qn (some w) T.heap; rw [eT]; exact q, hf⟩, ⟨_, rfl⟩, hW, hsame.mono (Nat.le_trans h1 hc) (Nat.le_trans h2 hs)⟩
theorem own_retA {t : FieldType} (C : own_Cx p l e R s m args below meth c Z own nm bytes maxL (some t)) {w : Value} (d : own_D bytes pc .areturn 1 pn) (ht : t.isReference = true) (hw : w.isRef = true) (hc : cells ≤ R.cells) (hs : slots ≤ R.slots) (q : Qn (some w) h) : own_Go p l e R s m args below meth c n0 (own_N s n0 R Qn) cells slots h pc Ls (w :: st) := by
  refine own_ret C d ?_ (Or.inr (Or.inr (Or.inr (Or.inr ⟨rfl, ht, hw⟩)))) hc hs q
  cases t <;> first | (cases ht; done) | rfl
theorem own_retI (C : own_Cx p l e R s m args below meth c Z own nm bytes maxL (some .int)) {z : Int32} (d : own_D bytes pc .ireturn 1 pn) (hc : cells ≤ R.cells) (hs : slots ≤ R.slots) (q : Qn (some (.int z)) h) : own_Go p l e R s m args below meth c n0 (own_N s n0 R Qn) cells slots h pc Ls (.int z :: st) :=
  own_ret C d rfl (Or.inl ⟨rfl, Or.inl rfl, z, rfl⟩) hc hs q
theorem own_retZ (C : own_Cx p l e R s m args below meth c Z own nm bytes maxL (some .boolean)) {z : Int32} (d : own_D bytes pc .ireturn 1 pn) (hz : z = 0 ∨ z = 1) (hc : cells ≤ R.cells) (hs : slots ≤ R.slots) (q : Qn (some (.int z)) h) : own_Go p l e R s m args below meth c n0 (own_N s n0 R Qn) cells slots h pc Ls (.int z :: st) :=
  own_ret C d (by rcases hz with rfl | rfl <;> rfl) (Or.inl ⟨rfl, Or.inr (Or.inl rfl), z, rfl⟩) hc hs q
theorem own_retJ (C : own_Cx p l e R s m args below meth c Z own nm bytes maxL (some .long)) {z : Int64} (d : own_D bytes pc .lreturn 1 pn) (hc : cells ≤ R.cells) (hs : slots ≤ R.slots) (q : Qn (some (.long z)) h) : own_Go p l e R s m args below meth c n0 (own_N s n0 R Qn) cells slots h pc Ls (.long z :: st) :=
  own_ret C d rfl (Or.inr (Or.inl ⟨rfl, rfl, z, rfl⟩)) hc hs q
theorem own_retV (C : own_Cx p l e R s m args below meth c Z own nm bytes maxL none) (d : own_D bytes pc .return_ 1 pn) (hc : cells ≤ R.cells) (hs : slots ≤ R.slots) (q : Qn none h) : own_Go p l e R s m args below meth c n0 (own_N s n0 R Qn) cells slots h pc Ls [] := by
  obtain ⟨hd, rfl⟩ := d
  intro T locs ce sl h1 h2 hf X eT
  obtain ⟨fs, hr, hrun, hended, hW, hsame⟩ := X.leave (v := none) (fun _ => rfl) C.2.2.2.2.2.2.1
  exact ⟨_, _, X.returnOut C.1 C.2.2.2.2.2.1 (hb C.2.2.2.1 hd) hr, hrun, hended, _, locs, rfl, ⟨by show Qn none T.heap; rw [eT]; exact q, hf⟩, ⟨_, rfl⟩, hW, hsame.mono (Nat.le_trans h1 hc) (Nat.le_trans h2 hs)⟩
theorem own_hlen {dsc : String} {ps : List FieldType} {r : Option FieldType} {L : List Value} (hd : parseMethodDescriptor dsc = some ⟨ps, r⟩) (hl : L.length = ps.length) : ∀ sig, parseMethodDescriptor dsc = some sig → L.length = sig.parameters.length := lenOf hd hl
theorem own_callS (C : own_Cx p l e R s m args below meth c Z own nm bytes maxL ret) {i : Nat} {y : MethodName} {bytes' : ByteArray} {maxL' : Nat} {ret' : Option FieldType} {rm : Room} {as' : List Value} {Qc : Option Value → Heap → Prop} (K : own_Con l Z y bytes' maxL' ret' rm n0 as' h Qc) (d : own_D bytes pc (.invokestatic i) 3 pn) (w1 : (Jvm.Cond.methodLink own i y).before a0 Z = true) (w2 : (Jvm.Cond.static y).before a0 Z = true) (w3 : (Jvm.Cond.initialized y.cls).before a0 Z = true) (w4 : (Jvm.Cond.code y bytes' maxL' ret').before a0 Z = true)
    (hy : y.cls ≠ "java/lang/invoke/MethodHandle" ∧ y.cls ≠ "java/lang/invoke/VarHandle") {ps : List FieldType} {r : Option FieldType} (hp : parseMethodDescriptor y.desc = some ⟨ps, r⟩) (hn : as'.length = ps.length) (hst : st = as'.reverse ++ rest) (hLs : Ls.length = maxL) (hfr : rm.frames + 1 ≤ R.frames) (hlo : (rest.map fun v => v.category).sum + (maxL' + 11) + rm.locals ≤ R.locals) (hc : cells + rm.cells ≤ R.cells) (hs : slots + rm.slots ≤ R.slots)
    (k : ∀ v h', Qc v h' → own_Go p l e R s m args below meth c n0 Q (cells + rm.cells) (slots + rm.slots) h' pn Ls (v.toList ++ rest)) : own_Go p l e R s m args below meth c n0 Q cells slots h pc Ls st := by
  obtain ⟨hd, rfl⟩ := d
  intro T locs ce sl h1 h2 hf X eT
  obtain ⟨v, _, ⟨T', L', k', n'⟩, -, X', ⟨Lc, hq, l', y', z'⟩, st'⟩ := Jvm.LawKit.callS X C.1 (y := y) C.2.2.1 (mvT C.2.1 w1) (mvT C.2.1 w2) (mvT C.2.1 w3) (mvT C.2.1 w4) hy (backOf (W := (rest.map fun v => v.category).sum) (Q := fun v h L => Qc v h ∧ Fr n0 L) (K []) C.2.1 w4 w3 hfr hlo) (g := mkF m pc Ls.toArray st) rfl (by rw [C.2.2.2.2.1]; simpa using hLs) (argsL := as') (rest := rest) (lenOf hp hn) hst (by simp) (hb C.2.2.2.1 hd) (fun _ _ => ⟨rfl, eT, Nat.le_trans (Nat.add_le_add_right h1 _) hc, Nat.le_trans (Nat.add_le_add_right h2 _) hs⟩)
  dsimp only [Pt.U, Pt.locs, Pt.cells, Pt.slots] at X' l' y' z' st' hq
  subst l' y' z'
  obtain ⟨s₂, o, g1, g2⟩ := k v T'.heap hq.1 T' _ _ _ (by omega) (by omega) (Fr.app hf hq.2) X' rfl
  exact ⟨s₂, o, st' _ g1, g2⟩
theorem own_callV (C : own_Cx p l e R s m args below meth c Z own nm bytes maxL ret) {i : Nat} {a : Addr} {Kc : String} {z : MethodName} {y : MethodName} {bytes' : ByteArray} {maxL' : Nat} {ret' : Option FieldType} {rm : Room} {as' : List Value} {Qc : Option Value → Heap → Prop} (K : own_Con l Z z bytes' maxL' ret' rm n0 (.ref a :: as') h Qc) (E : Exa Z h a Kc) (d : own_D bytes pc (.invokevirtual i) 3 pn) (w1 : (Jvm.Cond.methodLink own i y).before a0 Z = true) (w2 : (Jvm.Cond.declares y).before a0 Z = true) (w3 : (Jvm.Cond.selects Kc y z).before a0 Z = true) (nf : NotFace s y) (w4 : (Jvm.Cond.instanceMethod z).before a0 Z = true) (w5 : (Jvm.Cond.code z bytes' maxL' ret').before a0 Z = true) (w6 : (Jvm.Cond.initialized z.cls).before a0 Z = true)
    (hy : y.cls ≠ "java/lang/invoke/MethodHandle" ∧ y.cls ≠ "java/lang/invoke/VarHandle") {ps : List FieldType} {r : Option FieldType} (hp : parseMethodDescriptor y.desc = some ⟨ps, r⟩) (hn : as'.length = ps.length) (hst : st = as'.reverse ++ .ref a :: rest) (hLs : Ls.length = maxL) (hfr : rm.frames + 1 ≤ R.frames) (hlo : (rest.map fun v => v.category).sum + (maxL' + 11) + rm.locals ≤ R.locals) (hc : cells + rm.cells ≤ R.cells) (hs : slots + rm.slots ≤ R.slots)
    (k : ∀ v h', Qc v h' → own_Go p l e R s m args below meth c n0 Q (cells + rm.cells) (slots + rm.slots) h' pn Ls (v.toList ++ rest)) : own_Go p l e R s m args below meth c n0 Q cells slots h pc Ls st := by
  obtain ⟨hd, rfl⟩ := d
  intro T locs ce sl h1 h2 hf X eT
  obtain ⟨cB, kB, qa, qb, qc⟩ := isOf C.2.1 eT E
  obtain ⟨v, _, ⟨T', L', k', n'⟩, -, X', ⟨Lc, hq, l', y', z'⟩, st'⟩ := X.virtualBack C.1 (y := y) (z := z) C.2.2.1 (mvT C.2.1 w1) (mvT C.2.1 w2) nf (mvT C.2.1 w3) (mvT C.2.1 w4) hy (backOf (W := (rest.map fun v => v.category).sum) (Q := fun v h L => Qc v h ∧ Fr n0 L) (K []) C.2.1 w5 w6 hfr hlo) qa qc (g := mkF m pc Ls.toArray st) rfl (by rw [C.2.2.2.2.1]; simpa using hLs) (Steps.refl _) (argsL := as') (rest := rest) (lenOf hp hn) hst (by simp) (hb C.2.2.2.1 hd) (fun _ _ => ⟨rfl, eT, Nat.le_trans (Nat.add_le_add_right h1 _) hc, Nat.le_trans (Nat.add_le_add_right h2 _) hs⟩)
  dsimp only [Pt.U, Pt.locs, Pt.cells, Pt.slots] at X' l' y' z' st' hq
  subst l' y' z'
  obtain ⟨s₂, o, g1, g2⟩ := k v T'.heap hq.1 T' _ _ _ (by omega) (by omega) (Fr.app hf hq.2) X' rfl
  exact ⟨s₂, o, st'.trans g1, g2⟩
theorem own_callI (C : own_Cx p l e R s m args below meth c Z own nm bytes maxL ret) {i : Nat} {a : Addr} {y : MethodName} {bytes' : ByteArray} {maxL' : Nat} {rm : Room} {as' : List Value} {Qc : Option Value → Heap → Prop} (K : own_Con l Z y bytes' maxL' none rm n0 (.ref a :: as') h Qc) (d : own_D bytes pc (.invokespecial i) 3 pn) (hi : y.name = "<init>") (w1 : (Jvm.Cond.methodLink own i y).before a0 Z = true) (w4 : (Jvm.Cond.instanceMethod y).before a0 Z = true) (w5 : (Jvm.Cond.code y bytes' maxL' none).before a0 Z = true) (w6 : (Jvm.Cond.initialized y.cls).before a0 Z = true)
    (hy : y.cls ≠ "java/lang/invoke/MethodHandle" ∧ y.cls ≠ "java/lang/invoke/VarHandle") {ps : List FieldType} {r : Option FieldType} (hp : parseMethodDescriptor y.desc = some ⟨ps, r⟩) (hn : as'.length = ps.length) (hst : st = as'.reverse ++ .ref a :: rest) (hLs : Ls.length = maxL) (hfr : rm.frames + 1 ≤ R.frames) (hlo : (rest.map fun v => v.category).sum + (maxL' + 11) + rm.locals ≤ R.locals) (hc : cells + rm.cells ≤ R.cells) (hs : slots + rm.slots ≤ R.slots)
    (k : ∀ v h', Qc v h' → own_Go p l e R s m args below meth c n0 Q (cells + rm.cells) (slots + rm.slots) h' pn Ls (v.toList ++ rest)) : own_Go p l e R s m args below meth c n0 Q cells slots h pc Ls st := by
  obtain ⟨hd, rfl⟩ := d
  intro T locs ce sl h1 h2 hf X eT
  obtain ⟨v, _, ⟨T', L', k', n'⟩, -, X', ⟨Lc, hq, l', y', z'⟩, st'⟩ := X.specialBack C.1 (y := y) hi C.2.2.1 (mvT C.2.1 w1) (mvT C.2.1 w4) (mvT C.2.1 w5) hy (backOf (W := (rest.map fun v => v.category).sum) (Q := fun v h L => Qc v h ∧ Fr n0 L) (K []) C.2.1 w5 w6 hfr hlo) (g := mkF m pc Ls.toArray st) rfl (by rw [C.2.2.2.2.1]; simpa using hLs) (Steps.refl _) (argsL := as') (rest := rest) (lenOf hp hn) hst (by simp) (hb C.2.2.2.1 hd) (fun _ _ => ⟨rfl, eT, Nat.le_trans (Nat.add_le_add_right h1 _) hc, Nat.le_trans (Nat.add_le_add_right h2 _) hs⟩)
  dsimp only [Pt.U, Pt.locs, Pt.cells, Pt.slots] at X' l' y' z' st' hq
  subst l' y' z'
  obtain ⟨s₂, o, g1, g2⟩ := k v T'.heap hq.1 T' _ _ _ (by omega) (by omega) (Fr.app hf hq.2) X' rfl
  exact ⟨s₂, o, st'.trans g1, g2⟩
theorem own_nf {args : Array Value} {y : MethodName} {K : String} (hZ : Z.Warmed39 s.vm) (w : (Jvm.Cond.selects K y y).before a0 Z = true) : NotFace s y := notFace_of_selects (args := args) (mvT hZ w)
/-- from the words of a case to facts -/
theorem own_fld {t u : Term} {O n dd : String} {a : Addr} {v : Value} (hw : (Jvm.Cond.eq (Term.field t O n dd) u).value args Z none Z [] = some true) (ht : t.eval args Z none [] Z = some (.ref a)) (hu : u.eval args Z none [] Z = some v) : Fld Z Z.heap a O n dd v := by
  refine Fld.start ?_
  rw [← fld_at ht]
  obtain ⟨x, y, e1, e2, k1, k2⟩ := cmp_v (Or.inl hw)
  cases hu.symm.trans e2
  rw [e1]
  simp only [Jvm.Cond.value, e1, e2] at hw
  cases x <;> cases v <;> simp_all [Kin, Value.isRef]
theorem own_main {y : MethodName} {rm : Room} {as' : List Value} {ws : List Jvm.Cond} (K : own_Con l Z y bytes maxL ret rm n0 as' h Qn) : MetFree l y (head1 (Jvm.Cond.code y bytes maxL ret :: ws) rm) (fun a U => a = as'.toArray ∧ Z.Warmed39 U.vm ∧ U.heap = h) (fun _ _ _ _ _ => True) (fun _ U o U' => ∃ v L, o = .returned v ∧ (Qn v U'.heap ∧ Fr n0 L) ∧ FrameEnd U o U' L rm.cells rm.slots) := K ws
theorem own_ext_ext {h0 h' : Heap} (E : Ext h0 h) (E' : Ext h h') : Ext h0 h' := ⟨Nat.le_trans E.1 E'.1, fun a c q => E'.2 a c (E.2 a c q)⟩
theorem own_ext_wr {h0 h' : Heap} {a : Addr} {j : Nat} {v : Value} (E : Ext h0 h) (W : Wr h h' a j v) (q : h0.size ≤ a) : Ext h0 h' := by
  refine ⟨by rw [W.size]; exact E.1, fun b c hb => ?_⟩
  obtain ⟨c', e1, -, -, -, e5, -⟩ := wr_at W (E.2 b c hb)
  have ne : b ≠ a := fun e => absurd (Array.getElem?_eq_some_iff.mp hb).1 (by rw [e]; exact Nat.not_lt.mpr q)
  rw [e1, e5 ne]
theorem own_ext_keep {h0 h' : Heap} {ws : List Addr} (E : Ext h0 h) (K : Keep h h' ws) (q : ∀ x ∈ ws, h0.size ≤ x) : Ext h0 h' := ⟨Nat.le_trans E.1 K.1, fun b c hb => K.2.1 b c (E.2 b c hb) fun z => absurd (Array.getElem?_eq_some_iff.mp hb).1 (Nat.not_lt.mpr (q b z))⟩
theorem own_ext_refl (h : Heap) : Ext h h := ⟨Nat.le_refl _, fun _ _ q => q⟩
/-- an array of references and all that lies in it -/
def own_Av (Z : State) (h : Heap) (a : Addr) (ty : FieldType) (cA : ClassId) (vs : List Value) : Prop := ∃ c : Cell, Arr Z h a c ty ∧ c.cls = cA ∧ c.slots = vs.toArray
theorem own_Av.ext {h' : Heap} {a : Addr} {ty : FieldType} {cA : ClassId} {vs : List Value} (A : own_Av Z h a ty cA vs) (E : Ext h h') : own_Av Z h' a ty cA vs := by obtain ⟨c, A, r⟩ := A; exact ⟨c, A.ext E, r⟩
theorem own_newA (C : own_Cx p l e R s m args below meth c Z own nm bytes maxL ret) {K : String} {i : Nat} {n : Int32} (d : own_D bytes pc (.anewarray i) 3 pn) (w1 : (Jvm.Cond.classLink own i K).before a0 Z = true) (w2 : (Jvm.Cond.arrayOver (.object K)).before a0 Z = true) (hn : ¬ n < 0) (cap : Nat) (hcap : n.toNatClampNeg = cap) (hb8 : cap * 8 ≤ 536870912) (hc : cells + 1 ≤ R.cells) (hs : slots + cap ≤ R.slots)
    (k : ∀ (h' : Heap) (a : Addr) (cA : ClassId), a = h.size → Ext h h' → own_Av Z h' a (.object K) cA (List.replicate cap .null) → Ovr Z cA K → own_Go p l e R s m args below meth c n0 Q (cells + 1) (slots + cap) h' pn Ls (.ref a :: st)) : own_Go p l e R s m args below meth c n0 Q cells slots h pc Ls (.int n :: st) :=
  own_newR C d w1 w2 hn cap (Nat.le_of_eq hcap) hb8 hc hs fun h' a cA e1 E A O => k h' a cA e1 E ⟨_, A, rfl, by subst hcap; simp [newA, defaultValue]⟩ O
theorem own_stA (C : own_Cx p l e R s m args below meth c Z own nm bytes maxL ret) {K : String} {a b : Addr} {cA : ClassId} {vs : List Value} {j : Int32} (d : own_D bytes pc .aastore 1 pn) (A : own_Av Z h a (.object K) cA vs) (O : Ovr Z cA K) (I : Ins Z h b K true) (i : Nat) (hj : ¬ j < 0) (hi : j.toNatClampNeg = i) (hl : i < vs.length) (ha : n0 ≤ a)
    (k : ∀ h', Wr h h' a i (.ref b) → own_Av Z h' a (.object K) cA (vs.set i (.ref b)) → own_Go p l e R s m args below meth c n0 Q cells slots h' pn Ls st) : own_Go p l e R s m args below meth c n0 Q cells slots h pc Ls (.ref b :: .int j :: .ref a :: st) := by
  obtain ⟨cl, A, rfl, hv⟩ := A
  subst hi
  have hsz : cl.slots.size = vs.length := by rw [hv]; simp
  refine own_stR C d A (by rw [hsz]; intro q; rcases q with q | q; exact hj q; omega) rfl (Sto.of A O I) ha fun h' W => k h' W ⟨_, A.same W, rfl, ?_⟩
  simp [Cell.setSlot, hv]
theorem own_ldA (C : own_Cx p l e R s m args below meth c Z own nm bytes maxL ret) {ty : FieldType} {a : Addr} {v : Value} {cA : ClassId} {vs : List Value} {j : Int32} (d : own_D bytes pc .aaload 1 pn) (A : own_Av Z h a ty cA vs) (hty : ty.isReference = true) (i : Nat) (hj : ¬ j < 0) (hi : j.toNatClampNeg = i) (hat : vs[i]? = some v)
    (k : own_Go p l e R s m args below meth c n0 Q cells slots h pn Ls (v :: st)) : own_Go p l e R s m args below meth c n0 Q cells slots h pc Ls (.int j :: .ref a :: st) := by
  obtain ⟨cl, A, rfl, hv⟩ := A
  subst hi
  have hl : j.toNatClampNeg < vs.length := (List.getElem?_eq_some_iff.mp hat).1
  have hsz : cl.slots.size = vs.length := by rw [hv]; simp
  exact own_aaload C d A hty (by rw [hsz]; intro q; rcases q with q | q; exact hj q; omega) (by rw [hv]; simpa using hat) k
theorem own_lenA (C : own_Cx p l e R s m args below meth c Z own nm bytes maxL ret) {ty : FieldType} {a : Addr} {cA : ClassId} {vs : List Value} (d : own_D bytes pc .arraylength 1 pn) (A : own_Av Z h a ty cA vs) {z : Int32} (hz : vs.length.toInt32 = z)
    (k : own_Go p l e R s m args below meth c n0 Q cells slots h pn Ls (.int z :: st)) : own_Go p l e R s m args below meth c n0 Q cells slots h pc Ls (.ref a :: st) := by
  obtain ⟨cl, A, rfl, hv⟩ := A
  refine own_arraylength C d A ?_
  have hsz : cl.slots.size = vs.length := by rw [hv]; simp
  rw [hsz, hz]; exact k
theorem own_getClass (C : own_Cx p l e R s m args below meth c Z own nm bytes maxL ret) {i : Nat} {K : String} {a mir : Addr} (d : own_D bytes pc (.invokevirtual i) 3 pn) (w1 : (Jvm.Cond.methodLink own i ⟨"java/lang/Object", "getClass", "()Ljava/lang/Class;"⟩).before a0 Z = true) (w2 : (Jvm.Cond.declares ⟨"java/lang/Object", "getClass", "()Ljava/lang/Class;"⟩).before a0 Z = true) (w3 : (Jvm.Cond.selects K ⟨"java/lang/Object", "getClass", "()Ljava/lang/Class;"⟩ ⟨"java/lang/Object", "getClass", "()Ljava/lang/Class;"⟩).before a0 Z = true)
    (w4 : (Jvm.Cond.instanceMethod ⟨"java/lang/Object", "getClass", "()Ljava/lang/Class;"⟩).before a0 Z = true) (w5 : (Jvm.Cond.native ⟨"java/lang/Object", "getClass", "()Ljava/lang/Class;"⟩).before a0 Z = true) (E : Exa Z h a K) (M : ∃ (cc : ClassId) (kc : Class), Z.vm.findClass K = some cc ∧ Z.vm.classes[cc]? = some kc ∧ kc.mirror = some mir) (hLs : Ls.length = maxL) (hfr : 1 ≤ R.frames) (hlo : (st.map fun v => v.category).sum + (nativeFrameWords "java/lang/Object" "getClass" 1 + 11) ≤ R.locals)
    (k : own_Go p l e R s m args below meth c n0 Q cells slots h pn Ls (.ref mir :: st)) : own_Go p l e R s m args below meth c n0 Q cells slots h pc Ls (.ref a :: st) := by
  obtain ⟨hd, rfl⟩ := d
  refine own_warm (fun T locs ce sl X eT => ?_) k
  obtain ⟨cB, kB, i1, i2, i3⟩ := isOf C.2.1 eT E
  obtain ⟨cc, kc, m1, m2, m3⟩ := M
  rw [C.2.1.alike.findClass] at i1
  cases i1.symm.trans m1
  obtain ⟨k', q, ek⟩ := C.2.1.alike.2.2 _ _ m2
  obtain ⟨vm', X', st'⟩ := X.getClassOf C.1 C.2.2.1 (mvT C.2.1 w1) (mvT C.2.1 w2) (own_nf (args := #[]) C.2.1 w3) (mvT C.2.1 w3) (mvT C.2.1 w4) (mvT C.2.1 w5) (by rw [C.2.1.alike.findClass]; exact m1) i3 q (by rw [ek]; exact m3) (g := mkF m pc Ls.toArray (.ref a :: st)) rfl (by rw [C.2.2.2.2.1]; simpa using hLs) rfl (hb C.2.2.2.1 hd) hfr (by simpa using hlo)
  exact ⟨_, X', eT, st'⟩
theorem own_len {t : Term} {a : Addr} {cl : Cell} {ty : FieldType} {n : Int32} {k : Nat} (hn : n.toNatClampNeg = k) (hw : (Jvm.Cond.eq (Term.length t) (Term.int n)).value args Z none Z [] = some true) (ht : t.eval args Z none [] Z = some (.ref a)) (A : Arr Z Z.heap a cl ty) : cl.slots.size = k := by
  obtain ⟨x, y, e1, e2, -, -⟩ := cmp_v (Or.inl hw)
  have hx := e1
  simp only [Term.eval, ht, Option.bind_eq_bind, Option.bind_some] at e1
  rw [A.fin (Vm.Alike.refl _)] at e1
  simp only [Option.bind_some] at e1
  split at e1
  · rename_i q
    cases e1
    have h2 := gotT (Cond.eq_ints hx (show (Term.int n).eval args Z none [] Z = some (.int n) from rfl)) hw
    have h3 : cl.slots.size.toInt32.toNatClampNeg = cl.slots.size := by
      show (cl.slots.size.toInt32.toInt).toNat = cl.slots.size
      rw [len_toInt q]; rfl
    rw [h2, hn] at h3
    exact h3.symm
  · cases e1
theorem own_elem {t u : Term} {a b : Addr} {cl : Cell} {ty : FieldType} {j : Int32} {k : Nat} (hk : j.toNatClampNeg = k) (hw : (Jvm.Cond.eq (Term.elem t (Term.int j)) u).value args Z none Z [] = some true) (ht : t.eval args Z none [] Z = some (.ref a)) (A : Arr Z Z.heap a cl ty) (hu : u.eval args Z none [] Z = some (.ref b)) : cl.slots[k]? = some (.ref b) := by
  subst hk
  obtain ⟨x, y, e1, e2, k1, k2⟩ := cmp_v (Or.inl hw)
  cases hu.symm.trans e2
  obtain ⟨-, e4⟩ := elem_in e1 ht rfl A.1
  rw [e4]
  simp only [Jvm.Cond.value, e1, e2] at hw
  cases x <;> simp_all [Kin, Value.isRef]
theorem own_callU (C : own_Cx p l e R s m args below meth c Z own nm bytes maxL ret) {i : Nat} {a : Addr} {Kc owner : String} {z : MethodName} {y : MethodName} {bytes' : ByteArray} {maxL' : Nat} {ret' : Option FieldType} {rm : Room} {as' : List Value} {Qc : Option Value → Heap → Prop} (K : own_Con l Z z bytes' maxL' ret' rm n0 (.ref a :: as') h Qc) (E : Exa Z h a Kc) (d : own_D bytes pc (.invokevirtual i) 3 pn) (w1 : (Jvm.Cond.methodLink own i y).before a0 Z = true) (w2 : (Jvm.Cond.sameMethod y.cls owner y.name y.desc).before a0 Z = true) (w2' : (Jvm.Cond.declares ⟨owner, y.name, y.desc⟩).before a0 Z = true) (w3 : (Jvm.Cond.selects Kc y z).before a0 Z = true) (w4 : (Jvm.Cond.instanceMethod z).before a0 Z = true) (w5 : (Jvm.Cond.code z bytes' maxL' ret').before a0 Z = true) (w6 : (Jvm.Cond.initialized z.cls).before a0 Z = true)
    (hy : owner ≠ "java/lang/invoke/MethodHandle" ∧ owner ≠ "java/lang/invoke/VarHandle") {ps : List FieldType} {r : Option FieldType} (hp : parseMethodDescriptor y.desc = some ⟨ps, r⟩) (hn : as'.length = ps.length) (hst : st = as'.reverse ++ .ref a :: rest) (hLs : Ls.length = maxL) (hfr : rm.frames + 1 ≤ R.frames) (hlo : (rest.map fun v => v.category).sum + (maxL' + 11) + rm.locals ≤ R.locals) (hc : cells + rm.cells ≤ R.cells) (hs : slots + rm.slots ≤ R.slots)
    (k : ∀ v h', Qc v h' → own_Go p l e R s m args below meth c n0 Q (cells + rm.cells) (slots + rm.slots) h' pn Ls (v.toList ++ rest)) : own_Go p l e R s m args below meth c n0 Q cells slots h pc Ls st := by
  obtain ⟨hd, rfl⟩ := d
  intro T locs ce sl h1 h2 hf X eT
  obtain ⟨cB, kB, qa, qb, qc⟩ := isOf C.2.1 eT E
  obtain ⟨v, _, ⟨T', L', k', n'⟩, -, X', ⟨Lc, hq, l', y', z'⟩, st'⟩ := X.virtualBackUp C.1 (x := y) (y := z) C.2.2.1 (mvT C.2.1 w1) (mvT C.2.1 w2) (mvT C.2.1 w2') hy (mvT C.2.1 w3) (mvT C.2.1 w4) (backOf (W := (rest.map fun v => v.category).sum) (Q := fun v h L => Qc v h ∧ Fr n0 L) (K []) C.2.1 w5 w6 hfr hlo) qa qc (g := mkF m pc Ls.toArray st) rfl (by rw [C.2.2.2.2.1]; simpa using hLs) (Steps.refl _) (argsL := as') (rest := rest) (lenOf hp hn) hst (by simp) (hb C.2.2.2.1 hd) (fun _ _ => ⟨rfl, eT, Nat.le_trans (Nat.add_le_add_right h1 _) hc, Nat.le_trans (Nat.add_le_add_right h2 _) hs⟩)
  dsimp only [Pt.U, Pt.locs, Pt.cells, Pt.slots] at X' l' y' z' st' hq
  subst l' y' z'
  obtain ⟨s₂, o, g1, g2⟩ := k v T'.heap hq.1 T' _ _ _ (by omega) (by omega) (Fr.app hf hq.2) X' rfl
  exact ⟨s₂, o, st'.trans g1, g2⟩
theorem own_callF (C : own_Cx p l e R s m args below meth c Z own nm bytes maxL ret) {i n : Nat} {a : Addr} {Kc : String} {z : MethodName} {y : MethodName} {bytes' : ByteArray} {maxL' : Nat} {ret' : Option FieldType} {rm : Room} {as' : List Value} {Qc : Option Value → Heap → Prop} (K : own_Con l Z z bytes' maxL' ret' rm n0 (.ref a :: as') h Qc) (E : Exa Z h a Kc) (d : own_D bytes pc (.invokeinterface i n) 5 pn) (w1 : (Jvm.Cond.methodLink own i y).before a0 Z = true) (w2 : (Jvm.Cond.declares y).before a0 Z = true) (w2' : (Jvm.Cond.interfaceMethod y.cls y.cls y.name y.desc).before a0 Z = true) (hfa : ((Jvm.Cond.interfaceMethod y.cls y.cls y.name y.desc).onTables && (Jvm.Cond.interfaceMethod y.cls y.cls y.name y.desc).keepsFace) = true) (w3 : (Jvm.Cond.selects Kc y z).before a0 Z = true) (w4 : (Jvm.Cond.instanceMethod z).before a0 Z = true) (w7 : (Jvm.Cond.publicMethod z).before a0 Z = true) (w8 : (Jvm.Cond.unhidden Kc y.name y.desc).before a0 Z = true) (w9 : (Jvm.Cond.castable Kc y.cls).before a0 Z = true) (w5 : (Jvm.Cond.code z bytes' maxL' ret').before a0 Z = true) (w6 : (Jvm.Cond.initialized z.cls).before a0 Z = true)
    (hy : y.cls ≠ "java/lang/invoke/MethodHandle" ∧ y.cls ≠ "java/lang/invoke/VarHandle") {ps : List FieldType} {r : Option FieldType} (hp : parseMethodDescriptor y.desc = some ⟨ps, r⟩) (hn : as'.length = ps.length) (hst : st = as'.reverse ++ .ref a :: rest) (hLs : Ls.length = maxL) (hfr : rm.frames + 1 ≤ R.frames) (hlo : (rest.map fun v => v.category).sum + (maxL' + 11) + rm.locals ≤ R.locals) (hc : cells + rm.cells ≤ R.cells) (hs : slots + rm.slots ≤ R.slots)
    (k : ∀ v h', Qc v h' → own_Go p l e R s m args below meth c n0 Q (cells + rm.cells) (slots + rm.slots) h' pn Ls (v.toList ++ rest)) : own_Go p l e R s m args below meth c n0 Q cells slots h pc Ls st := by
  obtain ⟨hd, rfl⟩ := d
  intro T locs ce sl h1 h2 hf X eT
  obtain ⟨cB, kB, qa, qb, qc⟩ := isOf C.2.1 eT E
  obtain ⟨v, _, ⟨T', L', k', n'⟩, -, X', ⟨Lc, hq, l', y', z'⟩, st'⟩ := X.interfaceBack C.1 (xi := y) (y := z) C.2.2.1 (mvT C.2.1 w1) (mvT C.2.1 w2) (mvT C.2.1 w2' hfa) (mvT C.2.1 w3) (mvT C.2.1 w4) (mvT C.2.1 w7) (mvT C.2.1 w8) (mvT C.2.1 w9) hy (backOf (W := (rest.map fun v => v.category).sum) (Q := fun v h L => Qc v h ∧ Fr n0 L) (K []) C.2.1 w5 w6 hfr hlo) qa qb qc (g := mkF m pc Ls.toArray st) rfl (by rw [C.2.2.2.2.1]; simpa using hLs) (Steps.refl _) (argsL := as') (rest := rest) (lenOf hp hn) hst (by simp) (hb C.2.2.2.1 hd) (fun _ _ => ⟨rfl, eT, Nat.le_trans (Nat.add_le_add_right h1 _) hc, Nat.le_trans (Nat.add_le_add_right h2 _) hs⟩)
  dsimp only [Pt.U, Pt.locs, Pt.cells, Pt.slots] at X' l' y' z' st' hq
  subst l' y' z'
  obtain ⟨s₂, o, g1, g2⟩ := k v T'.heap hq.1 T' _ _ _ (by omega) (by omega) (Fr.app hf hq.2) X' rfl
  exact ⟨s₂, o, st'.trans g1, g2⟩
end OwnKit
end Jvm.RoadKit
namespace Jvm.Pilot.@@N@@
open Jvm Jvm.ClassFile Sem Op Lib Jvm.Free Jvm.Stand Jvm.LawKit Jvm.RoadKit Bundle Jvm.Pilot.@@N@@.Jvm.D

theorem d0_0 : own_D code 0 (.iload_n 0) 1 1 := ⟨at_0, rfl⟩
theorem d0_1 : own_D code 1 (.iconst 3) 1 2 := ⟨at_1, rfl⟩
theorem d0_2 : own_D code 2 (.iand) 1 3 := ⟨at_2, rfl⟩
theorem d0_3 : own_D code 3 (.istore_n 2) 1 4 := ⟨at_3, rfl⟩
theorem d0_4 : own_D code 4 (.iload_n 1) 1 5 := ⟨at_4, rfl⟩
theorem d0_5 : own_D code 5 (.iconst 3) 1 6 := ⟨at_5, rfl⟩
theorem d0_6 : own_D code 6 (.iand) 1 7 := ⟨at_6, rfl⟩
theorem d0_7 : own_D code 7 (.istore_n 3) 1 8 := ⟨at_7, rfl⟩
theorem d0_8 : own_D code 8 (.iload_n 2) 1 9 := ⟨at_8, rfl⟩
theorem d0_9 : own_D code 9 (.invokestatic 22) 3 12 := ⟨at_9, rfl⟩
theorem d0_12 : own_D code 12 (.astore 4) 2 14 := ⟨at_12, rfl⟩
theorem d0_14 : own_D code 14 (.iload_n 3) 1 15 := ⟨at_14, rfl⟩
theorem d0_15 : own_D code 15 (.invokestatic 22) 3 18 := ⟨at_15, rfl⟩
theorem d0_18 : own_D code 18 (.astore 5) 2 20 := ⟨at_18, rfl⟩
theorem d0_20 : own_D code 20 (.aload 4) 2 22 := ⟨at_20, rfl⟩
theorem d0_22 : own_D code 22 (.aload 5) 2 24 := ⟨at_22, rfl⟩
theorem d0_24 : own_D code 24 (.invokevirtual 28) 3 27 := ⟨at_24, rfl⟩
theorem d0_27 : own_D code 27 (.astore 6) 2 29 := ⟨at_27, rfl⟩
theorem d0_29 : own_D code 29 (.aload 6) 2 31 := ⟨at_29, rfl⟩
theorem d0_31 : own_D code 31 (.iload_n 2) 1 32 := ⟨at_31, rfl⟩
theorem d0_32 : own_D code 32 (.iload_n 3) 1 33 := ⟨at_32, rfl⟩
theorem d0_33 : own_D code 33 (.invokestatic 32) 3 36 := ⟨at_33, rfl⟩
theorem d0_36 : own_D code 36 (.invokestatic 22) 3 39 := ⟨at_36, rfl⟩
theorem d0_39 : own_D code 39 (.if_acmp .ne 7) 3 42 := ⟨at_39, rfl⟩
theorem t0_39 : own_T 39 (7) 46 := ⟨by decide, by decide⟩
theorem d0_42 : own_D code 42 (.iconst 1) 1 43 := ⟨at_42, rfl⟩
theorem d0_43 : own_D code 43 (.goto 4) 3 46 := ⟨at_43, rfl⟩
theorem t0_43 : own_T 43 (4) 47 := ⟨by decide, by decide⟩
theorem d0_46 : own_D code 46 (.iconst 0) 1 47 := ⟨at_46, rfl⟩
theorem d0_47 : own_D code 47 (.ireturn) 1 48 := ⟨at_47, rfl⟩
theorem pd0 : parseMethodDescriptor "(II)Z" = some ⟨[.int, .int], some .boolean⟩ := by decide +kernel
theorem pn0 : plainFor x = true := plainFor_of_name (x := x) (show plainName "com/example/sinkwell/sinkwell/dataflow/TaintJoinPinLaw" = true by first | (simp [plainName, overriddenIn]; done) | decide +kernel)
theorem d1_0 : own_D method_2_code 0 (.iload_n 0) 1 1 := ⟨by decide +kernel, rfl⟩
theorem d1_1 : own_D method_2_code 1 (.ifCond .ne 7) 3 4 := ⟨by decide +kernel, rfl⟩
theorem t1_1 : own_T 1 (7) 8 := ⟨by decide, by decide⟩
theorem d1_4 : own_D method_2_code 4 (.getstatic 7) 3 7 := ⟨by decide +kernel, rfl⟩
theorem d1_7 : own_D method_2_code 7 (.areturn) 1 8 := ⟨by decide +kernel, rfl⟩
theorem d1_8 : own_D method_2_code 8 (.iload_n 0) 1 9 := ⟨by decide +kernel, rfl⟩
theorem d1_9 : own_D method_2_code 9 (.iconst 1) 1 10 := ⟨by decide +kernel, rfl⟩
theorem d1_10 : own_D method_2_code 10 (.if_icmp .ne 7) 3 13 := ⟨by decide +kernel, rfl⟩
theorem t1_10 : own_T 10 (7) 17 := ⟨by decide, by decide⟩
theorem d1_13 : own_D method_2_code 13 (.getstatic 13) 3 16 := ⟨by decide +kernel, rfl⟩
theorem d1_16 : own_D method_2_code 16 (.areturn) 1 17 := ⟨by decide +kernel, rfl⟩
theorem d1_17 : own_D method_2_code 17 (.iload_n 0) 1 18 := ⟨by decide +kernel, rfl⟩
theorem d1_18 : own_D method_2_code 18 (.iconst 2) 1 19 := ⟨by decide +kernel, rfl⟩
theorem d1_19 : own_D method_2_code 19 (.if_icmp .ne 7) 3 22 := ⟨by decide +kernel, rfl⟩
theorem t1_19 : own_T 19 (7) 26 := ⟨by decide, by decide⟩
theorem d1_22 : own_D method_2_code 22 (.getstatic 16) 3 25 := ⟨by decide +kernel, rfl⟩
theorem d1_25 : own_D method_2_code 25 (.areturn) 1 26 := ⟨by decide +kernel, rfl⟩
theorem d1_26 : own_D method_2_code 26 (.getstatic 19) 3 29 := ⟨by decide +kernel, rfl⟩
theorem d1_29 : own_D method_2_code 29 (.areturn) 1 30 := ⟨by decide +kernel, rfl⟩
theorem pd1 : parseMethodDescriptor "(I)Lcom/example/sinkwell/sinkwell/dataflow/Taint;" = some ⟨[.int], some (.object "com/example/sinkwell/sinkwell/dataflow/Taint")⟩ := by decide +kernel
theorem pn1 : plainFor (⟨"com/example/sinkwell/sinkwell/dataflow/TaintJoinPinLaw", "pick", "(I)Lcom/example/sinkwell/sinkwell/dataflow/Taint;"⟩ : MethodName) = true := plainFor_of_name (x := (⟨"com/example/sinkwell/sinkwell/dataflow/TaintJoinPinLaw", "pick", "(I)Lcom/example/sinkwell/sinkwell/dataflow/Taint;"⟩ : MethodName)) (show plainName "com/example/sinkwell/sinkwell/dataflow/TaintJoinPinLaw" = true by first | (simp [plainName, overriddenIn]; done) | decide +kernel)
theorem d2_0 : own_D prog_10_method_4_code 0 (.aload_n 0) 1 1 := ⟨by decide +kernel, rfl⟩
theorem d2_1 : own_D prog_10_method_4_code 1 (.aload_n 1) 1 2 := ⟨by decide +kernel, rfl⟩
theorem d2_2 : own_D prog_10_method_4_code 2 (.invokevirtual 35) 3 5 := ⟨by decide +kernel, rfl⟩
theorem d2_5 : own_D prog_10_method_4_code 5 (.ifCond .lt 7) 3 8 := ⟨by decide +kernel, rfl⟩
theorem t2_5 : own_T 5 (7) 12 := ⟨by decide, by decide⟩
theorem d2_8 : own_D prog_10_method_4_code 8 (.aload_n 0) 1 9 := ⟨by decide +kernel, rfl⟩
theorem d2_9 : own_D prog_10_method_4_code 9 (.goto 4) 3 12 := ⟨by decide +kernel, rfl⟩
theorem t2_9 : own_T 9 (4) 13 := ⟨by decide, by decide⟩
theorem d2_12 : own_D prog_10_method_4_code 12 (.aload_n 1) 1 13 := ⟨by decide +kernel, rfl⟩
theorem d2_13 : own_D prog_10_method_4_code 13 (.areturn) 1 14 := ⟨by decide +kernel, rfl⟩
theorem pd2 : parseMethodDescriptor "(Lcom/example/sinkwell/sinkwell/dataflow/Taint;)Lcom/example/sinkwell/sinkwell/dataflow/Taint;" = some ⟨[(.object "com/example/sinkwell/sinkwell/dataflow/Taint")], some (.object "com/example/sinkwell/sinkwell/dataflow/Taint")⟩ := by decide +kernel
theorem pn2 : plainFor (⟨"com/example/sinkwell/sinkwell/dataflow/Taint", "join", "(Lcom/example/sinkwell/sinkwell/dataflow/Taint;)Lcom/example/sinkwell/sinkwell/dataflow/Taint;"⟩ : MethodName) = true := plainFor_of_name (x := (⟨"com/example/sinkwell/sinkwell/dataflow/Taint", "join", "(Lcom/example/sinkwell/sinkwell/dataflow/Taint;)Lcom/example/sinkwell/sinkwell/dataflow/Taint;"⟩ : MethodName)) (show plainName "com/example/sinkwell/sinkwell/dataflow/Taint" = true by first | (simp [plainName, overriddenIn]; done) | decide +kernel)
theorem d3_0 : own_D jdk_37_method_8_code 0 (.aload_n 1) 1 1 := ⟨by decide +kernel, rfl⟩
theorem d3_1 : own_D jdk_37_method_8_code 1 (.astore_n 2) 1 2 := ⟨by decide +kernel, rfl⟩
theorem d3_2 : own_D jdk_37_method_8_code 2 (.aload_n 0) 1 3 := ⟨by decide +kernel, rfl⟩
theorem d3_3 : own_D jdk_37_method_8_code 3 (.astore_n 3) 1 4 := ⟨by decide +kernel, rfl⟩
theorem d3_4 : own_D jdk_37_method_8_code 4 (.aload_n 3) 1 5 := ⟨by decide +kernel, rfl⟩
theorem d3_5 : own_D jdk_37_method_8_code 5 (.invokevirtual 29) 3 8 := ⟨by decide +kernel, rfl⟩
theorem d3_8 : own_D jdk_37_method_8_code 8 (.aload_n 2) 1 9 := ⟨by decide +kernel, rfl⟩
theorem d3_9 : own_D jdk_37_method_8_code 9 (.invokevirtual 29) 3 12 := ⟨by decide +kernel, rfl⟩
theorem d3_12 : own_D jdk_37_method_8_code 12 (.if_acmp .eq 22) 3 15 := ⟨by decide +kernel, rfl⟩
theorem t3_12 : own_T 12 (22) 34 := ⟨by decide, by decide⟩
theorem d3_15 : own_D jdk_37_method_8_code 15 (.aload_n 3) 1 16 := ⟨by decide +kernel, rfl⟩
theorem d3_16 : own_D jdk_37_method_8_code 16 (.invokevirtual 33) 3 19 := ⟨by decide +kernel, rfl⟩
theorem d3_19 : own_D jdk_37_method_8_code 19 (.aload_n 2) 1 20 := ⟨by decide +kernel, rfl⟩
theorem d3_20 : own_D jdk_37_method_8_code 20 (.invokevirtual 33) 3 23 := ⟨by decide +kernel, rfl⟩
theorem d3_23 : own_D jdk_37_method_8_code 23 (.if_acmp .eq 11) 3 26 := ⟨by decide +kernel, rfl⟩
theorem t3_23 : own_T 23 (11) 34 := ⟨by decide, by decide⟩
theorem d3_26 : own_D jdk_37_method_8_code 26 (.new 36) 3 29 := ⟨by decide +kernel, rfl⟩
theorem d3_29 : own_D jdk_37_method_8_code 29 (.dup) 1 30 := ⟨by decide +kernel, rfl⟩
theorem d3_30 : own_D jdk_37_method_8_code 30 (.invokespecial 38) 3 33 := ⟨by decide +kernel, rfl⟩
theorem d3_33 : own_D jdk_37_method_8_code 33 (.athrow) 1 34 := ⟨by decide +kernel, rfl⟩
theorem d3_34 : own_D jdk_37_method_8_code 34 (.aload_n 3) 1 35 := ⟨by decide +kernel, rfl⟩
theorem d3_35 : own_D jdk_37_method_8_code 35 (.getfield 7) 3 38 := ⟨by decide +kernel, rfl⟩
theorem d3_38 : own_D jdk_37_method_8_code 38 (.aload_n 2) 1 39 := ⟨by decide +kernel, rfl⟩
theorem d3_39 : own_D jdk_37_method_8_code 39 (.getfield 7) 3 42 := ⟨by decide +kernel, rfl⟩
theorem d3_42 : own_D jdk_37_method_8_code 42 (.isub) 1 43 := ⟨by decide +kernel, rfl⟩
theorem d3_43 : own_D jdk_37_method_8_code 43 (.ireturn) 1 44 := ⟨by decide +kernel, rfl⟩
theorem pd3 : parseMethodDescriptor "(Ljava/lang/Enum;)I" = some ⟨[(.object "java/lang/Enum")], some .int⟩ := by decide +kernel
theorem pn3 : plainFor (⟨"java/lang/Enum", "compareTo", "(Ljava/lang/Enum;)I"⟩ : MethodName) = true := plainFor_of_name (x := (⟨"java/lang/Enum", "compareTo", "(Ljava/lang/Enum;)I"⟩ : MethodName)) (show plainName "java/lang/Enum" = true by first | (simp [plainName, overriddenIn]; done) | decide +kernel)
theorem d4_0 : own_D jdk_29_method_65_code 0 (.iload_n 0) 1 1 := ⟨by decide +kernel, rfl⟩
theorem d4_1 : own_D jdk_29_method_65_code 1 (.iload_n 1) 1 2 := ⟨by decide +kernel, rfl⟩
theorem d4_2 : own_D jdk_29_method_65_code 2 (.if_icmp .lt 7) 3 5 := ⟨by decide +kernel, rfl⟩
theorem t4_2 : own_T 2 (7) 9 := ⟨by decide, by decide⟩
theorem d4_5 : own_D jdk_29_method_65_code 5 (.iload_n 0) 1 6 := ⟨by decide +kernel, rfl⟩
theorem d4_6 : own_D jdk_29_method_65_code 6 (.goto 4) 3 9 := ⟨by decide +kernel, rfl⟩
theorem t4_6 : own_T 6 (4) 10 := ⟨by decide, by decide⟩
theorem d4_9 : own_D jdk_29_method_65_code 9 (.iload_n 1) 1 10 := ⟨by decide +kernel, rfl⟩
theorem d4_10 : own_D jdk_29_method_65_code 10 (.ireturn) 1 11 := ⟨by decide +kernel, rfl⟩
theorem pd4 : parseMethodDescriptor "(II)I" = some ⟨[.int, .int], some .int⟩ := by decide +kernel
theorem pn4 : plainFor (⟨"java/lang/Math", "max", "(II)I"⟩ : MethodName) = true := by decide +kernel
set_option maxRecDepth 65536 in
set_option maxHeartbeats 40000000 in
theorem own_pick_0 (l : Launch) (Z : State) (a0 : Array Value) (hw : ∀ d ∈ tables_1, d.before a0 Z = true) (n0 : Nat) (h : Heap) (a : Addr) (S_NULL : Sta Z h "com/example/sinkwell/sinkwell/dataflow/Taint" "NULL" "Lcom/example/sinkwell/sinkwell/dataflow/Taint;" (.ref a)) : own_Con l Z (⟨"com/example/sinkwell/sinkwell/dataflow/TaintJoinPinLaw", "pick", "(I)Lcom/example/sinkwell/sinkwell/dataflow/Taint;"⟩ : MethodName) method_2_code 1 (some (.object "com/example/sinkwell/sinkwell/dataflow/Taint")) ({ frames := 0, cells := 0, slots := 0, locals := 0 } : Room) n0 [(.int (0 : Int32))] h (fun v h' => v = some (.ref a) ∧ h = h') := by
  refine own_Con.mk (Ls := [.val (.int (0 : Int32))]) pn1 (fun m => by first | (simp [entryFrame, mkF, argsToLocals, Value.category]; done) | rfl) ?_
  intro p e s m below meth c C
  refine own_iloadN C d1_0 rfl ?_
  refine own_ifne C d1_1 t1_1 (fun h' => absurd h' (by decide)) (fun _ => ?_)
  refine own_getS C d1_4 (hw _ (List.mem_of_getElem? (i := 4) rfl)) S_NULL ?_
  exact own_retA C d1_7 rfl rfl (by decide) (by decide) ⟨rfl, rfl⟩
set_option maxRecDepth 65536 in
set_option maxHeartbeats 40000000 in
theorem own_pick_1 (l : Launch) (Z : State) (a0 : Array Value) (hw : ∀ d ∈ tables_1, d.before a0 Z = true) (n0 : Nat) (h : Heap) (a : Addr) (S_SAFE : Sta Z h "com/example/sinkwell/sinkwell/dataflow/Taint" "SAFE" "Lcom/example/sinkwell/sinkwell/dataflow/Taint;" (.ref a)) : own_Con l Z (⟨"com/example/sinkwell/sinkwell/dataflow/TaintJoinPinLaw", "pick", "(I)Lcom/example/sinkwell/sinkwell/dataflow/Taint;"⟩ : MethodName) method_2_code 1 (some (.object "com/example/sinkwell/sinkwell/dataflow/Taint")) ({ frames := 0, cells := 0, slots := 0, locals := 0 } : Room) n0 [(.int (1 : Int32))] h (fun v h' => v = some (.ref a) ∧ h = h') := by
  refine own_Con.mk (Ls := [.val (.int (1 : Int32))]) pn1 (fun m => by first | (simp [entryFrame, mkF, argsToLocals, Value.category]; done) | rfl) ?_
  intro p e s m below meth c C
  refine own_iloadN C d1_0 rfl ?_
  refine own_ifne C d1_1 t1_1 (fun _ => ?_) (fun h' => absurd h' (by decide))
  refine own_iloadN C d1_8 rfl ?_
  refine own_iconst C (1 : Int32) d1_9 rfl ?_
  refine own_icmpne C d1_10 t1_10 (fun h' => absurd h' (by decide)) (fun _ => ?_)
  refine own_getS C d1_13 (hw _ (List.mem_of_getElem? (i := 35) rfl)) S_SAFE ?_
  exact own_retA C d1_16 rfl rfl (by decide) (by decide) ⟨rfl, rfl⟩
set_option maxRecDepth 65536 in
set_option maxHeartbeats 40000000 in
theorem own_pick_2 (l : Launch) (Z : State) (a0 : Array Value) (hw : ∀ d ∈ tables_1, d.before a0 Z = true) (n0 : Nat) (h : Heap) (a : Addr) (S_UNKNOWN : Sta Z h "com/example/sinkwell/sinkwell/dataflow/Taint" "UNKNOWN" "Lcom/example/sinkwell/sinkwell/dataflow/Taint;" (.ref a)) : own_Con l Z (⟨"com/example/sinkwell/sinkwell/dataflow/TaintJoinPinLaw", "pick", "(I)Lcom/example/sinkwell/sinkwell/dataflow/Taint;"⟩ : MethodName) method_2_code 1 (some (.object "com/example/sinkwell/sinkwell/dataflow/Taint")) ({ frames := 0, cells := 0, slots := 0, locals := 0 } : Room) n0 [(.int (2 : Int32))] h (fun v h' => v = some (.ref a) ∧ h = h') := by
  refine own_Con.mk (Ls := [.val (.int (2 : Int32))]) pn1 (fun m => by first | (simp [entryFrame, mkF, argsToLocals, Value.category]; done) | rfl) ?_
  intro p e s m below meth c C
  refine own_iloadN C d1_0 rfl ?_
  refine own_ifne C d1_1 t1_1 (fun _ => ?_) (fun h' => absurd h' (by decide))
  refine own_iloadN C d1_8 rfl ?_
  refine own_iconst C (1 : Int32) d1_9 rfl ?_
  refine own_icmpne C d1_10 t1_10 (fun _ => ?_) (fun h' => absurd h' (by decide))
  refine own_iloadN C d1_17 rfl ?_
  refine own_iconst C (2 : Int32) d1_18 rfl ?_
  refine own_icmpne C d1_19 t1_19 (fun h' => absurd h' (by decide)) (fun _ => ?_)
  refine own_getS C d1_22 (hw _ (List.mem_of_getElem? (i := 33) rfl)) S_UNKNOWN ?_
  exact own_retA C d1_25 rfl rfl (by decide) (by decide) ⟨rfl, rfl⟩
set_option maxRecDepth 65536 in
set_option maxHeartbeats 40000000 in
theorem own_pick_3 (l : Launch) (Z : State) (a0 : Array Value) (hw : ∀ d ∈ tables_1, d.before a0 Z = true) (n0 : Nat) (h : Heap) (a : Addr) (S_TAINTED : Sta Z h "com/example/sinkwell/sinkwell/dataflow/Taint" "TAINTED" "Lcom/example/sinkwell/sinkwell/dataflow/Taint;" (.ref a)) : own_Con l Z (⟨"com/example/sinkwell/sinkwell/dataflow/TaintJoinPinLaw", "pick", "(I)Lcom/example/sinkwell/sinkwell/dataflow/Taint;"⟩ : MethodName) method_2_code 1 (some (.object "com/example/sinkwell/sinkwell/dataflow/Taint")) ({ frames := 0, cells := 0, slots := 0, locals := 0 } : Room) n0 [(.int (3 : Int32))] h (fun v h' => v = some (.ref a) ∧ h = h') := by
  refine own_Con.mk (Ls := [.val (.int (3 : Int32))]) pn1 (fun m => by first | (simp [entryFrame, mkF, argsToLocals, Value.category]; done) | rfl) ?_
  intro p e s m below meth c C
  refine own_iloadN C d1_0 rfl ?_
  refine own_ifne C d1_1 t1_1 (fun _ => ?_) (fun h' => absurd h' (by decide))
  refine own_iloadN C d1_8 rfl ?_
  refine own_iconst C (1 : Int32) d1_9 rfl ?_
  refine own_icmpne C d1_10 t1_10 (fun _ => ?_) (fun h' => absurd h' (by decide))
  refine own_iloadN C d1_17 rfl ?_
  refine own_iconst C (2 : Int32) d1_18 rfl ?_
  refine own_icmpne C d1_19 t1_19 (fun _ => ?_) (fun h' => absurd h' (by decide))
  refine own_getS C d1_26 (hw _ (List.mem_of_getElem? (i := 7) rfl)) S_TAINTED ?_
  exact own_retA C d1_29 rfl rfl (by decide) (by decide) ⟨rfl, rfl⟩
set_option maxRecDepth 65536 in
set_option maxHeartbeats 40000000 in
theorem own_max_lt (l : Launch) (Z : State) (a0 : Array Value) (hw : ∀ d ∈ tables_1, d.before a0 Z = true) (n0 : Nat) (h : Heap) (x y : Int32) (q : x < y) : own_Con l Z (⟨"java/lang/Math", "max", "(II)I"⟩ : MethodName) jdk_29_method_65_code 2 (some .int) ({ frames := 0, cells := 0, slots := 0, locals := 0 } : Room) n0 [(.int x), (.int y)] h (fun v h' => v = some (.int y) ∧ h = h') := by
  refine own_Con.mk (Ls := [.val (.int x), .val (.int y)]) pn4 (fun m => by first | (simp [entryFrame, mkF, argsToLocals, Value.category]; done) | rfl) ?_
  intro p e s m below meth c C
  refine own_iloadN C d4_0 rfl ?_
  refine own_iloadN C d4_1 rfl ?_
  refine own_icmplt C d4_2 t4_2 (fun _ => ?_) (fun h' => absurd h' (fun z => z q))
  refine own_iloadN C d4_9 rfl ?_
  exact own_retI C d4_10 (by decide) (by decide) ⟨rfl, rfl⟩
set_option maxRecDepth 65536 in
set_option maxHeartbeats 40000000 in
theorem own_max_ge (l : Launch) (Z : State) (a0 : Array Value) (hw : ∀ d ∈ tables_1, d.before a0 Z = true) (n0 : Nat) (h : Heap) (x y : Int32) (q : ¬ x < y) : own_Con l Z (⟨"java/lang/Math", "max", "(II)I"⟩ : MethodName) jdk_29_method_65_code 2 (some .int) ({ frames := 0, cells := 0, slots := 0, locals := 0 } : Room) n0 [(.int x), (.int y)] h (fun v h' => v = some (.int x) ∧ h = h') := by
  refine own_Con.mk (Ls := [.val (.int x), .val (.int y)]) pn4 (fun m => by first | (simp [entryFrame, mkF, argsToLocals, Value.category]; done) | rfl) ?_
  intro p e s m below meth c C
  refine own_iloadN C d4_0 rfl ?_
  refine own_iloadN C d4_1 rfl ?_
  refine own_icmplt C d4_2 t4_2 (fun h' => absurd h' q) (fun _ => ?_)
  refine own_iloadN C d4_5 rfl ?_
  refine own_goto C d4_6 t4_6 ?_
  exact own_retI C d4_10 (by decide) (by decide) ⟨rfl, rfl⟩
set_option maxRecDepth 65536 in
set_option maxHeartbeats 40000000 in
theorem own_cmp (l : Launch) (Z : State) (a0 : Array Value) (hw : ∀ d ∈ tables_1, d.before a0 Z = true) (n0 : Nat) (h : Heap) (a b mir : Addr) (i j : Int32) (E1 : Exa Z h a "com/example/sinkwell/sinkwell/dataflow/Taint") (E2 : Exa Z h b "com/example/sinkwell/sinkwell/dataflow/Taint") (F1 : Fld Z h a "java/lang/Enum" "ordinal" "I" (.int i)) (F2 : Fld Z h b "java/lang/Enum" "ordinal" "I" (.int j)) (M : ∃ (cc : ClassId) (kc : Class), Z.vm.findClass "com/example/sinkwell/sinkwell/dataflow/Taint" = some cc ∧ Z.vm.classes[cc]? = some kc ∧ kc.mirror = some mir) : own_Con l Z (⟨"java/lang/Enum", "compareTo", "(Ljava/lang/Enum;)I"⟩ : MethodName) jdk_37_method_8_code 4 (some .int) ({ frames := 1, cells := 0, slots := 0, locals := 60 } : Room) n0 [(.ref a), (.ref b)] h (fun v h' => v = some (.int (i - j)) ∧ h = h') := by
  refine own_Con.mk (Ls := [.val (.ref a), .val (.ref b), .unset, .unset]) pn3 (fun m => by first | (simp [entryFrame, mkF, argsToLocals, Value.category]; done) | rfl) ?_
  intro p e s m below meth c C
  refine own_aloadN C d3_0 rfl rfl ?_
  refine own_astoreN C 2 d3_1 rfl rfl rfl rfl ?_
  refine own_aloadN C d3_2 rfl rfl ?_
  refine own_astoreN C 3 d3_3 rfl rfl rfl rfl ?_
  refine own_aloadN C d3_4 rfl rfl ?_
  refine own_getClass C d3_5 (hw _ (List.mem_of_getElem? (i := 21) rfl)) (hw _ (List.mem_of_getElem? (i := 22) rfl)) (hw _ (List.mem_of_getElem? (i := 24) rfl)) (hw _ (List.mem_of_getElem? (i := 23) rfl)) (hw _ (List.mem_of_getElem? (i := 25) rfl)) E1 M rfl (by decide) (Nat.le_of_ble_eq_true rfl) ?_
  refine own_aloadN C d3_8 rfl rfl ?_
  refine own_getClass C d3_9 (hw _ (List.mem_of_getElem? (i := 21) rfl)) (hw _ (List.mem_of_getElem? (i := 22) rfl)) (hw _ (List.mem_of_getElem? (i := 24) rfl)) (hw _ (List.mem_of_getElem? (i := 23) rfl)) (hw _ (List.mem_of_getElem? (i := 25) rfl)) E2 M rfl (by decide) (Nat.le_of_ble_eq_true rfl) ?_
  refine own_acmpeq C d3_12 t3_12 rfl rfl (fun _ => ?_) (fun h' => absurd h' (fun z => z rfl))
  refine own_aloadN C d3_34 rfl rfl ?_
  refine own_getF C d3_35 (hw _ (List.mem_of_getElem? (i := 27) rfl)) Via.refl F1 ?_
  refine own_aloadN C d3_38 rfl rfl ?_
  refine own_getF C d3_39 (hw _ (List.mem_of_getElem? (i := 27) rfl)) Via.refl F2 ?_
  refine own_isub C d3_42 ?_
  exact own_retI C d3_43 (by decide) (by decide) ⟨rfl, rfl⟩
set_option maxRecDepth 65536 in
set_option maxHeartbeats 40000000 in
theorem own_join_lt (l : Launch) (Z : State) (a0 : Array Value) (hw : ∀ d ∈ tables_1, d.before a0 Z = true) (n0 : Nat) (h : Heap) (a b mir : Addr) (i j : Int32) (E1 : Exa Z h a "com/example/sinkwell/sinkwell/dataflow/Taint") (E2 : Exa Z h b "com/example/sinkwell/sinkwell/dataflow/Taint") (F1 : Fld Z h a "java/lang/Enum" "ordinal" "I" (.int i)) (F2 : Fld Z h b "java/lang/Enum" "ordinal" "I" (.int j)) (M : ∃ (cc : ClassId) (kc : Class), Z.vm.findClass "com/example/sinkwell/sinkwell/dataflow/Taint" = some cc ∧ Z.vm.classes[cc]? = some kc ∧ kc.mirror = some mir) (q : i - j < 0) : own_Con l Z (⟨"com/example/sinkwell/sinkwell/dataflow/Taint", "join", "(Lcom/example/sinkwell/sinkwell/dataflow/Taint;)Lcom/example/sinkwell/sinkwell/dataflow/Taint;"⟩ : MethodName) prog_10_method_4_code 2 (some (.object "com/example/sinkwell/sinkwell/dataflow/Taint")) ({ frames := 2, cells := 0, slots := 0, locals := 76 } : Room) n0 [(.ref a), (.ref b)] h (fun v h' => v = some (.ref b) ∧ h = h') := by
  refine own_Con.mk (Ls := [.val (.ref a), .val (.ref b)]) pn2 (fun m => by first | (simp [entryFrame, mkF, argsToLocals, Value.category]; done) | rfl) ?_
  intro p e s m below meth c C
  refine own_aloadN C d2_0 rfl rfl ?_
  refine own_aloadN C d2_1 rfl rfl ?_
  refine own_callU C (own_cmp l Z a0 hw n0 h a b mir i j E1 E2 F1 F2 M) E1 d2_2 (hw _ (List.mem_of_getElem? (i := 14) rfl)) (hw _ (List.mem_of_getElem? (i := 15) rfl)) (hw _ (List.mem_of_getElem? (i := 16) rfl)) (hw _ (List.mem_of_getElem? (i := 18) rfl)) (hw _ (List.mem_of_getElem? (i := 17) rfl)) (hw _ (List.mem_of_getElem? (i := 20) rfl)) (hw _ (List.mem_of_getElem? (i := 19) rfl)) (by decide) pd3 rfl rfl rfl (by decide) (Nat.le_of_ble_eq_true rfl) (by decide) (by decide) ?_
  rintro _ _ ⟨rfl, rfl⟩
  refine own_iflt C d2_5 t2_5 (fun _ => ?_) (fun h' => absurd h' (fun z => z q))
  refine own_aloadN C d2_12 rfl rfl ?_
  exact own_retA C d2_13 rfl rfl (by decide) (by decide) ⟨rfl, rfl⟩
set_option maxRecDepth 65536 in
set_option maxHeartbeats 40000000 in
theorem own_join_ge (l : Launch) (Z : State) (a0 : Array Value) (hw : ∀ d ∈ tables_1, d.before a0 Z = true) (n0 : Nat) (h : Heap) (a b mir : Addr) (i j : Int32) (E1 : Exa Z h a "com/example/sinkwell/sinkwell/dataflow/Taint") (E2 : Exa Z h b "com/example/sinkwell/sinkwell/dataflow/Taint") (F1 : Fld Z h a "java/lang/Enum" "ordinal" "I" (.int i)) (F2 : Fld Z h b "java/lang/Enum" "ordinal" "I" (.int j)) (M : ∃ (cc : ClassId) (kc : Class), Z.vm.findClass "com/example/sinkwell/sinkwell/dataflow/Taint" = some cc ∧ Z.vm.classes[cc]? = some kc ∧ kc.mirror = some mir) (q : ¬ i - j < 0) : own_Con l Z (⟨"com/example/sinkwell/sinkwell/dataflow/Taint", "join", "(Lcom/example/sinkwell/sinkwell/dataflow/Taint;)Lcom/example/sinkwell/sinkwell/dataflow/Taint;"⟩ : MethodName) prog_10_method_4_code 2 (some (.object "com/example/sinkwell/sinkwell/dataflow/Taint")) ({ frames := 2, cells := 0, slots := 0, locals := 76 } : Room) n0 [(.ref a), (.ref b)] h (fun v h' => v = some (.ref a) ∧ h = h') := by
  refine own_Con.mk (Ls := [.val (.ref a), .val (.ref b)]) pn2 (fun m => by first | (simp [entryFrame, mkF, argsToLocals, Value.category]; done) | rfl) ?_
  intro p e s m below meth c C
  refine own_aloadN C d2_0 rfl rfl ?_
  refine own_aloadN C d2_1 rfl rfl ?_
  refine own_callU C (own_cmp l Z a0 hw n0 h a b mir i j E1 E2 F1 F2 M) E1 d2_2 (hw _ (List.mem_of_getElem? (i := 14) rfl)) (hw _ (List.mem_of_getElem? (i := 15) rfl)) (hw _ (List.mem_of_getElem? (i := 16) rfl)) (hw _ (List.mem_of_getElem? (i := 18) rfl)) (hw _ (List.mem_of_getElem? (i := 17) rfl)) (hw _ (List.mem_of_getElem? (i := 20) rfl)) (hw _ (List.mem_of_getElem? (i := 19) rfl)) (by decide) pd3 rfl rfl rfl (by decide) (Nat.le_of_ble_eq_true rfl) (by decide) (by decide) ?_
  rintro _ _ ⟨rfl, rfl⟩
  refine own_iflt C d2_5 t2_5 (fun h' => absurd h' q) (fun _ => ?_)
  refine own_aloadN C d2_8 rfl rfl ?_
  refine own_goto C d2_9 t2_9 ?_
  exact own_retA C d2_13 rfl rfl (by decide) (by decide) ⟨rfl, rfl⟩
theorem own_four (x : Int32) : x &&& 3 = 0 ∨ x &&& 3 = 1 ∨ x &&& 3 = 2 ∨ x &&& 3 = 3 := by
  have h1 := c_mask x 3 2 (by decide) (by decide)
  simp only [← Int32.toInt_inj]
  have e0 : (0 : Int32).toInt = 0 := rfl
  have e1 : (1 : Int32).toInt = 1 := rfl
  have e2 : (2 : Int32).toInt = 2 := rfl
  have e3 : (3 : Int32).toInt = 3 := rfl
  rw [h1, e0, e1, e2, e3]
  omega
set_option maxRecDepth 65536 in
set_option maxHeartbeats 40000000 in
theorem own_law (l : Launch) (Z : State) (a0 : Array Value) (hw : ∀ d ∈ tables_1, d.before a0 Z = true) (n0 : Nat) (h : Heap) (i0 i1 : Int32) (mir : Addr) (a_NULL : Addr) (S_NULL : Sta Z h "com/example/sinkwell/sinkwell/dataflow/Taint" "NULL" "Lcom/example/sinkwell/sinkwell/dataflow/Taint;" (.ref a_NULL)) (E_NULL : Exa Z h a_NULL "com/example/sinkwell/sinkwell/dataflow/Taint") (a_TAINTED : Addr) (S_TAINTED : Sta Z h "com/example/sinkwell/sinkwell/dataflow/Taint" "TAINTED" "Lcom/example/sinkwell/sinkwell/dataflow/Taint;" (.ref a_TAINTED)) (E_TAINTED : Exa Z h a_TAINTED "com/example/sinkwell/sinkwell/dataflow/Taint") (a_UNKNOWN : Addr) (S_UNKNOWN : Sta Z h "com/example/sinkwell/sinkwell/dataflow/Taint" "UNKNOWN" "Lcom/example/sinkwell/sinkwell/dataflow/Taint;" (.ref a_UNKNOWN)) (E_UNKNOWN : Exa Z h a_UNKNOWN "com/example/sinkwell/sinkwell/dataflow/Taint") (a_SAFE : Addr) (S_SAFE : Sta Z h "com/example/sinkwell/sinkwell/dataflow/Taint" "SAFE" "Lcom/example/sinkwell/sinkwell/dataflow/Taint;" (.ref a_SAFE)) (E_SAFE : Exa Z h a_SAFE "com/example/sinkwell/sinkwell/dataflow/Taint") (F_NULL_ordinal : Fld Z h a_NULL "java/lang/Enum" "ordinal" "I" (.int (0 : Int32))) (F_TAINTED_ordinal : Fld Z h a_TAINTED "java/lang/Enum" "ordinal" "I" (.int (3 : Int32))) (F_UNKNOWN_ordinal : Fld Z h a_UNKNOWN "java/lang/Enum" "ordinal" "I" (.int (2 : Int32))) (F_SAFE_ordinal : Fld Z h a_SAFE "java/lang/Enum" "ordinal" "I" (.int (1 : Int32))) (M : ∃ (cc : ClassId) (kc : Class), Z.vm.findClass "com/example/sinkwell/sinkwell/dataflow/Taint" = some cc ∧ Z.vm.classes[cc]? = some kc ∧ kc.mirror = some mir)  : own_Con l Z x code maxLocals ret room_1 n0 [(.int i0), (.int i1)] h (fun v h' => v = some (.int (1 : Int32))) := by
  refine own_Con.mk (Ls := [.val (.int i0), .val (.int i1), .unset, .unset, .unset, .unset, .unset]) pn0 (fun m => by first | (simp [entryFrame, mkF, argsToLocals, Value.category, maxLocals]; done) | rfl) ?_
  intro p e s m below meth c C
  refine own_iloadN C d0_0 rfl ?_
  refine own_iconst C (3 : Int32) d0_1 rfl ?_
  refine own_iand C d0_2 ?_
  refine own_istoreN C 2 d0_3 rfl rfl rfl ?_
  refine own_iloadN C d0_4 rfl ?_
  refine own_iconst C (3 : Int32) d0_5 rfl ?_
  refine own_iand C d0_6 ?_
  refine own_istoreN C 3 d0_7 rfl rfl rfl ?_
  refine own_iloadN C d0_8 rfl ?_
  have hi := own_four i0
  have hj := own_four i1
  generalize i0 &&& 3 = i at hi ⊢
  generalize i1 &&& 3 = j at hj ⊢
  rcases hi with rfl | rfl | rfl | rfl <;> rcases hj with rfl | rfl | rfl | rfl
  · refine own_callS C (own_pick_0 l Z a0 hw n0 _ _ S_NULL) d0_9 (hw _ (List.mem_of_getElem? (i := 0) rfl)) (hw _ (List.mem_of_getElem? (i := 1) rfl)) (hw _ (List.mem_of_getElem? (i := 2) rfl)) (hw _ (List.mem_of_getElem? (i := 3) rfl)) (by decide) pd1 rfl rfl rfl (by decide) (Nat.le_of_ble_eq_true rfl) (by decide) (by decide) ?_
    rintro _ _ ⟨rfl, rfl⟩
    refine own_astore C 4 d0_12 rfl rfl rfl rfl ?_
    refine own_iloadN C d0_14 rfl ?_
    refine own_callS C (own_pick_0 l Z a0 hw n0 _ _ S_NULL) d0_15 (hw _ (List.mem_of_getElem? (i := 0) rfl)) (hw _ (List.mem_of_getElem? (i := 1) rfl)) (hw _ (List.mem_of_getElem? (i := 2) rfl)) (hw _ (List.mem_of_getElem? (i := 3) rfl)) (by decide) pd1 rfl rfl rfl (by decide) (Nat.le_of_ble_eq_true rfl) (by decide) (by decide) ?_
    rintro _ _ ⟨rfl, rfl⟩
    refine own_astore C 5 d0_18 rfl rfl rfl rfl ?_
    refine own_aload C d0_20 rfl rfl ?_
    refine own_aload C d0_22 rfl rfl ?_
    refine own_callV C (own_join_ge l Z a0 hw n0 _ _ _ mir 0 0 E_NULL E_NULL F_NULL_ordinal F_NULL_ordinal M (by decide)) E_NULL d0_24 (hw _ (List.mem_of_getElem? (i := 9) rfl)) (hw _ (List.mem_of_getElem? (i := 10) rfl)) (hw _ (List.mem_of_getElem? (i := 12) rfl)) (own_nf (args := #[]) C.2.1 (hw _ (List.mem_of_getElem? (i := 12) rfl))) (hw _ (List.mem_of_getElem? (i := 11) rfl)) (hw _ (List.mem_of_getElem? (i := 13) rfl)) (hw _ (List.mem_of_getElem? (i := 5) rfl)) (by decide) pd2 rfl rfl rfl (by decide) (Nat.le_of_ble_eq_true rfl) (by decide) (by decide) ?_
    rintro _ _ ⟨rfl, rfl⟩
    refine own_astore C 6 d0_27 rfl rfl rfl rfl ?_
    refine own_aload C d0_29 rfl rfl ?_
    refine own_iloadN C d0_31 rfl ?_
    refine own_iloadN C d0_32 rfl ?_
    refine own_callS C (own_max_ge l Z a0 hw n0 _ 0 0 (by decide)) d0_33 (hw _ (List.mem_of_getElem? (i := 29) rfl)) (hw _ (List.mem_of_getElem? (i := 30) rfl)) (hw _ (List.mem_of_getElem? (i := 31) rfl)) (hw _ (List.mem_of_getElem? (i := 32) rfl)) (by decide) pd4 rfl rfl rfl (by decide) (Nat.le_of_ble_eq_true rfl) (by decide) (by decide) ?_
    rintro _ _ ⟨rfl, rfl⟩
    refine own_callS C (own_pick_0 l Z a0 hw n0 _ _ S_NULL) d0_36 (hw _ (List.mem_of_getElem? (i := 0) rfl)) (hw _ (List.mem_of_getElem? (i := 1) rfl)) (hw _ (List.mem_of_getElem? (i := 2) rfl)) (hw _ (List.mem_of_getElem? (i := 3) rfl)) (by decide) pd1 rfl rfl rfl (by decide) (Nat.le_of_ble_eq_true rfl) (by decide) (by decide) ?_
    rintro _ _ ⟨rfl, rfl⟩
    refine own_acmpne C d0_39 t0_39 rfl rfl (fun h' => absurd h' (fun z => z rfl)) (fun _ => ?_)
    refine own_iconst C (1 : Int32) d0_42 rfl ?_
    refine own_goto C d0_43 t0_43 ?_
    exact own_retZ C d0_47 (Or.inr rfl) (by decide) (by decide) rfl
  · refine own_callS C (own_pick_0 l Z a0 hw n0 _ _ S_NULL) d0_9 (hw _ (List.mem_of_getElem? (i := 0) rfl)) (hw _ (List.mem_of_getElem? (i := 1) rfl)) (hw _ (List.mem_of_getElem? (i := 2) rfl)) (hw _ (List.mem_of_getElem? (i := 3) rfl)) (by decide) pd1 rfl rfl rfl (by decide) (Nat.le_of_ble_eq_true rfl) (by decide) (by decide) ?_
    rintro _ _ ⟨rfl, rfl⟩
    refine own_astore C 4 d0_12 rfl rfl rfl rfl ?_
    refine own_iloadN C d0_14 rfl ?_
    refine own_callS C (own_pick_1 l Z a0 hw n0 _ _ S_SAFE) d0_15 (hw _ (List.mem_of_getElem? (i := 0) rfl)) (hw _ (List.mem_of_getElem? (i := 1) rfl)) (hw _ (List.mem_of_getElem? (i := 2) rfl)) (hw _ (List.mem_of_getElem? (i := 3) rfl)) (by decide) pd1 rfl rfl rfl (by decide) (Nat.le_of_ble_eq_true rfl) (by decide) (by decide) ?_
    rintro _ _ ⟨rfl, rfl⟩
    refine own_astore C 5 d0_18 rfl rfl rfl rfl ?_
    refine own_aload C d0_20 rfl rfl ?_
    refine own_aload C d0_22 rfl rfl ?_
    refine own_callV C (own_join_lt l Z a0 hw n0 _ _ _ mir 0 1 E_NULL E_SAFE F_NULL_ordinal F_SAFE_ordinal M (by decide)) E_NULL d0_24 (hw _ (List.mem_of_getElem? (i := 9) rfl)) (hw _ (List.mem_of_getElem? (i := 10) rfl)) (hw _ (List.mem_of_getElem? (i := 12) rfl)) (own_nf (args := #[]) C.2.1 (hw _ (List.mem_of_getElem? (i := 12) rfl))) (hw _ (List.mem_of_getElem? (i := 11) rfl)) (hw _ (List.mem_of_getElem? (i := 13) rfl)) (hw _ (List.mem_of_getElem? (i := 5) rfl)) (by decide) pd2 rfl rfl rfl (by decide) (Nat.le_of_ble_eq_true rfl) (by decide) (by decide) ?_
    rintro _ _ ⟨rfl, rfl⟩
    refine own_astore C 6 d0_27 rfl rfl rfl rfl ?_
    refine own_aload C d0_29 rfl rfl ?_
    refine own_iloadN C d0_31 rfl ?_
    refine own_iloadN C d0_32 rfl ?_
    refine own_callS C (own_max_lt l Z a0 hw n0 _ 0 1 (by decide)) d0_33 (hw _ (List.mem_of_getElem? (i := 29) rfl)) (hw _ (List.mem_of_getElem? (i := 30) rfl)) (hw _ (List.mem_of_getElem? (i := 31) rfl)) (hw _ (List.mem_of_getElem? (i := 32) rfl)) (by decide) pd4 rfl rfl rfl (by decide) (Nat.le_of_ble_eq_true rfl) (by decide) (by decide) ?_
    rintro _ _ ⟨rfl, rfl⟩
    refine own_callS C (own_pick_1 l Z a0 hw n0 _ _ S_SAFE) d0_36 (hw _ (List.mem_of_getElem? (i := 0) rfl)) (hw _ (List.mem_of_getElem? (i := 1) rfl)) (hw _ (List.mem_of_getElem? (i := 2) rfl)) (hw _ (List.mem_of_getElem? (i := 3) rfl)) (by decide) pd1 rfl rfl rfl (by decide) (Nat.le_of_ble_eq_true rfl) (by decide) (by decide) ?_
    rintro _ _ ⟨rfl, rfl⟩
    refine own_acmpne C d0_39 t0_39 rfl rfl (fun h' => absurd h' (fun z => z rfl)) (fun _ => ?_)
    refine own_iconst C (1 : Int32) d0_42 rfl ?_
    refine own_goto C d0_43 t0_43 ?_
    exact own_retZ C d0_47 (Or.inr rfl) (by decide) (by decide) rfl
  · refine own_callS C (own_pick_0 l Z a0 hw n0 _ _ S_NULL) d0_9 (hw _ (List.mem_of_getElem? (i := 0) rfl)) (hw _ (List.mem_of_getElem? (i := 1) rfl)) (hw _ (List.mem_of_getElem? (i := 2) rfl)) (hw _ (List.mem_of_getElem? (i := 3) rfl)) (by decide) pd1 rfl rfl rfl (by decide) (Nat.le_of_ble_eq_true rfl) (by decide) (by decide) ?_
    rintro _ _ ⟨rfl, rfl⟩
    refine own_astore C 4 d0_12 rfl rfl rfl rfl ?_
    refine own_iloadN C d0_14 rfl ?_
    refine own_callS C (own_pick_2 l Z a0 hw n0 _ _ S_UNKNOWN) d0_15 (hw _ (List.mem_of_getElem? (i := 0) rfl)) (hw _ (List.mem_of_getElem? (i := 1) rfl)) (hw _ (List.mem_of_getElem? (i := 2) rfl)) (hw _ (List.mem_of_getElem? (i := 3) rfl)) (by decide) pd1 rfl rfl rfl (by decide) (Nat.le_of_ble_eq_true rfl) (by decide) (by decide) ?_
    rintro _ _ ⟨rfl, rfl⟩
    refine own_astore C 5 d0_18 rfl rfl rfl rfl ?_
    refine own_aload C d0_20 rfl rfl ?_
    refine own_aload C d0_22 rfl rfl ?_
    refine own_callV C (own_join_lt l Z a0 hw n0 _ _ _ mir 0 2 E_NULL E_UNKNOWN F_NULL_ordinal F_UNKNOWN_ordinal M (by decide)) E_NULL d0_24 (hw _ (List.mem_of_getElem? (i := 9) rfl)) (hw _ (List.mem_of_getElem? (i := 10) rfl)) (hw _ (List.mem_of_getElem? (i := 12) rfl)) (own_nf (args := #[]) C.2.1 (hw _ (List.mem_of_getElem? (i := 12) rfl))) (hw _ (List.mem_of_getElem? (i := 11) rfl)) (hw _ (List.mem_of_getElem? (i := 13) rfl)) (hw _ (List.mem_of_getElem? (i := 5) rfl)) (by decide) pd2 rfl rfl rfl (by decide) (Nat.le_of_ble_eq_true rfl) (by decide) (by decide) ?_
    rintro _ _ ⟨rfl, rfl⟩
    refine own_astore C 6 d0_27 rfl rfl rfl rfl ?_
    refine own_aload C d0_29 rfl rfl ?_
    refine own_iloadN C d0_31 rfl ?_
    refine own_iloadN C d0_32 rfl ?_
    refine own_callS C (own_max_lt l Z a0 hw n0 _ 0 2 (by decide)) d0_33 (hw _ (List.mem_of_getElem? (i := 29) rfl)) (hw _ (List.mem_of_getElem? (i := 30) rfl)) (hw _ (List.mem_of_getElem? (i := 31) rfl)) (hw _ (List.mem_of_getElem? (i := 32) rfl)) (by decide) pd4 rfl rfl rfl (by decide) (Nat.le_of_ble_eq_true rfl) (by decide) (by decide) ?_
    rintro _ _ ⟨rfl, rfl⟩
    refine own_callS C (own_pick_2 l Z a0 hw n0 _ _ S_UNKNOWN) d0_36 (hw _ (List.mem_of_getElem? (i := 0) rfl)) (hw _ (List.mem_of_getElem? (i := 1) rfl)) (hw _ (List.mem_of_getElem? (i := 2) rfl)) (hw _ (List.mem_of_getElem? (i := 3) rfl)) (by decide) pd1 rfl rfl rfl (by decide) (Nat.le_of_ble_eq_true rfl) (by decide) (by decide) ?_
    rintro _ _ ⟨rfl, rfl⟩
    refine own_acmpne C d0_39 t0_39 rfl rfl (fun h' => absurd h' (fun z => z rfl)) (fun _ => ?_)
    refine own_iconst C (1 : Int32) d0_42 rfl ?_
    refine own_goto C d0_43 t0_43 ?_
    exact own_retZ C d0_47 (Or.inr rfl) (by decide) (by decide) rfl
  · refine own_callS C (own_pick_0 l Z a0 hw n0 _ _ S_NULL) d0_9 (hw _ (List.mem_of_getElem? (i := 0) rfl)) (hw _ (List.mem_of_getElem? (i := 1) rfl)) (hw _ (List.mem_of_getElem? (i := 2) rfl)) (hw _ (List.mem_of_getElem? (i := 3) rfl)) (by decide) pd1 rfl rfl rfl (by decide) (Nat.le_of_ble_eq_true rfl) (by decide) (by decide) ?_
    rintro _ _ ⟨rfl, rfl⟩
    refine own_astore C 4 d0_12 rfl rfl rfl rfl ?_
    refine own_iloadN C d0_14 rfl ?_
    refine own_callS C (own_pick_3 l Z a0 hw n0 _ _ S_TAINTED) d0_15 (hw _ (List.mem_of_getElem? (i := 0) rfl)) (hw _ (List.mem_of_getElem? (i := 1) rfl)) (hw _ (List.mem_of_getElem? (i := 2) rfl)) (hw _ (List.mem_of_getElem? (i := 3) rfl)) (by decide) pd1 rfl rfl rfl (by decide) (Nat.le_of_ble_eq_true rfl) (by decide) (by decide) ?_
    rintro _ _ ⟨rfl, rfl⟩
    refine own_astore C 5 d0_18 rfl rfl rfl rfl ?_
    refine own_aload C d0_20 rfl rfl ?_
    refine own_aload C d0_22 rfl rfl ?_
    refine own_callV C (own_join_lt l Z a0 hw n0 _ _ _ mir 0 3 E_NULL E_TAINTED F_NULL_ordinal F_TAINTED_ordinal M (by decide)) E_NULL d0_24 (hw _ (List.mem_of_getElem? (i := 9) rfl)) (hw _ (List.mem_of_getElem? (i := 10) rfl)) (hw _ (List.mem_of_getElem? (i := 12) rfl)) (own_nf (args := #[]) C.2.1 (hw _ (List.mem_of_getElem? (i := 12) rfl))) (hw _ (List.mem_of_getElem? (i := 11) rfl)) (hw _ (List.mem_of_getElem? (i := 13) rfl)) (hw _ (List.mem_of_getElem? (i := 5) rfl)) (by decide) pd2 rfl rfl rfl (by decide) (Nat.le_of_ble_eq_true rfl) (by decide) (by decide) ?_
    rintro _ _ ⟨rfl, rfl⟩
    refine own_astore C 6 d0_27 rfl rfl rfl rfl ?_
    refine own_aload C d0_29 rfl rfl ?_
    refine own_iloadN C d0_31 rfl ?_
    refine own_iloadN C d0_32 rfl ?_
    refine own_callS C (own_max_lt l Z a0 hw n0 _ 0 3 (by decide)) d0_33 (hw _ (List.mem_of_getElem? (i := 29) rfl)) (hw _ (List.mem_of_getElem? (i := 30) rfl)) (hw _ (List.mem_of_getElem? (i := 31) rfl)) (hw _ (List.mem_of_getElem? (i := 32) rfl)) (by decide) pd4 rfl rfl rfl (by decide) (Nat.le_of_ble_eq_true rfl) (by decide) (by decide) ?_
    rintro _ _ ⟨rfl, rfl⟩
    refine own_callS C (own_pick_3 l Z a0 hw n0 _ _ S_TAINTED) d0_36 (hw _ (List.mem_of_getElem? (i := 0) rfl)) (hw _ (List.mem_of_getElem? (i := 1) rfl)) (hw _ (List.mem_of_getElem? (i := 2) rfl)) (hw _ (List.mem_of_getElem? (i := 3) rfl)) (by decide) pd1 rfl rfl rfl (by decide) (Nat.le_of_ble_eq_true rfl) (by decide) (by decide) ?_
    rintro _ _ ⟨rfl, rfl⟩
    refine own_acmpne C d0_39 t0_39 rfl rfl (fun h' => absurd h' (fun z => z rfl)) (fun _ => ?_)
    refine own_iconst C (1 : Int32) d0_42 rfl ?_
    refine own_goto C d0_43 t0_43 ?_
    exact own_retZ C d0_47 (Or.inr rfl) (by decide) (by decide) rfl
  · refine own_callS C (own_pick_1 l Z a0 hw n0 _ _ S_SAFE) d0_9 (hw _ (List.mem_of_getElem? (i := 0) rfl)) (hw _ (List.mem_of_getElem? (i := 1) rfl)) (hw _ (List.mem_of_getElem? (i := 2) rfl)) (hw _ (List.mem_of_getElem? (i := 3) rfl)) (by decide) pd1 rfl rfl rfl (by decide) (Nat.le_of_ble_eq_true rfl) (by decide) (by decide) ?_
    rintro _ _ ⟨rfl, rfl⟩
    refine own_astore C 4 d0_12 rfl rfl rfl rfl ?_
    refine own_iloadN C d0_14 rfl ?_
    refine own_callS C (own_pick_0 l Z a0 hw n0 _ _ S_NULL) d0_15 (hw _ (List.mem_of_getElem? (i := 0) rfl)) (hw _ (List.mem_of_getElem? (i := 1) rfl)) (hw _ (List.mem_of_getElem? (i := 2) rfl)) (hw _ (List.mem_of_getElem? (i := 3) rfl)) (by decide) pd1 rfl rfl rfl (by decide) (Nat.le_of_ble_eq_true rfl) (by decide) (by decide) ?_
    rintro _ _ ⟨rfl, rfl⟩
    refine own_astore C 5 d0_18 rfl rfl rfl rfl ?_
    refine own_aload C d0_20 rfl rfl ?_
    refine own_aload C d0_22 rfl rfl ?_
    refine own_callV C (own_join_ge l Z a0 hw n0 _ _ _ mir 1 0 E_SAFE E_NULL F_SAFE_ordinal F_NULL_ordinal M (by decide)) E_SAFE d0_24 (hw _ (List.mem_of_getElem? (i := 9) rfl)) (hw _ (List.mem_of_getElem? (i := 10) rfl)) (hw _ (List.mem_of_getElem? (i := 12) rfl)) (own_nf (args := #[]) C.2.1 (hw _ (List.mem_of_getElem? (i := 12) rfl))) (hw _ (List.mem_of_getElem? (i := 11) rfl)) (hw _ (List.mem_of_getElem? (i := 13) rfl)) (hw _ (List.mem_of_getElem? (i := 5) rfl)) (by decide) pd2 rfl rfl rfl (by decide) (Nat.le_of_ble_eq_true rfl) (by decide) (by decide) ?_
    rintro _ _ ⟨rfl, rfl⟩
    refine own_astore C 6 d0_27 rfl rfl rfl rfl ?_
    refine own_aload C d0_29 rfl rfl ?_
    refine own_iloadN C d0_31 rfl ?_
    refine own_iloadN C d0_32 rfl ?_
    refine own_callS C (own_max_ge l Z a0 hw n0 _ 1 0 (by decide)) d0_33 (hw _ (List.mem_of_getElem? (i := 29) rfl)) (hw _ (List.mem_of_getElem? (i := 30) rfl)) (hw _ (List.mem_of_getElem? (i := 31) rfl)) (hw _ (List.mem_of_getElem? (i := 32) rfl)) (by decide) pd4 rfl rfl rfl (by decide) (Nat.le_of_ble_eq_true rfl) (by decide) (by decide) ?_
    rintro _ _ ⟨rfl, rfl⟩
    refine own_callS C (own_pick_1 l Z a0 hw n0 _ _ S_SAFE) d0_36 (hw _ (List.mem_of_getElem? (i := 0) rfl)) (hw _ (List.mem_of_getElem? (i := 1) rfl)) (hw _ (List.mem_of_getElem? (i := 2) rfl)) (hw _ (List.mem_of_getElem? (i := 3) rfl)) (by decide) pd1 rfl rfl rfl (by decide) (Nat.le_of_ble_eq_true rfl) (by decide) (by decide) ?_
    rintro _ _ ⟨rfl, rfl⟩
    refine own_acmpne C d0_39 t0_39 rfl rfl (fun h' => absurd h' (fun z => z rfl)) (fun _ => ?_)
    refine own_iconst C (1 : Int32) d0_42 rfl ?_
    refine own_goto C d0_43 t0_43 ?_
    exact own_retZ C d0_47 (Or.inr rfl) (by decide) (by decide) rfl
  · refine own_callS C (own_pick_1 l Z a0 hw n0 _ _ S_SAFE) d0_9 (hw _ (List.mem_of_getElem? (i := 0) rfl)) (hw _ (List.mem_of_getElem? (i := 1) rfl)) (hw _ (List.mem_of_getElem? (i := 2) rfl)) (hw _ (List.mem_of_getElem? (i := 3) rfl)) (by decide) pd1 rfl rfl rfl (by decide) (Nat.le_of_ble_eq_true rfl) (by decide) (by decide) ?_
    rintro _ _ ⟨rfl, rfl⟩
    refine own_astore C 4 d0_12 rfl rfl rfl rfl ?_
    refine own_iloadN C d0_14 rfl ?_
    refine own_callS C (own_pick_1 l Z a0 hw n0 _ _ S_SAFE) d0_15 (hw _ (List.mem_of_getElem? (i := 0) rfl)) (hw _ (List.mem_of_getElem? (i := 1) rfl)) (hw _ (List.mem_of_getElem? (i := 2) rfl)) (hw _ (List.mem_of_getElem? (i := 3) rfl)) (by decide) pd1 rfl rfl rfl (by decide) (Nat.le_of_ble_eq_true rfl) (by decide) (by decide) ?_
    rintro _ _ ⟨rfl, rfl⟩
    refine own_astore C 5 d0_18 rfl rfl rfl rfl ?_
    refine own_aload C d0_20 rfl rfl ?_
    refine own_aload C d0_22 rfl rfl ?_
    refine own_callV C (own_join_ge l Z a0 hw n0 _ _ _ mir 1 1 E_SAFE E_SAFE F_SAFE_ordinal F_SAFE_ordinal M (by decide)) E_SAFE d0_24 (hw _ (List.mem_of_getElem? (i := 9) rfl)) (hw _ (List.mem_of_getElem? (i := 10) rfl)) (hw _ (List.mem_of_getElem? (i := 12) rfl)) (own_nf (args := #[]) C.2.1 (hw _ (List.mem_of_getElem? (i := 12) rfl))) (hw _ (List.mem_of_getElem? (i := 11) rfl)) (hw _ (List.mem_of_getElem? (i := 13) rfl)) (hw _ (List.mem_of_getElem? (i := 5) rfl)) (by decide) pd2 rfl rfl rfl (by decide) (Nat.le_of_ble_eq_true rfl) (by decide) (by decide) ?_
    rintro _ _ ⟨rfl, rfl⟩
    refine own_astore C 6 d0_27 rfl rfl rfl rfl ?_
    refine own_aload C d0_29 rfl rfl ?_
    refine own_iloadN C d0_31 rfl ?_
    refine own_iloadN C d0_32 rfl ?_
    refine own_callS C (own_max_ge l Z a0 hw n0 _ 1 1 (by decide)) d0_33 (hw _ (List.mem_of_getElem? (i := 29) rfl)) (hw _ (List.mem_of_getElem? (i := 30) rfl)) (hw _ (List.mem_of_getElem? (i := 31) rfl)) (hw _ (List.mem_of_getElem? (i := 32) rfl)) (by decide) pd4 rfl rfl rfl (by decide) (Nat.le_of_ble_eq_true rfl) (by decide) (by decide) ?_
    rintro _ _ ⟨rfl, rfl⟩
    refine own_callS C (own_pick_1 l Z a0 hw n0 _ _ S_SAFE) d0_36 (hw _ (List.mem_of_getElem? (i := 0) rfl)) (hw _ (List.mem_of_getElem? (i := 1) rfl)) (hw _ (List.mem_of_getElem? (i := 2) rfl)) (hw _ (List.mem_of_getElem? (i := 3) rfl)) (by decide) pd1 rfl rfl rfl (by decide) (Nat.le_of_ble_eq_true rfl) (by decide) (by decide) ?_
    rintro _ _ ⟨rfl, rfl⟩
    refine own_acmpne C d0_39 t0_39 rfl rfl (fun h' => absurd h' (fun z => z rfl)) (fun _ => ?_)
    refine own_iconst C (1 : Int32) d0_42 rfl ?_
    refine own_goto C d0_43 t0_43 ?_
    exact own_retZ C d0_47 (Or.inr rfl) (by decide) (by decide) rfl
  · refine own_callS C (own_pick_1 l Z a0 hw n0 _ _ S_SAFE) d0_9 (hw _ (List.mem_of_getElem? (i := 0) rfl)) (hw _ (List.mem_of_getElem? (i := 1) rfl)) (hw _ (List.mem_of_getElem? (i := 2) rfl)) (hw _ (List.mem_of_getElem? (i := 3) rfl)) (by decide) pd1 rfl rfl rfl (by decide) (Nat.le_of_ble_eq_true rfl) (by decide) (by decide) ?_
    rintro _ _ ⟨rfl, rfl⟩
    refine own_astore C 4 d0_12 rfl rfl rfl rfl ?_
    refine own_iloadN C d0_14 rfl ?_
    refine own_callS C (own_pick_2 l Z a0 hw n0 _ _ S_UNKNOWN) d0_15 (hw _ (List.mem_of_getElem? (i := 0) rfl)) (hw _ (List.mem_of_getElem? (i := 1) rfl)) (hw _ (List.mem_of_getElem? (i := 2) rfl)) (hw _ (List.mem_of_getElem? (i := 3) rfl)) (by decide) pd1 rfl rfl rfl (by decide) (Nat.le_of_ble_eq_true rfl) (by decide) (by decide) ?_
    rintro _ _ ⟨rfl, rfl⟩
    refine own_astore C 5 d0_18 rfl rfl rfl rfl ?_
    refine own_aload C d0_20 rfl rfl ?_
    refine own_aload C d0_22 rfl rfl ?_
    refine own_callV C (own_join_lt l Z a0 hw n0 _ _ _ mir 1 2 E_SAFE E_UNKNOWN F_SAFE_ordinal F_UNKNOWN_ordinal M (by decide)) E_SAFE d0_24 (hw _ (List.mem_of_getElem? (i := 9) rfl)) (hw _ (List.mem_of_getElem? (i := 10) rfl)) (hw _ (List.mem_of_getElem? (i := 12) rfl)) (own_nf (args := #[]) C.2.1 (hw _ (List.mem_of_getElem? (i := 12) rfl))) (hw _ (List.mem_of_getElem? (i := 11) rfl)) (hw _ (List.mem_of_getElem? (i := 13) rfl)) (hw _ (List.mem_of_getElem? (i := 5) rfl)) (by decide) pd2 rfl rfl rfl (by decide) (Nat.le_of_ble_eq_true rfl) (by decide) (by decide) ?_
    rintro _ _ ⟨rfl, rfl⟩
    refine own_astore C 6 d0_27 rfl rfl rfl rfl ?_
    refine own_aload C d0_29 rfl rfl ?_
    refine own_iloadN C d0_31 rfl ?_
    refine own_iloadN C d0_32 rfl ?_
    refine own_callS C (own_max_lt l Z a0 hw n0 _ 1 2 (by decide)) d0_33 (hw _ (List.mem_of_getElem? (i := 29) rfl)) (hw _ (List.mem_of_getElem? (i := 30) rfl)) (hw _ (List.mem_of_getElem? (i := 31) rfl)) (hw _ (List.mem_of_getElem? (i := 32) rfl)) (by decide) pd4 rfl rfl rfl (by decide) (Nat.le_of_ble_eq_true rfl) (by decide) (by decide) ?_
    rintro _ _ ⟨rfl, rfl⟩
    refine own_callS C (own_pick_2 l Z a0 hw n0 _ _ S_UNKNOWN) d0_36 (hw _ (List.mem_of_getElem? (i := 0) rfl)) (hw _ (List.mem_of_getElem? (i := 1) rfl)) (hw _ (List.mem_of_getElem? (i := 2) rfl)) (hw _ (List.mem_of_getElem? (i := 3) rfl)) (by decide) pd1 rfl rfl rfl (by decide) (Nat.le_of_ble_eq_true rfl) (by decide) (by decide) ?_
    rintro _ _ ⟨rfl, rfl⟩
    refine own_acmpne C d0_39 t0_39 rfl rfl (fun h' => absurd h' (fun z => z rfl)) (fun _ => ?_)
    refine own_iconst C (1 : Int32) d0_42 rfl ?_
    refine own_goto C d0_43 t0_43 ?_
    exact own_retZ C d0_47 (Or.inr rfl) (by decide) (by decide) rfl
  · refine own_callS C (own_pick_1 l Z a0 hw n0 _ _ S_SAFE) d0_9 (hw _ (List.mem_of_getElem? (i := 0) rfl)) (hw _ (List.mem_of_getElem? (i := 1) rfl)) (hw _ (List.mem_of_getElem? (i := 2) rfl)) (hw _ (List.mem_of_getElem? (i := 3) rfl)) (by decide) pd1 rfl rfl rfl (by decide) (Nat.le_of_ble_eq_true rfl) (by decide) (by decide) ?_
    rintro _ _ ⟨rfl, rfl⟩
    refine own_astore C 4 d0_12 rfl rfl rfl rfl ?_
    refine own_iloadN C d0_14 rfl ?_
    refine own_callS C (own_pick_3 l Z a0 hw n0 _ _ S_TAINTED) d0_15 (hw _ (List.mem_of_getElem? (i := 0) rfl)) (hw _ (List.mem_of_getElem? (i := 1) rfl)) (hw _ (List.mem_of_getElem? (i := 2) rfl)) (hw _ (List.mem_of_getElem? (i := 3) rfl)) (by decide) pd1 rfl rfl rfl (by decide) (Nat.le_of_ble_eq_true rfl) (by decide) (by decide) ?_
    rintro _ _ ⟨rfl, rfl⟩
    refine own_astore C 5 d0_18 rfl rfl rfl rfl ?_
    refine own_aload C d0_20 rfl rfl ?_
    refine own_aload C d0_22 rfl rfl ?_
    refine own_callV C (own_join_lt l Z a0 hw n0 _ _ _ mir 1 3 E_SAFE E_TAINTED F_SAFE_ordinal F_TAINTED_ordinal M (by decide)) E_SAFE d0_24 (hw _ (List.mem_of_getElem? (i := 9) rfl)) (hw _ (List.mem_of_getElem? (i := 10) rfl)) (hw _ (List.mem_of_getElem? (i := 12) rfl)) (own_nf (args := #[]) C.2.1 (hw _ (List.mem_of_getElem? (i := 12) rfl))) (hw _ (List.mem_of_getElem? (i := 11) rfl)) (hw _ (List.mem_of_getElem? (i := 13) rfl)) (hw _ (List.mem_of_getElem? (i := 5) rfl)) (by decide) pd2 rfl rfl rfl (by decide) (Nat.le_of_ble_eq_true rfl) (by decide) (by decide) ?_
    rintro _ _ ⟨rfl, rfl⟩
    refine own_astore C 6 d0_27 rfl rfl rfl rfl ?_
    refine own_aload C d0_29 rfl rfl ?_
    refine own_iloadN C d0_31 rfl ?_
    refine own_iloadN C d0_32 rfl ?_
    refine own_callS C (own_max_lt l Z a0 hw n0 _ 1 3 (by decide)) d0_33 (hw _ (List.mem_of_getElem? (i := 29) rfl)) (hw _ (List.mem_of_getElem? (i := 30) rfl)) (hw _ (List.mem_of_getElem? (i := 31) rfl)) (hw _ (List.mem_of_getElem? (i := 32) rfl)) (by decide) pd4 rfl rfl rfl (by decide) (Nat.le_of_ble_eq_true rfl) (by decide) (by decide) ?_
    rintro _ _ ⟨rfl, rfl⟩
    refine own_callS C (own_pick_3 l Z a0 hw n0 _ _ S_TAINTED) d0_36 (hw _ (List.mem_of_getElem? (i := 0) rfl)) (hw _ (List.mem_of_getElem? (i := 1) rfl)) (hw _ (List.mem_of_getElem? (i := 2) rfl)) (hw _ (List.mem_of_getElem? (i := 3) rfl)) (by decide) pd1 rfl rfl rfl (by decide) (Nat.le_of_ble_eq_true rfl) (by decide) (by decide) ?_
    rintro _ _ ⟨rfl, rfl⟩
    refine own_acmpne C d0_39 t0_39 rfl rfl (fun h' => absurd h' (fun z => z rfl)) (fun _ => ?_)
    refine own_iconst C (1 : Int32) d0_42 rfl ?_
    refine own_goto C d0_43 t0_43 ?_
    exact own_retZ C d0_47 (Or.inr rfl) (by decide) (by decide) rfl
  · refine own_callS C (own_pick_2 l Z a0 hw n0 _ _ S_UNKNOWN) d0_9 (hw _ (List.mem_of_getElem? (i := 0) rfl)) (hw _ (List.mem_of_getElem? (i := 1) rfl)) (hw _ (List.mem_of_getElem? (i := 2) rfl)) (hw _ (List.mem_of_getElem? (i := 3) rfl)) (by decide) pd1 rfl rfl rfl (by decide) (Nat.le_of_ble_eq_true rfl) (by decide) (by decide) ?_
    rintro _ _ ⟨rfl, rfl⟩
    refine own_astore C 4 d0_12 rfl rfl rfl rfl ?_
    refine own_iloadN C d0_14 rfl ?_
    refine own_callS C (own_pick_0 l Z a0 hw n0 _ _ S_NULL) d0_15 (hw _ (List.mem_of_getElem? (i := 0) rfl)) (hw _ (List.mem_of_getElem? (i := 1) rfl)) (hw _ (List.mem_of_getElem? (i := 2) rfl)) (hw _ (List.mem_of_getElem? (i := 3) rfl)) (by decide) pd1 rfl rfl rfl (by decide) (Nat.le_of_ble_eq_true rfl) (by decide) (by decide) ?_
    rintro _ _ ⟨rfl, rfl⟩
    refine own_astore C 5 d0_18 rfl rfl rfl rfl ?_
    refine own_aload C d0_20 rfl rfl ?_
    refine own_aload C d0_22 rfl rfl ?_
    refine own_callV C (own_join_ge l Z a0 hw n0 _ _ _ mir 2 0 E_UNKNOWN E_NULL F_UNKNOWN_ordinal F_NULL_ordinal M (by decide)) E_UNKNOWN d0_24 (hw _ (List.mem_of_getElem? (i := 9) rfl)) (hw _ (List.mem_of_getElem? (i := 10) rfl)) (hw _ (List.mem_of_getElem? (i := 12) rfl)) (own_nf (args := #[]) C.2.1 (hw _ (List.mem_of_getElem? (i := 12) rfl))) (hw _ (List.mem_of_getElem? (i := 11) rfl)) (hw _ (List.mem_of_getElem? (i := 13) rfl)) (hw _ (List.mem_of_getElem? (i := 5) rfl)) (by decide) pd2 rfl rfl rfl (by decide) (Nat.le_of_ble_eq_true rfl) (by decide) (by decide) ?_
    rintro _ _ ⟨rfl, rfl⟩
    refine own_astore C 6 d0_27 rfl rfl rfl rfl ?_
    refine own_aload C d0_29 rfl rfl ?_
    refine own_iloadN C d0_31 rfl ?_
    refine own_iloadN C d0_32 rfl ?_
    refine own_callS C (own_max_ge l Z a0 hw n0 _ 2 0 (by decide)) d0_33 (hw _ (List.mem_of_getElem? (i := 29) rfl)) (hw _ (List.mem_of_getElem? (i := 30) rfl)) (hw _ (List.mem_of_getElem? (i := 31) rfl)) (hw _ (List.mem_of_getElem? (i := 32) rfl)) (by decide) pd4 rfl rfl rfl (by decide) (Nat.le_of_ble_eq_true rfl) (by decide) (by decide) ?_
    rintro _ _ ⟨rfl, rfl⟩
    refine own_callS C (own_pick_2 l Z a0 hw n0 _ _ S_UNKNOWN) d0_36 (hw _ (List.mem_of_getElem? (i := 0) rfl)) (hw _ (List.mem_of_getElem? (i := 1) rfl)) (hw _ (List.mem_of_getElem? (i := 2) rfl)) (hw _ (List.mem_of_getElem? (i := 3) rfl)) (by decide) pd1 rfl rfl rfl (by decide) (Nat.le_of_ble_eq_true rfl) (by decide) (by decide) ?_
    rintro _ _ ⟨rfl, rfl⟩
    refine own_acmpne C d0_39 t0_39 rfl rfl (fun h' => absurd h' (fun z => z rfl)) (fun _ => ?_)
    refine own_iconst C (1 : Int32) d0_42 rfl ?_
    refine own_goto C d0_43 t0_43 ?_
    exact own_retZ C d0_47 (Or.inr rfl) (by decide) (by decide) rfl
  · refine own_callS C (own_pick_2 l Z a0 hw n0 _ _ S_UNKNOWN) d0_9 (hw _ (List.mem_of_getElem? (i := 0) rfl)) (hw _ (List.mem_of_getElem? (i := 1) rfl)) (hw _ (List.mem_of_getElem? (i := 2) rfl)) (hw _ (List.mem_of_getElem? (i := 3) rfl)) (by decide) pd1 rfl rfl rfl (by decide) (Nat.le_of_ble_eq_true rfl) (by decide) (by decide) ?_
    rintro _ _ ⟨rfl, rfl⟩
    refine own_astore C 4 d0_12 rfl rfl rfl rfl ?_
    refine own_iloadN C d0_14 rfl ?_
    refine own_callS C (own_pick_1 l Z a0 hw n0 _ _ S_SAFE) d0_15 (hw _ (List.mem_of_getElem? (i := 0) rfl)) (hw _ (List.mem_of_getElem? (i := 1) rfl)) (hw _ (List.mem_of_getElem? (i := 2) rfl)) (hw _ (List.mem_of_getElem? (i := 3) rfl)) (by decide) pd1 rfl rfl rfl (by decide) (Nat.le_of_ble_eq_true rfl) (by decide) (by decide) ?_
    rintro _ _ ⟨rfl, rfl⟩
    refine own_astore C 5 d0_18 rfl rfl rfl rfl ?_
    refine own_aload C d0_20 rfl rfl ?_
    refine own_aload C d0_22 rfl rfl ?_
    refine own_callV C (own_join_ge l Z a0 hw n0 _ _ _ mir 2 1 E_UNKNOWN E_SAFE F_UNKNOWN_ordinal F_SAFE_ordinal M (by decide)) E_UNKNOWN d0_24 (hw _ (List.mem_of_getElem? (i := 9) rfl)) (hw _ (List.mem_of_getElem? (i := 10) rfl)) (hw _ (List.mem_of_getElem? (i := 12) rfl)) (own_nf (args := #[]) C.2.1 (hw _ (List.mem_of_getElem? (i := 12) rfl))) (hw _ (List.mem_of_getElem? (i := 11) rfl)) (hw _ (List.mem_of_getElem? (i := 13) rfl)) (hw _ (List.mem_of_getElem? (i := 5) rfl)) (by decide) pd2 rfl rfl rfl (by decide) (Nat.le_of_ble_eq_true rfl) (by decide) (by decide) ?_
    rintro _ _ ⟨rfl, rfl⟩
    refine own_astore C 6 d0_27 rfl rfl rfl rfl ?_
    refine own_aload C d0_29 rfl rfl ?_
    refine own_iloadN C d0_31 rfl ?_
    refine own_iloadN C d0_32 rfl ?_
    refine own_callS C (own_max_ge l Z a0 hw n0 _ 2 1 (by decide)) d0_33 (hw _ (List.mem_of_getElem? (i := 29) rfl)) (hw _ (List.mem_of_getElem? (i := 30) rfl)) (hw _ (List.mem_of_getElem? (i := 31) rfl)) (hw _ (List.mem_of_getElem? (i := 32) rfl)) (by decide) pd4 rfl rfl rfl (by decide) (Nat.le_of_ble_eq_true rfl) (by decide) (by decide) ?_
    rintro _ _ ⟨rfl, rfl⟩
    refine own_callS C (own_pick_2 l Z a0 hw n0 _ _ S_UNKNOWN) d0_36 (hw _ (List.mem_of_getElem? (i := 0) rfl)) (hw _ (List.mem_of_getElem? (i := 1) rfl)) (hw _ (List.mem_of_getElem? (i := 2) rfl)) (hw _ (List.mem_of_getElem? (i := 3) rfl)) (by decide) pd1 rfl rfl rfl (by decide) (Nat.le_of_ble_eq_true rfl) (by decide) (by decide) ?_
    rintro _ _ ⟨rfl, rfl⟩
    refine own_acmpne C d0_39 t0_39 rfl rfl (fun h' => absurd h' (fun z => z rfl)) (fun _ => ?_)
    refine own_iconst C (1 : Int32) d0_42 rfl ?_
    refine own_goto C d0_43 t0_43 ?_
    exact own_retZ C d0_47 (Or.inr rfl) (by decide) (by decide) rfl
  · refine own_callS C (own_pick_2 l Z a0 hw n0 _ _ S_UNKNOWN) d0_9 (hw _ (List.mem_of_getElem? (i := 0) rfl)) (hw _ (List.mem_of_getElem? (i := 1) rfl)) (hw _ (List.mem_of_getElem? (i := 2) rfl)) (hw _ (List.mem_of_getElem? (i := 3) rfl)) (by decide) pd1 rfl rfl rfl (by decide) (Nat.le_of_ble_eq_true rfl) (by decide) (by decide) ?_
    rintro _ _ ⟨rfl, rfl⟩
    refine own_astore C 4 d0_12 rfl rfl rfl rfl ?_
    refine own_iloadN C d0_14 rfl ?_
    refine own_callS C (own_pick_2 l Z a0 hw n0 _ _ S_UNKNOWN) d0_15 (hw _ (List.mem_of_getElem? (i := 0) rfl)) (hw _ (List.mem_of_getElem? (i := 1) rfl)) (hw _ (List.mem_of_getElem? (i := 2) rfl)) (hw _ (List.mem_of_getElem? (i := 3) rfl)) (by decide) pd1 rfl rfl rfl (by decide) (Nat.le_of_ble_eq_true rfl) (by decide) (by decide) ?_
    rintro _ _ ⟨rfl, rfl⟩
    refine own_astore C 5 d0_18 rfl rfl rfl rfl ?_
    refine own_aload C d0_20 rfl rfl ?_
    refine own_aload C d0_22 rfl rfl ?_
    refine own_callV C (own_join_ge l Z a0 hw n0 _ _ _ mir 2 2 E_UNKNOWN E_UNKNOWN F_UNKNOWN_ordinal F_UNKNOWN_ordinal M (by decide)) E_UNKNOWN d0_24 (hw _ (List.mem_of_getElem? (i := 9) rfl)) (hw _ (List.mem_of_getElem? (i := 10) rfl)) (hw _ (List.mem_of_getElem? (i := 12) rfl)) (own_nf (args := #[]) C.2.1 (hw _ (List.mem_of_getElem? (i := 12) rfl))) (hw _ (List.mem_of_getElem? (i := 11) rfl)) (hw _ (List.mem_of_getElem? (i := 13) rfl)) (hw _ (List.mem_of_getElem? (i := 5) rfl)) (by decide) pd2 rfl rfl rfl (by decide) (Nat.le_of_ble_eq_true rfl) (by decide) (by decide) ?_
    rintro _ _ ⟨rfl, rfl⟩
    refine own_astore C 6 d0_27 rfl rfl rfl rfl ?_
    refine own_aload C d0_29 rfl rfl ?_
    refine own_iloadN C d0_31 rfl ?_
    refine own_iloadN C d0_32 rfl ?_
    refine own_callS C (own_max_ge l Z a0 hw n0 _ 2 2 (by decide)) d0_33 (hw _ (List.mem_of_getElem? (i := 29) rfl)) (hw _ (List.mem_of_getElem? (i := 30) rfl)) (hw _ (List.mem_of_getElem? (i := 31) rfl)) (hw _ (List.mem_of_getElem? (i := 32) rfl)) (by decide) pd4 rfl rfl rfl (by decide) (Nat.le_of_ble_eq_true rfl) (by decide) (by decide) ?_
    rintro _ _ ⟨rfl, rfl⟩
    refine own_callS C (own_pick_2 l Z a0 hw n0 _ _ S_UNKNOWN) d0_36 (hw _ (List.mem_of_getElem? (i := 0) rfl)) (hw _ (List.mem_of_getElem? (i := 1) rfl)) (hw _ (List.mem_of_getElem? (i := 2) rfl)) (hw _ (List.mem_of_getElem? (i := 3) rfl)) (by decide) pd1 rfl rfl rfl (by decide) (Nat.le_of_ble_eq_true rfl) (by decide) (by decide) ?_
    rintro _ _ ⟨rfl, rfl⟩
    refine own_acmpne C d0_39 t0_39 rfl rfl (fun h' => absurd h' (fun z => z rfl)) (fun _ => ?_)
    refine own_iconst C (1 : Int32) d0_42 rfl ?_
    refine own_goto C d0_43 t0_43 ?_
    exact own_retZ C d0_47 (Or.inr rfl) (by decide) (by decide) rfl
  · refine own_callS C (own_pick_2 l Z a0 hw n0 _ _ S_UNKNOWN) d0_9 (hw _ (List.mem_of_getElem? (i := 0) rfl)) (hw _ (List.mem_of_getElem? (i := 1) rfl)) (hw _ (List.mem_of_getElem? (i := 2) rfl)) (hw _ (List.mem_of_getElem? (i := 3) rfl)) (by decide) pd1 rfl rfl rfl (by decide) (Nat.le_of_ble_eq_true rfl) (by decide) (by decide) ?_
    rintro _ _ ⟨rfl, rfl⟩
    refine own_astore C 4 d0_12 rfl rfl rfl rfl ?_
    refine own_iloadN C d0_14 rfl ?_
    refine own_callS C (own_pick_3 l Z a0 hw n0 _ _ S_TAINTED) d0_15 (hw _ (List.mem_of_getElem? (i := 0) rfl)) (hw _ (List.mem_of_getElem? (i := 1) rfl)) (hw _ (List.mem_of_getElem? (i := 2) rfl)) (hw _ (List.mem_of_getElem? (i := 3) rfl)) (by decide) pd1 rfl rfl rfl (by decide) (Nat.le_of_ble_eq_true rfl) (by decide) (by decide) ?_
    rintro _ _ ⟨rfl, rfl⟩
    refine own_astore C 5 d0_18 rfl rfl rfl rfl ?_
    refine own_aload C d0_20 rfl rfl ?_
    refine own_aload C d0_22 rfl rfl ?_
    refine own_callV C (own_join_lt l Z a0 hw n0 _ _ _ mir 2 3 E_UNKNOWN E_TAINTED F_UNKNOWN_ordinal F_TAINTED_ordinal M (by decide)) E_UNKNOWN d0_24 (hw _ (List.mem_of_getElem? (i := 9) rfl)) (hw _ (List.mem_of_getElem? (i := 10) rfl)) (hw _ (List.mem_of_getElem? (i := 12) rfl)) (own_nf (args := #[]) C.2.1 (hw _ (List.mem_of_getElem? (i := 12) rfl))) (hw _ (List.mem_of_getElem? (i := 11) rfl)) (hw _ (List.mem_of_getElem? (i := 13) rfl)) (hw _ (List.mem_of_getElem? (i := 5) rfl)) (by decide) pd2 rfl rfl rfl (by decide) (Nat.le_of_ble_eq_true rfl) (by decide) (by decide) ?_
    rintro _ _ ⟨rfl, rfl⟩
    refine own_astore C 6 d0_27 rfl rfl rfl rfl ?_
    refine own_aload C d0_29 rfl rfl ?_
    refine own_iloadN C d0_31 rfl ?_
    refine own_iloadN C d0_32 rfl ?_
    refine own_callS C (own_max_lt l Z a0 hw n0 _ 2 3 (by decide)) d0_33 (hw _ (List.mem_of_getElem? (i := 29) rfl)) (hw _ (List.mem_of_getElem? (i := 30) rfl)) (hw _ (List.mem_of_getElem? (i := 31) rfl)) (hw _ (List.mem_of_getElem? (i := 32) rfl)) (by decide) pd4 rfl rfl rfl (by decide) (Nat.le_of_ble_eq_true rfl) (by decide) (by decide) ?_
    rintro _ _ ⟨rfl, rfl⟩
    refine own_callS C (own_pick_3 l Z a0 hw n0 _ _ S_TAINTED) d0_36 (hw _ (List.mem_of_getElem? (i := 0) rfl)) (hw _ (List.mem_of_getElem? (i := 1) rfl)) (hw _ (List.mem_of_getElem? (i := 2) rfl)) (hw _ (List.mem_of_getElem? (i := 3) rfl)) (by decide) pd1 rfl rfl rfl (by decide) (Nat.le_of_ble_eq_true rfl) (by decide) (by decide) ?_
    rintro _ _ ⟨rfl, rfl⟩
    refine own_acmpne C d0_39 t0_39 rfl rfl (fun h' => absurd h' (fun z => z rfl)) (fun _ => ?_)
    refine own_iconst C (1 : Int32) d0_42 rfl ?_
    refine own_goto C d0_43 t0_43 ?_
    exact own_retZ C d0_47 (Or.inr rfl) (by decide) (by decide) rfl
  · refine own_callS C (own_pick_3 l Z a0 hw n0 _ _ S_TAINTED) d0_9 (hw _ (List.mem_of_getElem? (i := 0) rfl)) (hw _ (List.mem_of_getElem? (i := 1) rfl)) (hw _ (List.mem_of_getElem? (i := 2) rfl)) (hw _ (List.mem_of_getElem? (i := 3) rfl)) (by decide) pd1 rfl rfl rfl (by decide) (Nat.le_of_ble_eq_true rfl) (by decide) (by decide) ?_
    rintro _ _ ⟨rfl, rfl⟩
    refine own_astore C 4 d0_12 rfl rfl rfl rfl ?_
    refine own_iloadN C d0_14 rfl ?_
    refine own_callS C (own_pick_0 l Z a0 hw n0 _ _ S_NULL) d0_15 (hw _ (List.mem_of_getElem? (i := 0) rfl)) (hw _ (List.mem_of_getElem? (i := 1) rfl)) (hw _ (List.mem_of_getElem? (i := 2) rfl)) (hw _ (List.mem_of_getElem? (i := 3) rfl)) (by decide) pd1 rfl rfl rfl (by decide) (Nat.le_of_ble_eq_true rfl) (by decide) (by decide) ?_
    rintro _ _ ⟨rfl, rfl⟩
    refine own_astore C 5 d0_18 rfl rfl rfl rfl ?_
    refine own_aload C d0_20 rfl rfl ?_
    refine own_aload C d0_22 rfl rfl ?_
    refine own_callV C (own_join_ge l Z a0 hw n0 _ _ _ mir 3 0 E_TAINTED E_NULL F_TAINTED_ordinal F_NULL_ordinal M (by decide)) E_TAINTED d0_24 (hw _ (List.mem_of_getElem? (i := 9) rfl)) (hw _ (List.mem_of_getElem? (i := 10) rfl)) (hw _ (List.mem_of_getElem? (i := 12) rfl)) (own_nf (args := #[]) C.2.1 (hw _ (List.mem_of_getElem? (i := 12) rfl))) (hw _ (List.mem_of_getElem? (i := 11) rfl)) (hw _ (List.mem_of_getElem? (i := 13) rfl)) (hw _ (List.mem_of_getElem? (i := 5) rfl)) (by decide) pd2 rfl rfl rfl (by decide) (Nat.le_of_ble_eq_true rfl) (by decide) (by decide) ?_
    rintro _ _ ⟨rfl, rfl⟩
    refine own_astore C 6 d0_27 rfl rfl rfl rfl ?_
    refine own_aload C d0_29 rfl rfl ?_
    refine own_iloadN C d0_31 rfl ?_
    refine own_iloadN C d0_32 rfl ?_
    refine own_callS C (own_max_ge l Z a0 hw n0 _ 3 0 (by decide)) d0_33 (hw _ (List.mem_of_getElem? (i := 29) rfl)) (hw _ (List.mem_of_getElem? (i := 30) rfl)) (hw _ (List.mem_of_getElem? (i := 31) rfl)) (hw _ (List.mem_of_getElem? (i := 32) rfl)) (by decide) pd4 rfl rfl rfl (by decide) (Nat.le_of_ble_eq_true rfl) (by decide) (by decide) ?_
    rintro _ _ ⟨rfl, rfl⟩
    refine own_callS C (own_pick_3 l Z a0 hw n0 _ _ S_TAINTED) d0_36 (hw _ (List.mem_of_getElem? (i := 0) rfl)) (hw _ (List.mem_of_getElem? (i := 1) rfl)) (hw _ (List.mem_of_getElem? (i := 2) rfl)) (hw _ (List.mem_of_getElem? (i := 3) rfl)) (by decide) pd1 rfl rfl rfl (by decide) (Nat.le_of_ble_eq_true rfl) (by decide) (by decide) ?_
    rintro _ _ ⟨rfl, rfl⟩
    refine own_acmpne C d0_39 t0_39 rfl rfl (fun h' => absurd h' (fun z => z rfl)) (fun _ => ?_)
    refine own_iconst C (1 : Int32) d0_42 rfl ?_
    refine own_goto C d0_43 t0_43 ?_
    exact own_retZ C d0_47 (Or.inr rfl) (by decide) (by decide) rfl
  · refine own_callS C (own_pick_3 l Z a0 hw n0 _ _ S_TAINTED) d0_9 (hw _ (List.mem_of_getElem? (i := 0) rfl)) (hw _ (List.mem_of_getElem? (i := 1) rfl)) (hw _ (List.mem_of_getElem? (i := 2) rfl)) (hw _ (List.mem_of_getElem? (i := 3) rfl)) (by decide) pd1 rfl rfl rfl (by decide) (Nat.le_of_ble_eq_true rfl) (by decide) (by decide) ?_
    rintro _ _ ⟨rfl, rfl⟩
    refine own_astore C 4 d0_12 rfl rfl rfl rfl ?_
    refine own_iloadN C d0_14 rfl ?_
    refine own_callS C (own_pick_1 l Z a0 hw n0 _ _ S_SAFE) d0_15 (hw _ (List.mem_of_getElem? (i := 0) rfl)) (hw _ (List.mem_of_getElem? (i := 1) rfl)) (hw _ (List.mem_of_getElem? (i := 2) rfl)) (hw _ (List.mem_of_getElem? (i := 3) rfl)) (by decide) pd1 rfl rfl rfl (by decide) (Nat.le_of_ble_eq_true rfl) (by decide) (by decide) ?_
    rintro _ _ ⟨rfl, rfl⟩
    refine own_astore C 5 d0_18 rfl rfl rfl rfl ?_
    refine own_aload C d0_20 rfl rfl ?_
    refine own_aload C d0_22 rfl rfl ?_
    refine own_callV C (own_join_ge l Z a0 hw n0 _ _ _ mir 3 1 E_TAINTED E_SAFE F_TAINTED_ordinal F_SAFE_ordinal M (by decide)) E_TAINTED d0_24 (hw _ (List.mem_of_getElem? (i := 9) rfl)) (hw _ (List.mem_of_getElem? (i := 10) rfl)) (hw _ (List.mem_of_getElem? (i := 12) rfl)) (own_nf (args := #[]) C.2.1 (hw _ (List.mem_of_getElem? (i := 12) rfl))) (hw _ (List.mem_of_getElem? (i := 11) rfl)) (hw _ (List.mem_of_getElem? (i := 13) rfl)) (hw _ (List.mem_of_getElem? (i := 5) rfl)) (by decide) pd2 rfl rfl rfl (by decide) (Nat.le_of_ble_eq_true rfl) (by decide) (by decide) ?_
    rintro _ _ ⟨rfl, rfl⟩
    refine own_astore C 6 d0_27 rfl rfl rfl rfl ?_
    refine own_aload C d0_29 rfl rfl ?_
    refine own_iloadN C d0_31 rfl ?_
    refine own_iloadN C d0_32 rfl ?_
    refine own_callS C (own_max_ge l Z a0 hw n0 _ 3 1 (by decide)) d0_33 (hw _ (List.mem_of_getElem? (i := 29) rfl)) (hw _ (List.mem_of_getElem? (i := 30) rfl)) (hw _ (List.mem_of_getElem? (i := 31) rfl)) (hw _ (List.mem_of_getElem? (i := 32) rfl)) (by decide) pd4 rfl rfl rfl (by decide) (Nat.le_of_ble_eq_true rfl) (by decide) (by decide) ?_
    rintro _ _ ⟨rfl, rfl⟩
    refine own_callS C (own_pick_3 l Z a0 hw n0 _ _ S_TAINTED) d0_36 (hw _ (List.mem_of_getElem? (i := 0) rfl)) (hw _ (List.mem_of_getElem? (i := 1) rfl)) (hw _ (List.mem_of_getElem? (i := 2) rfl)) (hw _ (List.mem_of_getElem? (i := 3) rfl)) (by decide) pd1 rfl rfl rfl (by decide) (Nat.le_of_ble_eq_true rfl) (by decide) (by decide) ?_
    rintro _ _ ⟨rfl, rfl⟩
    refine own_acmpne C d0_39 t0_39 rfl rfl (fun h' => absurd h' (fun z => z rfl)) (fun _ => ?_)
    refine own_iconst C (1 : Int32) d0_42 rfl ?_
    refine own_goto C d0_43 t0_43 ?_
    exact own_retZ C d0_47 (Or.inr rfl) (by decide) (by decide) rfl
  · refine own_callS C (own_pick_3 l Z a0 hw n0 _ _ S_TAINTED) d0_9 (hw _ (List.mem_of_getElem? (i := 0) rfl)) (hw _ (List.mem_of_getElem? (i := 1) rfl)) (hw _ (List.mem_of_getElem? (i := 2) rfl)) (hw _ (List.mem_of_getElem? (i := 3) rfl)) (by decide) pd1 rfl rfl rfl (by decide) (Nat.le_of_ble_eq_true rfl) (by decide) (by decide) ?_
    rintro _ _ ⟨rfl, rfl⟩
    refine own_astore C 4 d0_12 rfl rfl rfl rfl ?_
    refine own_iloadN C d0_14 rfl ?_
    refine own_callS C (own_pick_2 l Z a0 hw n0 _ _ S_UNKNOWN) d0_15 (hw _ (List.mem_of_getElem? (i := 0) rfl)) (hw _ (List.mem_of_getElem? (i := 1) rfl)) (hw _ (List.mem_of_getElem? (i := 2) rfl)) (hw _ (List.mem_of_getElem? (i := 3) rfl)) (by decide) pd1 rfl rfl rfl (by decide) (Nat.le_of_ble_eq_true rfl) (by decide) (by decide) ?_
    rintro _ _ ⟨rfl, rfl⟩
    refine own_astore C 5 d0_18 rfl rfl rfl rfl ?_
    refine own_aload C d0_20 rfl rfl ?_
    refine own_aload C d0_22 rfl rfl ?_
    refine own_callV C (own_join_ge l Z a0 hw n0 _ _ _ mir 3 2 E_TAINTED E_UNKNOWN F_TAINTED_ordinal F_UNKNOWN_ordinal M (by decide)) E_TAINTED d0_24 (hw _ (List.mem_of_getElem? (i := 9) rfl)) (hw _ (List.mem_of_getElem? (i := 10) rfl)) (hw _ (List.mem_of_getElem? (i := 12) rfl)) (own_nf (args := #[]) C.2.1 (hw _ (List.mem_of_getElem? (i := 12) rfl))) (hw _ (List.mem_of_getElem? (i := 11) rfl)) (hw _ (List.mem_of_getElem? (i := 13) rfl)) (hw _ (List.mem_of_getElem? (i := 5) rfl)) (by decide) pd2 rfl rfl rfl (by decide) (Nat.le_of_ble_eq_true rfl) (by decide) (by decide) ?_
    rintro _ _ ⟨rfl, rfl⟩
    refine own_astore C 6 d0_27 rfl rfl rfl rfl ?_
    refine own_aload C d0_29 rfl rfl ?_
    refine own_iloadN C d0_31 rfl ?_
    refine own_iloadN C d0_32 rfl ?_
    refine own_callS C (own_max_ge l Z a0 hw n0 _ 3 2 (by decide)) d0_33 (hw _ (List.mem_of_getElem? (i := 29) rfl)) (hw _ (List.mem_of_getElem? (i := 30) rfl)) (hw _ (List.mem_of_getElem? (i := 31) rfl)) (hw _ (List.mem_of_getElem? (i := 32) rfl)) (by decide) pd4 rfl rfl rfl (by decide) (Nat.le_of_ble_eq_true rfl) (by decide) (by decide) ?_
    rintro _ _ ⟨rfl, rfl⟩
    refine own_callS C (own_pick_3 l Z a0 hw n0 _ _ S_TAINTED) d0_36 (hw _ (List.mem_of_getElem? (i := 0) rfl)) (hw _ (List.mem_of_getElem? (i := 1) rfl)) (hw _ (List.mem_of_getElem? (i := 2) rfl)) (hw _ (List.mem_of_getElem? (i := 3) rfl)) (by decide) pd1 rfl rfl rfl (by decide) (Nat.le_of_ble_eq_true rfl) (by decide) (by decide) ?_
    rintro _ _ ⟨rfl, rfl⟩
    refine own_acmpne C d0_39 t0_39 rfl rfl (fun h' => absurd h' (fun z => z rfl)) (fun _ => ?_)
    refine own_iconst C (1 : Int32) d0_42 rfl ?_
    refine own_goto C d0_43 t0_43 ?_
    exact own_retZ C d0_47 (Or.inr rfl) (by decide) (by decide) rfl
  · refine own_callS C (own_pick_3 l Z a0 hw n0 _ _ S_TAINTED) d0_9 (hw _ (List.mem_of_getElem? (i := 0) rfl)) (hw _ (List.mem_of_getElem? (i := 1) rfl)) (hw _ (List.mem_of_getElem? (i := 2) rfl)) (hw _ (List.mem_of_getElem? (i := 3) rfl)) (by decide) pd1 rfl rfl rfl (by decide) (Nat.le_of_ble_eq_true rfl) (by decide) (by decide) ?_
    rintro _ _ ⟨rfl, rfl⟩
    refine own_astore C 4 d0_12 rfl rfl rfl rfl ?_
    refine own_iloadN C d0_14 rfl ?_
    refine own_callS C (own_pick_3 l Z a0 hw n0 _ _ S_TAINTED) d0_15 (hw _ (List.mem_of_getElem? (i := 0) rfl)) (hw _ (List.mem_of_getElem? (i := 1) rfl)) (hw _ (List.mem_of_getElem? (i := 2) rfl)) (hw _ (List.mem_of_getElem? (i := 3) rfl)) (by decide) pd1 rfl rfl rfl (by decide) (Nat.le_of_ble_eq_true rfl) (by decide) (by decide) ?_
    rintro _ _ ⟨rfl, rfl⟩
    refine own_astore C 5 d0_18 rfl rfl rfl rfl ?_
    refine own_aload C d0_20 rfl rfl ?_
    refine own_aload C d0_22 rfl rfl ?_
    refine own_callV C (own_join_ge l Z a0 hw n0 _ _ _ mir 3 3 E_TAINTED E_TAINTED F_TAINTED_ordinal F_TAINTED_ordinal M (by decide)) E_TAINTED d0_24 (hw _ (List.mem_of_getElem? (i := 9) rfl)) (hw _ (List.mem_of_getElem? (i := 10) rfl)) (hw _ (List.mem_of_getElem? (i := 12) rfl)) (own_nf (args := #[]) C.2.1 (hw _ (List.mem_of_getElem? (i := 12) rfl))) (hw _ (List.mem_of_getElem? (i := 11) rfl)) (hw _ (List.mem_of_getElem? (i := 13) rfl)) (hw _ (List.mem_of_getElem? (i := 5) rfl)) (by decide) pd2 rfl rfl rfl (by decide) (Nat.le_of_ble_eq_true rfl) (by decide) (by decide) ?_
    rintro _ _ ⟨rfl, rfl⟩
    refine own_astore C 6 d0_27 rfl rfl rfl rfl ?_
    refine own_aload C d0_29 rfl rfl ?_
    refine own_iloadN C d0_31 rfl ?_
    refine own_iloadN C d0_32 rfl ?_
    refine own_callS C (own_max_ge l Z a0 hw n0 _ 3 3 (by decide)) d0_33 (hw _ (List.mem_of_getElem? (i := 29) rfl)) (hw _ (List.mem_of_getElem? (i := 30) rfl)) (hw _ (List.mem_of_getElem? (i := 31) rfl)) (hw _ (List.mem_of_getElem? (i := 32) rfl)) (by decide) pd4 rfl rfl rfl (by decide) (Nat.le_of_ble_eq_true rfl) (by decide) (by decide) ?_
    rintro _ _ ⟨rfl, rfl⟩
    refine own_callS C (own_pick_3 l Z a0 hw n0 _ _ S_TAINTED) d0_36 (hw _ (List.mem_of_getElem? (i := 0) rfl)) (hw _ (List.mem_of_getElem? (i := 1) rfl)) (hw _ (List.mem_of_getElem? (i := 2) rfl)) (hw _ (List.mem_of_getElem? (i := 3) rfl)) (by decide) pd1 rfl rfl rfl (by decide) (Nat.le_of_ble_eq_true rfl) (by decide) (by decide) ?_
    rintro _ _ ⟨rfl, rfl⟩
    refine own_acmpne C d0_39 t0_39 rfl rfl (fun h' => absurd h' (fun z => z rfl)) (fun _ => ?_)
    refine own_iconst C (1 : Int32) d0_42 rfl ?_
    refine own_goto C d0_43 t0_43 ?_
    exact own_retZ C d0_47 (Or.inr rfl) (by decide) (by decide) rfl
set_option maxRecDepth 65536 in
set_option maxHeartbeats 40000000 in
theorem comes_1 {Post : Tables → Env → Array Value → State → Outcome → State → Prop} (hpost : ∀ tb e args s v u, (limb_1_1.after args s (.returned v) u = true ∧ limb_1_2.after args s (.returned v) u = true ∧ True) → FrameEnd s (.returned v) u (Jvm.fieldLocs frame_1_writes args s ++ Jvm.arrayLocs frame_1_arrays args s ++ Jvm.staticLocs frame_1_statics s) 0 0 → Post tb e args s (.returned v) u) :
    ArmFor flags0 classFile x code maxLocals ret World_1 tables_1 room_1 Calls_1 rest_1 Pre_1 Post := by
  intro l hfl _ _ p e ha hc hk s m args below hf hA hF happ hP
  obtain ⟨hcalls, hrest, hpre⟩ := hP
  obtain ⟨-, -, -, hnamed, -, -, -, hat⟩ := (Spec.applies_iff hf).mp happ
  obtain ⟨hg, hn⟩ := and_e (Cond.before_iff.mp (show (Jvm.Cond.and given_1 narrow_1).before args s = true from hpre))
  obtain ⟨hg0, hg1⟩ := and_e hg
  obtain ⟨hgv0, hg2⟩ := and_e hg1
  obtain ⟨w0, w1, rfl⟩ : ∃ w0 w1 : Value, args = #[w0, w1] := by
    have hs : args.size = 2 := by simpa [Cond.value, given_1] using hg0
    obtain ⟨L⟩ := args
    match L, hs with
    | [w0, w1], _ => exact ⟨w0, w1, rfl⟩
  have hw := fun d (hd : d ∈ tables_1) => atoms_spec (ws := Jvm.Cond.code x code maxLocals ret :: tables_1) hat d (List.mem_cons_of_mem _ hd)
  have hfit : Fit s := fun {y c} hc i hi => by
    obtain ⟨ha, rfl⟩ := Array.getElem?_eq_some_iff.mp hc
    have q := List.all_eq_true.mp ((Array.all_eq_true_iff_forall_mem.mp hF) _ (Array.getElem_mem ha)) i (List.mem_range.mpr hi)
    simpa [Array.getElem?_eq_getElem hi] using q
  obtain ⟨i0, ea0⟩ := is_v hgv0
  obtain rfl : w0 = (.int i0) := Option.some.inj ea0
  obtain ⟨i1, ea1⟩ := is_v hg2
  obtain rfl : w1 = (.int i1) := Option.some.inj ea1
  obtain ⟨hc0, hr0⟩ := and_e hn
  obtain ⟨hc1, hr1⟩ := and_e hr0
  obtain ⟨hc2, hr2⟩ := and_e hr1
  obtain ⟨hc3, hr3⟩ := and_e hr2
  obtain ⟨hc4, hr4⟩ := and_e hr3
  obtain ⟨hc5, hr5⟩ := and_e hr4
  obtain ⟨hc6, hr6⟩ := and_e hr5
  obtain ⟨a_NULL, ev_NULL⟩ := exa_v hc0
  have S_NULL : Sta s s.heap "com/example/sinkwell/sinkwell/dataflow/Taint" "NULL" "Lcom/example/sinkwell/sinkwell/dataflow/Taint;" (.ref a_NULL) := Sta.start ev_NULL (Or.inr ⟨(hw _ (List.mem_of_getElem? (i := 5) rfl)), (hw _ (List.mem_of_getElem? (i := 6) rfl))⟩)
  have E_NULL : Exa s s.heap a_NULL "com/example/sinkwell/sinkwell/dataflow/Taint" := Exa.start ev_NULL hc0
  obtain ⟨a_TAINTED, ev_TAINTED⟩ := exa_v hc1
  have S_TAINTED : Sta s s.heap "com/example/sinkwell/sinkwell/dataflow/Taint" "TAINTED" "Lcom/example/sinkwell/sinkwell/dataflow/Taint;" (.ref a_TAINTED) := Sta.start ev_TAINTED (Or.inr ⟨(hw _ (List.mem_of_getElem? (i := 5) rfl)), (hw _ (List.mem_of_getElem? (i := 8) rfl))⟩)
  have E_TAINTED : Exa s s.heap a_TAINTED "com/example/sinkwell/sinkwell/dataflow/Taint" := Exa.start ev_TAINTED hc1
  obtain ⟨a_UNKNOWN, ev_UNKNOWN⟩ := exa_v hc4
  have S_UNKNOWN : Sta s s.heap "com/example/sinkwell/sinkwell/dataflow/Taint" "UNKNOWN" "Lcom/example/sinkwell/sinkwell/dataflow/Taint;" (.ref a_UNKNOWN) := Sta.start ev_UNKNOWN (Or.inr ⟨(hw _ (List.mem_of_getElem? (i := 5) rfl)), (hw _ (List.mem_of_getElem? (i := 34) rfl))⟩)
  have E_UNKNOWN : Exa s s.heap a_UNKNOWN "com/example/sinkwell/sinkwell/dataflow/Taint" := Exa.start ev_UNKNOWN hc4
  obtain ⟨a_SAFE, ev_SAFE⟩ := exa_v hc5
  have S_SAFE : Sta s s.heap "com/example/sinkwell/sinkwell/dataflow/Taint" "SAFE" "Lcom/example/sinkwell/sinkwell/dataflow/Taint;" (.ref a_SAFE) := Sta.start ev_SAFE (Or.inr ⟨(hw _ (List.mem_of_getElem? (i := 5) rfl)), (hw _ (List.mem_of_getElem? (i := 36) rfl))⟩)
  have E_SAFE : Exa s s.heap a_SAFE "com/example/sinkwell/sinkwell/dataflow/Taint" := Exa.start ev_SAFE hc5
  have F_NULL_ordinal : Fld s s.heap a_NULL "java/lang/Enum" "ordinal" "I" (.int (0 : Int32)) := own_fld hc2 ev_NULL rfl
  have F_TAINTED_ordinal : Fld s s.heap a_TAINTED "java/lang/Enum" "ordinal" "I" (.int (3 : Int32)) := own_fld hc3 ev_TAINTED rfl
  have F_UNKNOWN_ordinal : Fld s s.heap a_UNKNOWN "java/lang/Enum" "ordinal" "I" (.int (2 : Int32)) := own_fld hc6 ev_UNKNOWN rfl
  have F_SAFE_ordinal : Fld s s.heap a_SAFE "java/lang/Enum" "ordinal" "I" (.int (1 : Int32)) := own_fld hr6 ev_SAFE rfl
  obtain ⟨cM, kM, mir, m1, m2, m3, -⟩ := hcalls.1
  obtain ⟨n, o, h1, h2, h3, _, L, rfl, ⟨rfl, N⟩, hq⟩ := own_main (ws := tables_1) (own_law l s _ hw s.heap.size s.heap i0 i1 mir a_NULL S_NULL E_NULL a_TAINTED S_TAINTED E_TAINTED a_UNKNOWN S_UNKNOWN E_UNKNOWN a_SAFE S_SAFE E_SAFE F_NULL_ordinal F_TAINTED_ordinal F_UNKNOWN_ordinal F_SAFE_ordinal ⟨cM, kM, m1, m2, m3⟩) p e ha hc hk s m _ below hf ((Spec.applies_iff_loose hf).mp happ).1 ⟨rfl, State.Warmed39.refl s, rfl⟩ trivial
  refine ⟨n, _, h1, h2, h3, hpost _ _ _ _ _ _ ⟨Cond.after_iff.mpr rfl, Cond.after_iff.mpr (eq_i res_at (Term.int_eval (1)) rfl), trivial⟩ ⟨hq.1, hq.2.1, (hq.2.2.sift fun y hy => Or.inr (N y hy)).mono (by decide) (by decide)⟩⟩
theorem main_1_1 : Claimed_1_1 := comes_1 fun _ _ _ _ _ _ h hF => ⟨h.1, hF⟩
theorem main_1_2 : Claimed_1_2 := comes_1 fun _ _ _ _ _ _ h hF => ⟨h.2.1, hF⟩
end Jvm.Pilot.@@N@@
namespace Jvm.Pilot.@@N@@
open Jvm Jvm.ClassFile Sem Op Lib Jvm.Free Jvm.Stand Jvm.Pilot.@@N@@.Jvm.D
/-! MADE BY PROGRAM (witnessworld.py) out of the Statement's table words and the real class files: 13 classes; the members and pool entries that the words name. The judged class is class 1, her method 2. -/
namespace start1
open Jvm.ClassFile
def u (s : String) : CpInfo := .utf8 (stringToUtf16 s)
/-- a pool by its gaps: so many unusable entries, then the entry; so many at the end -/
def gap : Nat → List CpInfo → List CpInfo
  | 0, r => r
  | n + 1, r => .unusable :: gap n r
def poolList (es : List (Nat × CpInfo)) (last : Nat) : List CpInfo := es.foldr (fun e r => gap e.1 (e.2 :: r)) (gap last [])
def pool (es : List (Nat × CpInfo)) (last : Nat) : Array CpInfo := ⟨poolList es last⟩
def fileOf (pool : Array CpInfo) (this : Nat) (attrs : Array Attribute := #[]) (ms : Array MethodInfo := #[]) (fl : Nat := 33) (sup : Nat := 0) (ifs : Array Nat := #[]) (fds : Array FieldInfo := #[]) : ClassFile where
  minorVersion := 0
  majorVersion := 65
  constantPool := pool
  accessFlags := fl
  thisClass := this
  superClass := sup
  interfaces := ifs
  fields := fds
  methods := ms
  attributes := attrs
def plain (name : String) (sup : Option ClassId) : Class where
  name := name
  kind := .ordinary
  loader := none
  accessFlags := 33
  super := sup
  interfaces := #[]
  cf := none
  fields := #[]
  methods := #[]
  instanceTypes := #[]
  staticTypes := #[]
  resolved := #[]
  callSites := []
  init := .initialized
  statics := none
  mirror := none

def pool0 : Array CpInfo := pool [(5, u "<init>"), (0, u "()V"), (1, .class_ 10), (1, u "java/lang/Object"), (0, u "getClass"), (0, u "()Ljava/lang/Class;")] 111

def k0m0 : Method := { name := "<init>", desc := "()V", sig := { parameters := [], returnType := none }, accessFlags := 1, code := none }
def k0m1 : Method := { name := "getClass", desc := "()Ljava/lang/Class;", sig := { parameters := [], returnType := some (.object "java/lang/Class") }, accessFlags := 273, code := none }
/-- java/lang/Object -/
def k0 : Class := { plain "java/lang/Object" none with
  accessFlags := 33
  interfaces := #[]
  cf := some (fileOf pool0 8 #[] #[{ accessFlags := 1, nameIndex := 5, descriptorIndex := 6, attributes := #[] }, { accessFlags := 273, nameIndex := 11, descriptorIndex := 12, attributes := #[] }] 33 0 #[] #[])
  fields := #[]
  methods := #[k0m0, k0m1]
  instanceTypes := #[]
  staticTypes := #[]
  resolved := Array.replicate 124 none
  statics := none }

def pool1 : Array CpInfo := pool [(2, .class_ 4), (1, u "java/lang/Object"), (0, u "<init>"), (0, u "()V"), (0, .fieldref 8 9), (0, .class_ 10), (0, .nameAndType 11 12), (0, u "com/example/sinkwell/sinkwell/dataflow/Taint"), (0, u "NULL"), (0, u "Lcom/example/sinkwell/sinkwell/dataflow/Taint;"), (0, .fieldref 8 14), (0, .nameAndType 15 12), (0, u "SAFE"), (0, .fieldref 8 17), (0, .nameAndType 18 12), (0, u "UNKNOWN"), (0, .fieldref 8 20), (0, .nameAndType 21 12), (0, u "TAINTED"), (0, .methodref 23 24), (0, .class_ 25), (0, .nameAndType 26 27), (0, u "com/example/sinkwell/sinkwell/dataflow/TaintJoinPinLaw"), (0, u "pick"), (0, u "(I)Lcom/example/sinkwell/sinkwell/dataflow/Taint;"), (0, .methodref 8 29), (0, .nameAndType 30 31), (0, u "join"), (0, u "(Lcom/example/sinkwell/sinkwell/dataflow/Taint;)Lcom/example/sinkwell/sinkwell/dataflow/Taint;"), (0, .methodref 33 34), (0, .class_ 35), (0, .nameAndType 36 37), (0, u "java/lang/Math"), (0, u "max"), (0, u "(II)I"), (3, u "law"), (0, u "(II)Z")] 2

def k1m0 : Method := { name := "<init>", desc := "()V", sig := { parameters := [], returnType := none }, accessFlags := 1, code := none }
def k1c1 : Code := { maxStack := 2, maxLocals := 1, code := method_2_code, exceptionTable := #[], attributes := #[] }
def k1m1 : Method := { name := "pick", desc := "(I)Lcom/example/sinkwell/sinkwell/dataflow/Taint;", sig := { parameters := [.int], returnType := some (.object "com/example/sinkwell/sinkwell/dataflow/Taint") }, accessFlags := 10, code := some k1c1 }
def k1c2 : Code := { maxStack := 3, maxLocals := 7, code := code, exceptionTable := #[], attributes := #[] }
def k1m2 : Method := { name := "law", desc := "(II)Z", sig := { parameters := [.int, .int], returnType := some .boolean }, accessFlags := 9, code := some k1c2 }
/-- com/example/sinkwell/sinkwell/dataflow/TaintJoinPinLaw -/
def k1 : Class := { plain "com/example/sinkwell/sinkwell/dataflow/TaintJoinPinLaw" (some 0) with
  accessFlags := 49
  interfaces := #[]
  cf := some (fileOf pool1 23 #[] #[{ accessFlags := 1, nameIndex := 5, descriptorIndex := 6, attributes := #[] }, { accessFlags := 10, nameIndex := 26, descriptorIndex := 27, attributes := #[] }, { accessFlags := 9, nameIndex := 41, descriptorIndex := 42, attributes := #[] }] 49 2 #[] #[])
  fields := #[]
  methods := #[k1m0, k1m1, k1m2]
  instanceTypes := #[]
  staticTypes := #[]
  resolved := Array.replicate 45 none
  statics := none }

def pool2 : Array CpInfo := pool [(1, .class_ 2), (0, u "java/lang/constant/Constable"), (0, .class_ 4), (0, u "java/lang/Object")] 6

/-- java/lang/constant/Constable -/
def k2 : Class := { plain "java/lang/constant/Constable" (some 0) with
  accessFlags := 1537
  interfaces := #[]
  cf := some (fileOf pool2 1 #[] #[] 1537 3 #[] #[])
  fields := #[]
  methods := #[]
  instanceTypes := #[]
  staticTypes := #[]
  resolved := Array.replicate 11 none
  statics := none }

def pool3 : Array CpInfo := pool [(1, .class_ 2), (0, u "java/lang/Comparable"), (0, .class_ 4), (0, u "java/lang/Object")] 7

/-- java/lang/Comparable -/
def k3 : Class := { plain "java/lang/Comparable" (some 0) with
  accessFlags := 1537
  interfaces := #[]
  cf := some (fileOf pool3 1 #[] #[] 1537 3 #[] #[])
  fields := #[]
  methods := #[]
  instanceTypes := #[]
  staticTypes := #[]
  resolved := Array.replicate 12 none
  statics := none }

def pool4 : Array CpInfo := pool [(1, .class_ 2), (0, u "java/io/Serializable"), (0, .class_ 4), (0, u "java/lang/Object")] 2

/-- java/io/Serializable -/
def k4 : Class := { plain "java/io/Serializable" (some 0) with
  accessFlags := 1537
  interfaces := #[]
  cf := some (fileOf pool4 1 #[] #[] 1537 3 #[] #[])
  fields := #[]
  methods := #[]
  instanceTypes := #[]
  staticTypes := #[]
  resolved := Array.replicate 7 none
  statics := none }

def pool5 : Array CpInfo := pool [(2, .class_ 4), (1, u "java/lang/Enum"), (0, u "name"), (0, u "Ljava/lang/String;"), (0, .fieldref 2 8), (0, .nameAndType 9 10), (0, u "ordinal"), (0, u "I"), (1, .class_ 14), (1, u "java/lang/Object"), (4, u "hash"), (9, .methodref 12 30), (0, .nameAndType 31 32), (0, u "getClass"), (0, u "()Ljava/lang/Class;"), (70, u "compareTo"), (0, u "(Ljava/lang/Enum;)I"), (1, .class_ 108), (1, u "java/lang/Enum$EnumDesc"), (2, .class_ 112), (0, u "java/lang/constant/Constable"), (0, .class_ 114), (0, u "java/lang/Comparable"), (0, .class_ 116), (0, u "java/io/Serializable")] 87

def k5c0 : Code := { maxStack := 2, maxLocals := 4, code := jdk_37_method_8_code, exceptionTable := #[], attributes := #[] }
def k5m0 : Method := { name := "compareTo", desc := "(Ljava/lang/Enum;)I", sig := { parameters := [(.object "java/lang/Enum")], returnType := some .int }, accessFlags := 17, code := some k5c0 }
/-- java/lang/Enum -/
def k5 : Class := { plain "java/lang/Enum" (some 0) with
  accessFlags := 1057
  interfaces := #[2, 3, 4]
  cf := some (fileOf pool5 2 #[.nestMembers #[106]] #[{ accessFlags := 17, nameIndex := 103, descriptorIndex := 104, attributes := #[] }] 1057 12 #[111, 113, 115] #[{ accessFlags := 18, nameIndex := 5, descriptorIndex := 6, attributes := #[] }, { accessFlags := 18, nameIndex := 9, descriptorIndex := 10, attributes := #[] }, { accessFlags := 2, nameIndex := 19, descriptorIndex := 10, attributes := #[] }])
  fields := #[{ name := "name", type := (.object "java/lang/String"), accessFlags := 18, slot := 0, constantValue := 0 }, { name := "ordinal", type := .int, accessFlags := 18, slot := 1, constantValue := 0 }, { name := "hash", type := .int, accessFlags := 2, slot := 2, constantValue := 0 }]
  methods := #[k5m0]
  instanceTypes := #[(.object "java/lang/String"), .int, .int]
  staticTypes := #[]
  resolved := Array.replicate 204 none
  statics := none }

def pool6 : Array CpInfo := pool [(1, .class_ 2), (0, u "com/example/sinkwell/sinkwell/dataflow/Taint"), (2, u "NULL"), (0, u "Lcom/example/sinkwell/sinkwell/dataflow/Taint;"), (2, u "SAFE"), (2, u "UNKNOWN"), (2, u "TAINTED"), (2, u "$VALUES"), (0, u "[Lcom/example/sinkwell/sinkwell/dataflow/Taint;"), (6, .class_ 28), (1, u "java/lang/Enum"), (6, .methodref 1 36), (0, .nameAndType 37 38), (0, u "compareTo"), (0, u "(Ljava/lang/Enum;)I"), (16, u "join"), (0, u "(Lcom/example/sinkwell/sinkwell/dataflow/Taint;)Lcom/example/sinkwell/sinkwell/dataflow/Taint;")] 5

def k6c0 : Code := { maxStack := 2, maxLocals := 2, code := prog_10_method_4_code, exceptionTable := #[], attributes := #[] }
def k6m0 : Method := { name := "join", desc := "(Lcom/example/sinkwell/sinkwell/dataflow/Taint;)Lcom/example/sinkwell/sinkwell/dataflow/Taint;", sig := { parameters := [(.object "com/example/sinkwell/sinkwell/dataflow/Taint")], returnType := some (.object "com/example/sinkwell/sinkwell/dataflow/Taint") }, accessFlags := 1, code := some k6c0 }
/-- com/example/sinkwell/sinkwell/dataflow/Taint -/
def k6 : Class := { plain "com/example/sinkwell/sinkwell/dataflow/Taint" (some 5) with
  mirror := some 5
  accessFlags := 16433
  interfaces := #[]
  cf := some (fileOf pool6 1 #[] #[{ accessFlags := 1, nameIndex := 55, descriptorIndex := 56, attributes := #[] }] 16433 26 #[] #[{ accessFlags := 16409, nameIndex := 5, descriptorIndex := 6, attributes := #[] }, { accessFlags := 16409, nameIndex := 9, descriptorIndex := 6, attributes := #[] }, { accessFlags := 16409, nameIndex := 12, descriptorIndex := 6, attributes := #[] }, { accessFlags := 16409, nameIndex := 15, descriptorIndex := 6, attributes := #[] }, { accessFlags := 4122, nameIndex := 18, descriptorIndex := 19, attributes := #[] }])
  fields := #[{ name := "NULL", type := (.object "com/example/sinkwell/sinkwell/dataflow/Taint"), accessFlags := 16409, slot := 0, constantValue := 0 }, { name := "SAFE", type := (.object "com/example/sinkwell/sinkwell/dataflow/Taint"), accessFlags := 16409, slot := 1, constantValue := 0 }, { name := "UNKNOWN", type := (.object "com/example/sinkwell/sinkwell/dataflow/Taint"), accessFlags := 16409, slot := 2, constantValue := 0 }, { name := "TAINTED", type := (.object "com/example/sinkwell/sinkwell/dataflow/Taint"), accessFlags := 16409, slot := 3, constantValue := 0 }, { name := "$VALUES", type := (.array (.object "com/example/sinkwell/sinkwell/dataflow/Taint")), accessFlags := 4122, slot := 4, constantValue := 0 }]
  methods := #[k6m0]
  instanceTypes := #[(.object "java/lang/String"), .int, .int]
  staticTypes := #[(.object "com/example/sinkwell/sinkwell/dataflow/Taint"), (.object "com/example/sinkwell/sinkwell/dataflow/Taint"), (.object "com/example/sinkwell/sinkwell/dataflow/Taint"), (.object "com/example/sinkwell/sinkwell/dataflow/Taint"), (.array (.object "com/example/sinkwell/sinkwell/dataflow/Taint"))]
  resolved := Array.replicate 62 none
  statics := some 0 }

def pool7 : Array CpInfo := pool [(1, .class_ 2), (0, u "java/lang/Math"), (1, .class_ 6), (1, u "java/lang/Object"), (0, u "<init>"), (0, u "()V"), (89, .class_ 100), (1, u "java/lang/Math$RandomNumberGeneratorHolder"), (71, u "negativeZeroFloatBits"), (0, u "J"), (2, u "negativeZeroDoubleBits"), (21, u "max"), (46, u "$assertionsDisabled"), (0, u "Z"), (88, u "(II)I"), (2, u "twoToTheDoubleScaleDown"), (0, u "D"), (4, u "twoToTheDoubleScaleUp"), (9, u "E"), (3, u "PI"), (2, u "TAU"), (2, u "DEGREES_TO_RADIANS"), (0, u "RADIANS_TO_DEGREES")] 94

def k7m0 : Method := { name := "<init>", desc := "()V", sig := { parameters := [], returnType := none }, accessFlags := 2, code := none }
def k7c1 : Code := { maxStack := 2, maxLocals := 2, code := jdk_29_method_65_code, exceptionTable := #[], attributes := #[] }
def k7m1 : Method := { name := "max", desc := "(II)I", sig := { parameters := [.int, .int], returnType := some .int }, accessFlags := 9, code := some k7c1 }
/-- java/lang/Math -/
def k7 : Class := { plain "java/lang/Math" (some 0) with
  accessFlags := 49
  interfaces := #[]
  cf := some (fileOf pool7 1 #[.nestMembers #[98]] #[{ accessFlags := 2, nameIndex := 7, descriptorIndex := 8, attributes := #[] }, { accessFlags := 9, nameIndex := 198, descriptorIndex := 335, attributes := #[] }] 49 4 #[] #[{ accessFlags := 25, nameIndex := 354, descriptorIndex := 339, attributes := #[] }, { accessFlags := 25, nameIndex := 358, descriptorIndex := 339, attributes := #[] }, { accessFlags := 25, nameIndex := 361, descriptorIndex := 339, attributes := #[] }, { accessFlags := 26, nameIndex := 364, descriptorIndex := 339, attributes := #[] }, { accessFlags := 26, nameIndex := 365, descriptorIndex := 339, attributes := #[] }, { accessFlags := 26, nameIndex := 172, descriptorIndex := 173, attributes := #[] }, { accessFlags := 26, nameIndex := 176, descriptorIndex := 173, attributes := #[] }, { accessFlags := 8, nameIndex := 344, descriptorIndex := 339, attributes := #[] }, { accessFlags := 8, nameIndex := 338, descriptorIndex := 339, attributes := #[] }, { accessFlags := 4120, nameIndex := 245, descriptorIndex := 246, attributes := #[] }])
  fields := #[{ name := "E", type := .double, accessFlags := 25, slot := 0, constantValue := 0 }, { name := "PI", type := .double, accessFlags := 25, slot := 1, constantValue := 0 }, { name := "TAU", type := .double, accessFlags := 25, slot := 2, constantValue := 0 }, { name := "DEGREES_TO_RADIANS", type := .double, accessFlags := 26, slot := 3, constantValue := 0 }, { name := "RADIANS_TO_DEGREES", type := .double, accessFlags := 26, slot := 4, constantValue := 0 }, { name := "negativeZeroFloatBits", type := .long, accessFlags := 26, slot := 5, constantValue := 0 }, { name := "negativeZeroDoubleBits", type := .long, accessFlags := 26, slot := 6, constantValue := 0 }, { name := "twoToTheDoubleScaleUp", type := .double, accessFlags := 8, slot := 7, constantValue := 0 }, { name := "twoToTheDoubleScaleDown", type := .double, accessFlags := 8, slot := 8, constantValue := 0 }, { name := "$assertionsDisabled", type := .boolean, accessFlags := 4120, slot := 9, constantValue := 0 }]
  methods := #[k7m0, k7m1]
  instanceTypes := #[]
  staticTypes := #[.double, .double, .double, .double, .double, .long, .long, .double, .double, .boolean]
  resolved := Array.replicate 460 none
  statics := none }

def pool8 : Array CpInfo := pool [(1, u "java/lang/Cloneable"), (0, .class_ 1), (0, u "java/lang/Object"), (0, .class_ 3)] 3

/-- java/lang/Cloneable -/
def k8 : Class := { plain "java/lang/Cloneable" (some 0) with
  accessFlags := 1537
  interfaces := #[]
  cf := some (fileOf pool8 2 #[] #[] 1537 4 #[] #[])
  fields := #[]
  methods := #[]
  instanceTypes := #[]
  staticTypes := #[]
  resolved := Array.replicate 8 none
  statics := none }

/-- the primitive byte -/
def k9 : Class := { plain "byte" none with kind := .primitive 'B', accessFlags := 0x411 }
/-- [B -/
def k10 : Class := { plain "[B" (some 0) with kind := .array 9 .byte, interfaces := #[8, 4], accessFlags := 1041 }

/-- the primitive int -/
def k11 : Class := { plain "int" none with kind := .primitive 'I', accessFlags := 0x411 }
/-- [I -/
def k12 : Class := { plain "[I" (some 0) with kind := .array 11 .int, interfaces := #[8, 4], accessFlags := 1041 }

def heap : Heap := #[{ cls := 6, slots := #[.ref 1, .ref 2, .ref 3, .ref 4, .null], vm := .statics 6 },
  { cls := 6, slots := #[.null, .int 0, .int 0], vm := .none },
  { cls := 6, slots := #[.null, .int 1, .int 0], vm := .none },
  { cls := 6, slots := #[.null, .int 2, .int 0], vm := .none },
  { cls := 6, slots := #[.null, .int 3, .int 0], vm := .none },
  { cls := 0, slots := #[], vm := .mirror 6 }]
def classes : Array Class := #[k0, k1, k2, k3, k4, k5, k6, k7, k8, k9, k10, k11, k12]
def interned : List (Array UInt16 × Addr) := []
def slotsUsed : Nat := 17
def theMethod : MethodId := ⟨1, 2⟩
def args0 : Array Value := #[.int 1, .int 2]
def aboutOver (below : List Frame) : State where
  vm := { classes := classes, interned := interned.toArray }
  heap := heap
  slotsUsed := slotsUsed
  threads := #[{ frames := .invoking theMethod args0 :: below }]
def below0 : List Frame := [.native { method := ⟨0, 0⟩, args := #[] }]
def about1 : State := aboutOver below0
def p0 : Program := .bare "" "" ""
def e0 : Env := launch0.env 0 0 0
theorem w_frames : about1.frames = Frame.invoking theMethod args0 :: below0 := rfl
set_option maxRecDepth 65536 in
theorem w_args : argsFit about1.vm theMethod args0 = true := by decide +kernel
set_option maxRecDepth 65536 in
theorem w_heap : heapFits about1 = true := by decide +kernel
set_option maxRecDepth 65536 in
theorem w_runnable : about1.curStatus? = some .runnable := by decide +kernel
set_option maxRecDepth 65536 in
theorem w_alone : about1.alone = true := by decide +kernel
set_option maxRecDepth 65536 in
theorem w_named : about1.methodNamed? x = some theMethod := by decide +kernel
set_option maxRecDepth 65536 in
theorem w_hears : about1.hears theMethod below0 = true := by decide +kernel
set_option maxRecDepth 65536 in
theorem w_ripe : about1.ripe theMethod args0 below0 = true := by decide +kernel
theorem w_running : about1.status = .running := rfl
set_option maxRecDepth 65536 in
theorem w_room : about1.hasRoom e0.platform room_1 = true :=
  launch0.hasRoom_least _ room_1 (by decide +kernel) (by decide +kernel) (by decide +kernel) (by decide +kernel) (by decide +kernel) (by decide +kernel)
theorem allAtoms_all (ts : List Jvm.Cond) (a : Array Jvm.Value) (st : Jvm.State) : (allAtoms ts).before a st = ts.all (fun c => c.before a st) := by
  induction ts with
  | nil => rfl
  | cons c t ih =>
    show (Jvm.Cond.and c (allAtoms t)).before a st = _
    rw [Jvm.Cond.before_and, ih, List.all_cons]
def words1 : List Jvm.Cond := Jvm.Cond.code x code maxLocals ret :: tables_1
/-- a 'code' word, met by the world's own term for the bytes: nothing is compared byte by byte -/
theorem code_word {y : MethodName} {bytes : ByteArray} {mx : Nat} {rt : Option FieldType} {a : Array Value} {s : State} {m : MethodId} {meth : Method} {c : Code} (h1 : s.methodNamed? y = some m) (h2 : s.vm.method? m = some meth) (h3 : meth.code = some c) (h4 : c.code = bytes)
    (h5 : (c.maxLocals == mx && c.exceptionTable.isEmpty && decide (c.maxStack ≤ mostOperands) && decide (meth.sig.returnType = rt) && !meth.locks && decide (parseMethodDescriptor y.desc = some meth.sig)) = true) : (Jvm.Cond.code y bytes mx rt).before a s = true := by
  simp only [Bool.and_eq_true, beq_iff_eq, Bool.not_eq_true', decide_eq_true_eq] at h5
  obtain ⟨⟨⟨⟨⟨g1, g2⟩, g3⟩, g4⟩, g5⟩, g6⟩ := h5
  simp [Cond.before, Cond.holds, Cond.value, h1, h2, h3, h4, g1, g2, g3, g4, g5, g6]
def isCode : Jvm.Cond → Bool
  | .code _ _ _ _ => true
  | _ => false
theorem all_split {L : List Jvm.Cond} {P : Jvm.Cond → Bool} (h1 : L.all (fun c => isCode c || P c) = true) (h2 : ∀ c ∈ L.filter isCode, P c = true) : L.all P = true := by
  refine List.all_eq_true.mpr fun c hc => ?_
  have h := List.all_eq_true.mp h1 c hc
  rcases Bool.eq_false_or_eq_true (isCode c) with hi | hi
  · exact h2 c (List.mem_filter.mpr ⟨hc, hi⟩)
  · simpa [hi] using h
set_option maxRecDepth 65536 in
theorem w_c0 : (Jvm.Cond.code x code maxLocals ret).before args0 about1 = true := code_word (m := ⟨1, 2⟩) (meth := k1m2) (c := k1c2) (by decide +kernel) rfl rfl rfl (by decide +kernel)
set_option maxRecDepth 65536 in
theorem w_c1 : (Jvm.Cond.code ({ cls := "com/example/sinkwell/sinkwell/dataflow/TaintJoinPinLaw", name := "pick", desc := "(I)Lcom/example/sinkwell/sinkwell/dataflow/Taint;" } : Jvm.MethodName) method_2_code (1 : Nat) (Option.some (Jvm.ClassFile.FieldType.object "com/example/sinkwell/sinkwell/dataflow/Taint"))).before args0 about1 = true := code_word (m := ⟨1, 1⟩) (meth := k1m1) (c := k1c1) (by decide +kernel) rfl rfl rfl (by decide +kernel)
set_option maxRecDepth 65536 in
theorem w_c2 : (Jvm.Cond.code ({ cls := "com/example/sinkwell/sinkwell/dataflow/Taint", name := "join", desc := "(Lcom/example/sinkwell/sinkwell/dataflow/Taint;)Lcom/example/sinkwell/sinkwell/dataflow/Taint;" } : Jvm.MethodName) prog_10_method_4_code (2 : Nat) (Option.some (Jvm.ClassFile.FieldType.object "com/example/sinkwell/sinkwell/dataflow/Taint"))).before args0 about1 = true := code_word (m := ⟨6, 0⟩) (meth := k6m0) (c := k6c0) (by decide +kernel) rfl rfl rfl (by decide +kernel)
set_option maxRecDepth 65536 in
theorem w_c3 : (Jvm.Cond.code ({ cls := "java/lang/Enum", name := "compareTo", desc := "(Ljava/lang/Enum;)I" } : Jvm.MethodName) jdk_37_method_8_code (4 : Nat) (Option.some Jvm.ClassFile.FieldType.int)).before args0 about1 = true := code_word (m := ⟨5, 0⟩) (meth := k5m0) (c := k5c0) (by decide +kernel) rfl rfl rfl (by decide +kernel)
set_option maxRecDepth 65536 in
theorem w_c4 : (Jvm.Cond.code ({ cls := "java/lang/Math", name := "max", desc := "(II)I" } : Jvm.MethodName) jdk_29_method_65_code (2 : Nat) (Option.some Jvm.ClassFile.FieldType.int)).before args0 about1 = true := code_word (m := ⟨7, 1⟩) (meth := k7m1) (c := k7c1) (by decide +kernel) rfl rfl rfl (by decide +kernel)
def codes1 : List Jvm.Cond := [Jvm.Cond.code x code maxLocals ret, Jvm.Cond.code ({ cls := "com/example/sinkwell/sinkwell/dataflow/TaintJoinPinLaw", name := "pick", desc := "(I)Lcom/example/sinkwell/sinkwell/dataflow/Taint;" } : Jvm.MethodName) method_2_code (1 : Nat) (Option.some (Jvm.ClassFile.FieldType.object "com/example/sinkwell/sinkwell/dataflow/Taint")), Jvm.Cond.code ({ cls := "com/example/sinkwell/sinkwell/dataflow/Taint", name := "join", desc := "(Lcom/example/sinkwell/sinkwell/dataflow/Taint;)Lcom/example/sinkwell/sinkwell/dataflow/Taint;" } : Jvm.MethodName) prog_10_method_4_code (2 : Nat) (Option.some (Jvm.ClassFile.FieldType.object "com/example/sinkwell/sinkwell/dataflow/Taint")), Jvm.Cond.code ({ cls := "java/lang/Enum", name := "compareTo", desc := "(Ljava/lang/Enum;)I" } : Jvm.MethodName) jdk_37_method_8_code (4 : Nat) (Option.some Jvm.ClassFile.FieldType.int), Jvm.Cond.code ({ cls := "java/lang/Math", name := "max", desc := "(II)I" } : Jvm.MethodName) jdk_29_method_65_code (2 : Nat) (Option.some Jvm.ClassFile.FieldType.int)]
set_option maxRecDepth 65536 in
theorem codes_eq : words1.filter isCode = codes1 := rfl
theorem w_codes : ∀ c ∈ words1.filter isCode, c.before args0 about1 = true := by
  rw [codes_eq]
  intro c hc
  simp only [codes1, List.mem_cons, List.not_mem_nil, or_false] at hc
  rcases hc with rfl | rfl | rfl | rfl | rfl
  · exact w_c0
  · exact w_c1
  · exact w_c2
  · exact w_c3
  · exact w_c4
set_option maxRecDepth 65536 in
theorem w_t1 : (words1.take 24).all (fun c => isCode c || c.before args0 about1) = true := by decide +kernel
set_option maxRecDepth 65536 in
theorem w_t2 : (words1.drop 24).all (fun c => isCode c || c.before args0 about1) = true := by decide +kernel
theorem w_tables : (allAtoms (Jvm.Cond.code x code maxLocals ret :: tables_1)).before args0 about1 = true := by
  rw [allAtoms_all]
  show words1.all (fun c => c.before args0 about1) = true
  refine all_split ?_ w_codes
  rw [← List.take_append_drop 24 words1, List.all_append, w_t1, w_t2]
  rfl
set_option maxRecDepth 65536 in
theorem w_case : (Jvm.Cond.and given_1 narrow_1).before args0 about1 = true := by decide +kernel
theorem w_applies : (headSpec (Jvm.Cond.code x code maxLocals ret :: tables_1) room_1).applies x e0.platform about1 = true :=
  (Spec.applies_iff w_frames).mpr ⟨w_running, w_runnable, w_alone, w_named, w_hears, w_ripe, w_room, w_tables⟩
set_option maxRecDepth 65536 in
theorem w_calls : Calls_1 p0.tables e0 args0 about1 := And.intro (Exists.intro 6 (Exists.intro k6 (Exists.intro 5 ⟨by decide +kernel, rfl, rfl, _, rfl, rfl⟩))) trivial
theorem atStart : AtStart classFile x code maxLocals ret World_1 tables_1 room_1 Calls_1 rest_1 Pre_1 launch0 p0 e0 about1 theMethod args0 below0 :=
  ⟨lists_1, trivial, launch0.admits_env _ _ _, launch0.least_env, fairChoices_fair.cas, fairChoices_fair.clock, w_frames, w_args, w_heap, w_applies, w_calls, trivial, w_case⟩
end start1
theorem witness_1 : WitnessClaimed_1 := ⟨start1.p0, start1.e0, start1.about1, start1.theMethod, start1.args0, start1.below0, start1.atStart⟩
end Jvm.Pilot.@@N@@
