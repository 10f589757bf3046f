import JvmDerived
import JvmDerived.Pilot.@@N@@Statement
import JvmDerived.Pilot.@@N@@Code
set_option linter.unusedVariables false
set_option linter.unusedSimpArgs false
namespace Jvm.RoadKit
open Sem ClassFile Op Lib Jvm.Stand Jvm.Free Jvm.LawKit
section OwnKit
/-- what stands fast while one body is walked -/
def own_Cx (p : Program) (l : Launch) (e : Env) (R : Room) (s : State) (m : MethodId) (args : Array Value) (below : List Frame) (meth : Method) (c : Code) (Z : State) (own nm : String) (bytes : ByteArray) (maxL : Nat) (ret : Option FieldType) : Prop :=
  p.tables.exec = Jvm.exec ∧ Z.Warmed39 s.vm ∧ s.vm.findClass own = some m.cls ∧ c.code = bytes ∧ c.maxLocals = maxL ∧ meth.sig.returnType = ret ∧ meth.locks = false ∧ meth.name = nm
/-- from here the body comes to its end, and Q holds of what it returns and of the heap -/
def own_Go (p : Program) (l : Launch) (e : Env) (R : Room) (s : State) (m : MethodId) (args : Array Value) (below : List Frame) (meth : Method) (c : Code) (n0 : Nat) (Q : Option Value → State → List Loc → Prop) (cells slots : Nat) (h : Heap) (pc : Nat) (Ls : List Slot) (st : List Value) : Prop :=
  ∀ (T : State) (locs : List Loc) (ce sl : Nat), ce ≤ cells → sl ≤ slots → Fr n0 locs → Stand p l e R s m args below meth c T locs ce sl → T.heap = h →
    ∃ s₂ o, Steps p.tables e below (T.setTop (mkF m pc Ls.toArray st)) s₂ ∧ s₂.status = .running ∧ Ended s₂ below o ∧ ∃ v L, o = .returned v ∧ Q v s₂ L
/-- the plain end: what is returned, the heap, what was written, the frame -/
def own_N (s : State) (n0 : Nat) (R : Room) (Q : Option Value → Heap → Prop) (v : Option Value) (t : State) (L : List Loc) : Prop := (Q v t.heap ∧ Fr n0 L) ∧ FrameEnd s (.returned v) t L R.cells R.slots
/-- an instruction and the place behind it -/
def own_D (bytes : ByteArray) (pc : Nat) (i : Instr) (n pn : Nat) : Prop := decode bytes pc = .ok (i, n) ∧ pc + n = pn
/-- where a branch leads -/
def own_T (pc : Nat) (o : Int) (pt : Nat) : Prop := 0 ≤ (pc : Int) + o ∧ ((pc : Int) + o).toNat = pt
/-- a body's contract, over the start's tables Z and the heap h -/
def own_Con (l : Launch) (Z : State) (y : MethodName) (bytes : ByteArray) (maxL : Nat) (ret : Option FieldType) (rm : Room) (n0 : Nat) (as' : List Value) (h : Heap) (Q : Option Value → Heap → Prop) : Prop :=
  ∀ ws : List Jvm.Cond, MetFree l y (head1 (Jvm.Cond.code y bytes maxL ret :: ws) rm) (fun a U => a = as'.toArray ∧ Z.Warmed39 U.vm ∧ U.heap = h) (fun _ _ _ _ _ => True) (fun _ U o U' => ∃ v L, o = .returned v ∧ (Q v U'.heap ∧ Fr n0 L) ∧ FrameEnd U o U' L rm.cells rm.slots)
variable {p : Program} {l : Launch} {e : Env} {R : Room} {s : State} {m : MethodId} {args : Array Value} {below : List Frame} {meth : Method} {c : Code} {Z : State} {a0 : Array Value} {h : Heap} {own nm : String} {bytes : ByteArray} {maxL : Nat} {ret : Option FieldType} {n0 cells slots pc pn pt : Nat} {Q : Option Value → State → List Loc → Prop} {Qn : Option Value → Heap → Prop} {Ls : List Slot} {st rest : List Value}
theorem own_Con.mk {y : MethodName} {rm : Room} {as' : List Value} (hpn : plainFor y = true) (hef : ∀ m, entryFrame m as'.toArray maxL = mkF m 0 Ls.toArray [])
    (body : ∀ p e s m below meth c, own_Cx p l e rm s m as'.toArray below meth c Z y.cls y.name bytes maxL ret → own_Go p l e rm s m as'.toArray below meth c n0 (own_N s n0 rm Qn) 0 0 h 0 Ls []) : own_Con l Z y bytes maxL ret rm n0 as' h Qn := by
  intro ws
  refine MetFree.of_bodySF hpn hisR ?_
  intro p e s m args below meth c s₁ Bd hml0 hP hK
  obtain ⟨rfl, hZ, hh⟩ := hP
  have X0 : Stand p l e rm s m as'.toArray below meth c s₁ [] 0 0 := Stand.of_body Bd
  have e0 : s₁.heap = h := by rw [← hh, Bd.state]; rfl
  obtain ⟨s₂, o, h1, h2, h3, v, L, rfl, h4⟩ := body p e s m below meth c ⟨Bd.exec, hZ, findClass_of_methodNamed Bd.named, Bd.bytes, hml0, Bd.returns, Bd.notSynchronized, (name_of_methodNamed Bd.named Bd.method).1⟩ s₁ [] 0 0 (Nat.le_refl _) (Nat.le_refl _) (Fr.nil n0) X0 e0
  exact ⟨s₂, _, castTop (hef m) h1, h2, h3, v, L, rfl, h4⟩
theorem own_Con.imp {y : MethodName} {rm : Room} {as' : List Value} {Q' : Option Value → Heap → Prop} (K : own_Con l Z y bytes maxL ret rm n0 as' h Qn) (q : ∀ v h', Qn v h' → Q' v h') : own_Con l Z y bytes maxL ret rm n0 as' h Q' := by
  intro ws p e ha hc hk s m args below hf happ hP hK
  obtain ⟨n, o, h1, h2, h3, v, L, h4, h5, h6⟩ := K ws p e ha hc hk s m args below hf happ hP hK
  exact ⟨n, o, h1, h2, h3, v, L, h4, ⟨q _ _ h5.1, h5.2⟩, h6⟩
theorem own_step {pc' : Nat} {Ls' : List Slot} {st' : List Value} (H : ∀ (T : State) (locs : List Loc) (ce sl : Nat), Stand p l e R s m args below meth c T locs ce sl → ∀ target, Steps p.tables e below (T.setTop (mkF m pc' Ls'.toArray st')) target → Steps p.tables e below (T.setTop (mkF m pc Ls.toArray st)) target)
    (k : own_Go p l e R s m args below meth c n0 Q cells slots h pc' Ls' st') : own_Go p l e R s m args below meth c n0 Q cells slots h pc Ls st := by
  intro T locs ce sl hc hs hf X eT
  obtain ⟨s₂, o, h1, h2⟩ := k T locs ce sl hc hs hf X eT
  exact ⟨s₂, o, H T locs ce sl X _ h1, h2⟩
theorem own_warm {pc' : Nat} {Ls' : List Slot} {st' : List Value} (H : ∀ (T : State) (locs : List Loc) (ce sl : Nat), Stand p l e R s m args below meth c T locs ce sl → T.heap = h → ∃ T', Stand p l e R s m args below meth c T' locs ce sl ∧ T'.heap = h ∧ ∀ target, Steps p.tables e below (T'.setTop (mkF m pc' Ls'.toArray st')) target → Steps p.tables e below (T.setTop (mkF m pc Ls.toArray st)) target)
    (k : own_Go p l e R s m args below meth c n0 Q cells slots h pc' Ls' st') : own_Go p l e R s m args below meth c n0 Q cells slots h pc Ls st := by
  intro T locs ce sl hc hs hf X eT
  obtain ⟨T', X', eT', H'⟩ := H T locs ce sl X eT
  obtain ⟨s₂, o, h1, h2⟩ := k T' locs ce sl hc hs hf X' eT'
  exact ⟨s₂, o, H' _ h1, h2⟩
theorem own_Go.more {cells' slots' : Nat} (hc : cells ≤ cells') (hs : slots ≤ slots') (k : own_Go p l e R s m args below meth c n0 Q cells' slots' h pc Ls st) : own_Go p l e R s m args below meth c n0 Q cells slots h pc Ls st :=
  fun T locs ce sl h1 h2 hf X eT => k T locs ce sl (Nat.le_trans h1 hc) (Nat.le_trans h2 hs) hf X eT
theorem own_Go.cast {pc' : Nat} {Ls' : List Slot} {st' : List Value} (k : own_Go p l e R s m args below meth c n0 Q cells slots h pc' Ls' st') (e1 : pc = pc' := by rfl) (e2 : Ls = Ls' := by rfl) (e3 : st = st' := by rfl) : own_Go p l e R s m args below meth c n0 Q cells slots h pc Ls st := by
  subst e1 e2 e3; exact k
theorem own_aloadN (C : own_Cx p l e R s m args below meth c Z own nm bytes maxL ret) {i : Fin 4} {v : Value} (d : own_D bytes pc (.aload_n i) 1 pn) (hl : Ls[i.val]? = some (.val v)) (hv : v.isRef = true) (k : own_Go p l e R s m args below meth c n0 Q cells slots h pn Ls (v :: st)) : own_Go p l e R s m args below meth c n0 Q cells slots h pc Ls st := by
  obtain ⟨hd, rfl⟩ := d
  exact own_step (fun T locs ce sl X t r => XS.aloadN X.here C.1 rfl (hb C.2.2.2.1 hd) (by simpa using hl) hv r) k
theorem own_aload (C : own_Cx p l e R s m args below meth c Z own nm bytes maxL ret) {i : Nat} {v : Value} (d : own_D bytes pc (.aload i) 2 pn) (hl : Ls[i]? = some (.val v)) (hv : v.isRef = true) (k : own_Go p l e R s m args below meth c n0 Q cells slots h pn Ls (v :: st)) : own_Go p l e R s m args below meth c n0 Q cells slots h pc Ls st := by
  obtain ⟨hd, rfl⟩ := d
  exact own_step (fun T locs ce sl X t r => XS.aload X.here C.1 rfl (hb C.2.2.2.1 hd) (by simpa using hl) hv r) k
theorem own_iloadN (C : own_Cx p l e R s m args below meth c Z own nm bytes maxL ret) {i : Fin 4} {v : Int32} (d : own_D bytes pc (.iload_n i) 1 pn) (hl : Ls[i.val]? = some (.val (.int v))) (k : own_Go p l e R s m args below meth c n0 Q cells slots h pn Ls (.int v :: st)) : own_Go p l e R s m args below meth c n0 Q cells slots h pc Ls st := by
  obtain ⟨hd, rfl⟩ := d
  exact own_step (fun T locs ce sl X t r => XS.iloadN X.here C.1 rfl (hb C.2.2.2.1 hd) (by simpa using hl) r) k
theorem own_iload (C : own_Cx p l e R s m args below meth c Z own nm bytes maxL ret) {i : Nat} {v : Int32} (d : own_D bytes pc (.iload i) 2 pn) (hl : Ls[i]? = some (.val (.int v))) (k : own_Go p l e R s m args below meth c n0 Q cells slots h pn Ls (.int v :: st)) : own_Go p l e R s m args below meth c n0 Q cells slots h pc Ls st := by
  obtain ⟨hd, rfl⟩ := d
  exact own_step (fun T locs ce sl X t r => XS.iload X.here C.1 rfl (hb C.2.2.2.1 hd) (by simpa using hl) r) k
theorem own_lloadN (C : own_Cx p l e R s m args below meth c Z own nm bytes maxL ret) {i : Fin 4} {v : Int64} (d : own_D bytes pc (.lload_n i) 1 pn) (hl : Ls[i.val]? = some (.val (.long v))) (k : own_Go p l e R s m args below meth c n0 Q cells slots h pn Ls (.long v :: st)) : own_Go p l e R s m args below meth c n0 Q cells slots h pc Ls st := by
  obtain ⟨hd, rfl⟩ := d
  exact own_step (fun T locs ce sl X t r => XS.lloadN X.here C.1 rfl (hb C.2.2.2.1 hd) (by simpa using hl) r) k
theorem own_lload (C : own_Cx p l e R s m args below meth c Z own nm bytes maxL ret) {i : Nat} {v : Int64} (d : own_D bytes pc (.lload i) 2 pn) (hl : Ls[i]? = some (.val (.long v))) (k : own_Go p l e R s m args below meth c n0 Q cells slots h pn Ls (.long v :: st)) : own_Go p l e R s m args below meth c n0 Q cells slots h pc Ls st := by
  obtain ⟨hd, rfl⟩ := d
  exact own_step (fun T locs ce sl X t r => XS.lload X.here C.1 rfl (hb C.2.2.2.1 hd) (by simpa using hl) r) k
theorem own_iconst (C : own_Cx p l e R s m args below meth c Z own nm bytes maxL ret) {i : Int} (v : Int32) (d : own_D bytes pc (.iconst i) 1 pn) (hv : Int32.ofInt i = v) (k : own_Go p l e R s m args below meth c n0 Q cells slots h pn Ls (.int v :: st)) : own_Go p l e R s m args below meth c n0 Q cells slots h pc Ls st := by
  obtain ⟨hd, rfl⟩ := d
  exact own_step (fun T locs ce sl X t r => XS.iconst X.here C.1 rfl (hb C.2.2.2.1 hd) (by rw [hv]; exact r)) k
theorem own_bipush (C : own_Cx p l e R s m args below meth c Z own nm bytes maxL ret) {i : Int} (v : Int32) (d : own_D bytes pc (.bipush i) 2 pn) (hv : (Int8.ofInt i).toInt32 = v) (k : own_Go p l e R s m args below meth c n0 Q cells slots h pn Ls (.int v :: st)) : own_Go p l e R s m args below meth c n0 Q cells slots h pc Ls st := by
  obtain ⟨hd, rfl⟩ := d
  exact own_step (fun T locs ce sl X t r => XS.bipush X.here C.1 rfl (hb C.2.2.2.1 hd) (by rw [hv]; exact r)) k
theorem own_sipush (C : own_Cx p l e R s m args below meth c Z own nm bytes maxL ret) {i : Int} (v : Int32) (d : own_D bytes pc (.sipush i) 3 pn) (hv : (Int16.ofInt i).toInt32 = v) (k : own_Go p l e R s m args below meth c n0 Q cells slots h pn Ls (.int v :: st)) : own_Go p l e R s m args below meth c n0 Q cells slots h pc Ls st := by
  obtain ⟨hd, rfl⟩ := d
  exact own_step (fun T locs ce sl X t r => XS.sipush X.here C.1 rfl (hb C.2.2.2.1 hd) (by rw [hv]; exact r)) k
theorem own_lconst (C : own_Cx p l e R s m args below meth c Z own nm bytes maxL ret) {i : Fin 2} (v : Int64) (d : own_D bytes pc (.lconst i) 1 pn) (hv : Int64.ofNat i = v) (k : own_Go p l e R s m args below meth c n0 Q cells slots h pn Ls (.long v :: st)) : own_Go p l e R s m args below meth c n0 Q cells slots h pc Ls st := by
  obtain ⟨hd, rfl⟩ := d
  exact own_step (fun T locs ce sl X t r => XS.lconst X.here C.1 rfl (hb C.2.2.2.1 hd) (by rw [hv]; exact r)) k
theorem own_aconst_null (C : own_Cx p l e R s m args below meth c Z own nm bytes maxL ret)  (d : own_D bytes pc (.aconst_null) 1 pn)  (k : own_Go p l e R s m args below meth c n0 Q cells slots h pn Ls (.null :: st)) : own_Go p l e R s m args below meth c n0 Q cells slots h pc Ls st := by
  obtain ⟨hd, rfl⟩ := d
  exact own_step (fun T locs ce sl X t r => XS.aconstNull X.here C.1 rfl (hb C.2.2.2.1 hd) r) k
theorem own_iadd (C : own_Cx p l e R s m args below meth c Z own nm bytes maxL ret) {x y : Int32} (d : own_D bytes pc (.iadd) 1 pn)  (k : own_Go p l e R s m args below meth c n0 Q cells slots h pn Ls (.int (x + y) :: st)) : own_Go p l e R s m args below meth c n0 Q cells slots h pc Ls (.int y :: .int x :: st) := by
  obtain ⟨hd, rfl⟩ := d
  exact own_step (fun T locs ce sl X t r => XS.iadd X.here C.1 rfl (hb C.2.2.2.1 hd) rfl r) k
theorem own_isub (C : own_Cx p l e R s m args below meth c Z own nm bytes maxL ret) {x y : Int32} (d : own_D bytes pc (.isub) 1 pn)  (k : own_Go p l e R s m args below meth c n0 Q cells slots h pn Ls (.int (x - y) :: st)) : own_Go p l e R s m args below meth c n0 Q cells slots h pc Ls (.int y :: .int x :: st) := by
  obtain ⟨hd, rfl⟩ := d
  exact own_step (fun T locs ce sl X t r => XS.isub X.here C.1 rfl (hb C.2.2.2.1 hd) rfl r) k
theorem own_imul (C : own_Cx p l e R s m args below meth c Z own nm bytes maxL ret) {x y : Int32} (d : own_D bytes pc (.imul) 1 pn)  (k : own_Go p l e R s m args below meth c n0 Q cells slots h pn Ls (.int (x * y) :: st)) : own_Go p l e R s m args below meth c n0 Q cells slots h pc Ls (.int y :: .int x :: st) := by
  obtain ⟨hd, rfl⟩ := d
  exact own_step (fun T locs ce sl X t r => XS.imul X.here C.1 rfl (hb C.2.2.2.1 hd) rfl r) k
theorem own_iand (C : own_Cx p l e R s m args below meth c Z own nm bytes maxL ret) {x y : Int32} (d : own_D bytes pc (.iand) 1 pn)  (k : own_Go p l e R s m args below meth c n0 Q cells slots h pn Ls (.int (x &&& y) :: st)) : own_Go p l e R s m args below meth c n0 Q cells slots h pc Ls (.int y :: .int x :: st) := by
  obtain ⟨hd, rfl⟩ := d
  exact own_step (fun T locs ce sl X t r => XS.iand X.here C.1 rfl (hb C.2.2.2.1 hd) rfl r) k
theorem own_ior (C : own_Cx p l e R s m args below meth c Z own nm bytes maxL ret) {x y : Int32} (d : own_D bytes pc (.ior) 1 pn)  (k : own_Go p l e R s m args below meth c n0 Q cells slots h pn Ls (.int (x ||| y) :: st)) : own_Go p l e R s m args below meth c n0 Q cells slots h pc Ls (.int y :: .int x :: st) := by
  obtain ⟨hd, rfl⟩ := d
  exact own_step (fun T locs ce sl X t r => XS.ior X.here C.1 rfl (hb C.2.2.2.1 hd) rfl r) k
theorem own_ixor (C : own_Cx p l e R s m args below meth c Z own nm bytes maxL ret) {x y : Int32} (d : own_D bytes pc (.ixor) 1 pn)  (k : own_Go p l e R s m args below meth c n0 Q cells slots h pn Ls (.int (x ^^^ y) :: st)) : own_Go p l e R s m args below meth c n0 Q cells slots h pc Ls (.int y :: .int x :: st) := by
  obtain ⟨hd, rfl⟩ := d
  exact own_step (fun T locs ce sl X t r => XS.ixor X.here C.1 rfl (hb C.2.2.2.1 hd) rfl r) k
theorem own_ladd (C : own_Cx p l e R s m args below meth c Z own nm bytes maxL ret) {x y : Int64} (d : own_D bytes pc (.ladd) 1 pn)  (k : own_Go p l e R s m args below meth c n0 Q cells slots h pn Ls (.long (x + y) :: st)) : own_Go p l e R s m args below meth c n0 Q cells slots h pc Ls (.long y :: .long x :: st) := by
  obtain ⟨hd, rfl⟩ := d
  exact own_step (fun T locs ce sl X t r => XS.ladd X.here C.1 rfl (hb C.2.2.2.1 hd) rfl r) k
theorem own_lsub (C : own_Cx p l e R s m args below meth c Z own nm bytes maxL ret) {x y : Int64} (d : own_D bytes pc (.lsub) 1 pn)  (k : own_Go p l e R s m args below meth c n0 Q cells slots h pn Ls (.long (x - y) :: st)) : own_Go p l e R s m args below meth c n0 Q cells slots h pc Ls (.long y :: .long x :: st) := by
  obtain ⟨hd, rfl⟩ := d
  exact own_step (fun T locs ce sl X t r => XS.lsub X.here C.1 rfl (hb C.2.2.2.1 hd) rfl r) k
theorem own_land (C : own_Cx p l e R s m args below meth c Z own nm bytes maxL ret) {x y : Int64} (d : own_D bytes pc (.land) 1 pn)  (k : own_Go p l e R s m args below meth c n0 Q cells slots h pn Ls (.long (x &&& y) :: st)) : own_Go p l e R s m args below meth c n0 Q cells slots h pc Ls (.long y :: .long x :: st) := by
  obtain ⟨hd, rfl⟩ := d
  exact own_step (fun T locs ce sl X t r => XS.land X.here C.1 rfl (hb C.2.2.2.1 hd) rfl r) k
theorem own_lor (C : own_Cx p l e R s m args below meth c Z own nm bytes maxL ret) {x y : Int64} (d : own_D bytes pc (.lor) 1 pn)  (k : own_Go p l e R s m args below meth c n0 Q cells slots h pn Ls (.long (x ||| y) :: st)) : own_Go p l e R s m args below meth c n0 Q cells slots h pc Ls (.long y :: .long x :: st) := by
  obtain ⟨hd, rfl⟩ := d
  exact own_step (fun T locs ce sl X t r => XS.lor X.here C.1 rfl (hb C.2.2.2.1 hd) rfl r) k
theorem own_lxor (C : own_Cx p l e R s m args below meth c Z own nm bytes maxL ret) {x y : Int64} (d : own_D bytes pc (.lxor) 1 pn)  (k : own_Go p l e R s m args below meth c n0 Q cells slots h pn Ls (.long (x ^^^ y) :: st)) : own_Go p l e R s m args below meth c n0 Q cells slots h pc Ls (.long y :: .long x :: st) := by
  obtain ⟨hd, rfl⟩ := d
  exact own_step (fun T locs ce sl X t r => XS.lxor X.here C.1 rfl (hb C.2.2.2.1 hd) rfl r) k
theorem own_ishl (C : own_Cx p l e R s m args below meth c Z own nm bytes maxL ret) {x y : Int32} (d : own_D bytes pc (.ishl) 1 pn)  (k : own_Go p l e R s m args below meth c n0 Q cells slots h pn Ls (.int (x <<< (y &&& 31)) :: st)) : own_Go p l e R s m args below meth c n0 Q cells slots h pc Ls (.int y :: .int x :: st) := by
  obtain ⟨hd, rfl⟩ := d
  exact own_step (fun T locs ce sl X t r => XS.ishl X.here C.1 rfl (hb C.2.2.2.1 hd) rfl r) k
theorem own_ishr (C : own_Cx p l e R s m args below meth c Z own nm bytes maxL ret) {x y : Int32} (d : own_D bytes pc (.ishr) 1 pn)  (k : own_Go p l e R s m args below meth c n0 Q cells slots h pn Ls (.int (x >>> (y &&& 31)) :: st)) : own_Go p l e R s m args below meth c n0 Q cells slots h pc Ls (.int y :: .int x :: st) := by
  obtain ⟨hd, rfl⟩ := d
  exact own_step (fun T locs ce sl X t r => XS.ishr X.here C.1 rfl (hb C.2.2.2.1 hd) rfl r) k
theorem own_iushr (C : own_Cx p l e R s m args below meth c Z own nm bytes maxL ret) {x y : Int32} (d : own_D bytes pc (.iushr) 1 pn)  (k : own_Go p l e R s m args below meth c n0 Q cells slots h pn Ls (.int ((x.toUInt32 >>> (y &&& 31).toUInt32).toInt32) :: st)) : own_Go p l e R s m args below meth c n0 Q cells slots h pc Ls (.int y :: .int x :: st) := by
  obtain ⟨hd, rfl⟩ := d
  exact own_step (fun T locs ce sl X t r => XS.iushr X.here C.1 rfl (hb C.2.2.2.1 hd) rfl r) k
theorem own_ineg (C : own_Cx p l e R s m args below meth c Z own nm bytes maxL ret) {x : Int32} (d : own_D bytes pc (.ineg) 1 pn)  (k : own_Go p l e R s m args below meth c n0 Q cells slots h pn Ls (.int (-x) :: st)) : own_Go p l e R s m args below meth c n0 Q cells slots h pc Ls (.int x :: st) := by
  obtain ⟨hd, rfl⟩ := d
  exact own_step (fun T locs ce sl X t r => XS.ineg X.here C.1 rfl (hb C.2.2.2.1 hd) rfl r) k
theorem own_irem (C : own_Cx p l e R s m args below meth c Z own nm bytes maxL ret) {x y : Int32} (d : own_D bytes pc (.irem) 1 pn) (hy : y ≠ 0) (k : own_Go p l e R s m args below meth c n0 Q cells slots h pn Ls (.int (x % y) :: st)) : own_Go p l e R s m args below meth c n0 Q cells slots h pc Ls (.int y :: .int x :: st) := by
  obtain ⟨hd, rfl⟩ := d
  exact own_step (fun T locs ce sl X t r => iremM X C.1 rfl (hb C.2.2.2.1 hd) rfl hy r) k
theorem own_lcmp (C : own_Cx p l e R s m args below meth c Z own nm bytes maxL ret) {x y : Int64} (d : own_D bytes pc (.lcmp) 1 pn)  (k : own_Go p l e R s m args below meth c n0 Q cells slots h pn Ls (.int (lcmpW x y) :: st)) : own_Go p l e R s m args below meth c n0 Q cells slots h pc Ls (.long y :: .long x :: st) := by
  obtain ⟨hd, rfl⟩ := d
  exact own_step (fun T locs ce sl X t r => XS.lcmp X.here C.1 rfl (hb C.2.2.2.1 hd) rfl r) k
theorem own_dup (C : own_Cx p l e R s m args below meth c Z own nm bytes maxL ret) {x : Value} (d : own_D bytes pc (.dup) 1 pn) (hc : x.category = 1) (k : own_Go p l e R s m args below meth c n0 Q cells slots h pn Ls (x :: x :: st)) : own_Go p l e R s m args below meth c n0 Q cells slots h pc Ls (x :: st) := by
  obtain ⟨hd, rfl⟩ := d
  exact own_step (fun T locs ce sl X t r => XS.dup X.here C.1 rfl (hb C.2.2.2.1 hd) rfl hc r) k
theorem own_dupX1 (C : own_Cx p l e R s m args below meth c Z own nm bytes maxL ret) {x y : Value} (d : own_D bytes pc (.dup_x1) 1 pn) (hc : x.category = 1) (hc' : y.category = 1) (k : own_Go p l e R s m args below meth c n0 Q cells slots h pn Ls (x :: y :: x :: st)) : own_Go p l e R s m args below meth c n0 Q cells slots h pc Ls (x :: y :: st) := by
  obtain ⟨hd, rfl⟩ := d
  exact own_step (fun T locs ce sl X t r => XS.dupX1 X.here C.1 rfl (hb C.2.2.2.1 hd) rfl hc hc' r) k
theorem own_dup2 (C : own_Cx p l e R s m args below meth c Z own nm bytes maxL ret) {x y : Value} (d : own_D bytes pc (.dup2) 1 pn) (hc : x.category = 1) (hc' : y.category = 1) (k : own_Go p l e R s m args below meth c n0 Q cells slots h pn Ls (x :: y :: x :: y :: st)) : own_Go p l e R s m args below meth c n0 Q cells slots h pc Ls (x :: y :: st) := by
  obtain ⟨hd, rfl⟩ := d
  exact own_step (fun T locs ce sl X t r => XT.dup2 X.here C.1 rfl (hb C.2.2.2.1 hd) rfl hc hc' r) k
theorem own_pop (C : own_Cx p l e R s m args below meth c Z own nm bytes maxL ret) {x : Value} (d : own_D bytes pc (.pop) 1 pn) (hc : x.category = 1) (k : own_Go p l e R s m args below meth c n0 Q cells slots h pn Ls st) : own_Go p l e R s m args below meth c n0 Q cells slots h pc Ls (x :: st) := by
  obtain ⟨hd, rfl⟩ := d
  exact own_step (fun T locs ce sl X t r => XS.pop X.here C.1 rfl (hb C.2.2.2.1 hd) rfl hc r) k
/-- a slot that one word may be laid over -/
def own_one : Slot → Bool
  | .unset => true
  | .second => false
  | .val w => w.category == 1
theorem own_one_spec {o : Slot} (q : own_one o = true) : o = .unset ∨ ∃ w, o = .val w ∧ w.category = 1 := by
  cases o with
  | unset => exact Or.inl rfl
  | second => cases q
  | val w => exact Or.inr ⟨w, rfl, by simpa [own_one] using q⟩
theorem own_store {k : Nat} {v : Value} {o : Slot} (hold : Ls[k]? = some o) (ho : own_one o = true) (hv : v.category = 1) : storeLocals Ls.toArray k v = some (Ls.set k (.val v)).toArray := by
  rw [XS.store1 (o := o) (by simpa using hold) (own_one_spec ho) hv]; simp
theorem own_istoreN (C : own_Cx p l e R s m args below meth c Z own nm bytes maxL ret) {i : Fin 4} {x : Int32} {o : Slot} (j : Nat) (d : own_D bytes pc (.istore_n i) 1 pn) (hj : i.val = j) (hl : Ls[j]? = some o) (ho : own_one o = true) (k : own_Go p l e R s m args below meth c n0 Q cells slots h pn (Ls.set j (.val (.int x))) st) : own_Go p l e R s m args below meth c n0 Q cells slots h pc Ls (.int x :: st) := by
  obtain ⟨hd, rfl⟩ := d
  exact own_step (fun T locs ce sl X t r => XS.istoreN X.here C.1 rfl (hb C.2.2.2.1 hd) rfl (by rw [hj]; exact own_store hl ho rfl) r) k
theorem own_istore (C : own_Cx p l e R s m args below meth c Z own nm bytes maxL ret) {i : Nat} {x : Int32} {o : Slot} (j : Nat) (d : own_D bytes pc (.istore i) 2 pn) (hj : i = j) (hl : Ls[j]? = some o) (ho : own_one o = true) (k : own_Go p l e R s m args below meth c n0 Q cells slots h pn (Ls.set j (.val (.int x))) st) : own_Go p l e R s m args below meth c n0 Q cells slots h pc Ls (.int x :: st) := by
  obtain ⟨hd, rfl⟩ := d
  exact own_step (fun T locs ce sl X t r => XS.istore X.here C.1 rfl (hb C.2.2.2.1 hd) rfl (by rw [hj]; exact own_store hl ho rfl) r) k
theorem own_astoreN (C : own_Cx p l e R s m args below meth c Z own nm bytes maxL ret) {i : Fin 4} {x : Value} {o : Slot} (j : Nat) (d : own_D bytes pc (.astore_n i) 1 pn) (hj : i.val = j) (hl : Ls[j]? = some o) (ho : own_one o = true) (hv : x.isRef = true) (k : own_Go p l e R s m args below meth c n0 Q cells slots h pn (Ls.set j (.val x)) st) : own_Go p l e R s m args below meth c n0 Q cells slots h pc Ls (x :: st) := by
  obtain ⟨hd, rfl⟩ := d
  exact own_step (fun T locs ce sl X t r => XS.astoreN X.here C.1 rfl (hb C.2.2.2.1 hd) rfl hv (by rw [hj]; exact own_store hl ho (XT.cat1 hv)) r) k
theorem own_astore (C : own_Cx p l e R s m args below meth c Z own nm bytes maxL ret) {i : Nat} {x : Value} {o : Slot} (j : Nat) (d : own_D bytes pc (.astore i) 2 pn) (hj : i = j) (hl : Ls[j]? = some o) (ho : own_one o = true) (hv : x.isRef = true) (k : own_Go p l e R s m args below meth c n0 Q cells slots h pn (Ls.set j (.val x)) st) : own_Go p l e R s m args below meth c n0 Q cells slots h pc Ls (x :: st) := by
  obtain ⟨hd, rfl⟩ := d
  exact own_step (fun T locs ce sl X t r => XS.astore X.here C.1 rfl (hb C.2.2.2.1 hd) rfl hv (by rw [hj]; exact own_store hl ho (XT.cat1 hv)) r) k
theorem own_lstoreN (C : own_Cx p l e R s m args below meth c Z own nm bytes maxL ret) {i : Fin 4} {x : Int64} {Ls' : List Slot} (d : own_D bytes pc (.lstore_n i) 1 pn) (hl : storeLocals Ls.toArray i.val (.long x) = some Ls'.toArray) (k : own_Go p l e R s m args below meth c n0 Q cells slots h pn Ls' st) : own_Go p l e R s m args below meth c n0 Q cells slots h pc Ls (.long x :: st) := by
  obtain ⟨hd, rfl⟩ := d
  exact own_step (fun T locs ce sl X t r => XS.lstoreN X.here C.1 rfl (hb C.2.2.2.1 hd) rfl hl r) k
theorem own_lstore (C : own_Cx p l e R s m args below meth c Z own nm bytes maxL ret) {i : Nat} {x : Int64} {Ls' : List Slot} (d : own_D bytes pc (.lstore i) 2 pn) (hl : storeLocals Ls.toArray i (.long x) = some Ls'.toArray) (k : own_Go p l e R s m args below meth c n0 Q cells slots h pn Ls' st) : own_Go p l e R s m args below meth c n0 Q cells slots h pc Ls (.long x :: st) := by
  obtain ⟨hd, rfl⟩ := d
  exact own_step (fun T locs ce sl X t r => XS.lstore X.here C.1 rfl (hb C.2.2.2.1 hd) rfl hl r) k
theorem own_iinc (C : own_Cx p l e R s m args below meth c Z own nm bytes maxL ret) {i : Nat} {cst : Int} {x : Int32} (v : Int32) (d : own_D bytes pc (.iinc i cst) 3 pn) (hv : Int32.ofInt cst = v) (hl : Ls[i]? = some (.val (.int x))) (k : own_Go p l e R s m args below meth c n0 Q cells slots h pn (Ls.set i (.val (.int (x + v)))) st) : own_Go p l e R s m args below meth c n0 Q cells slots h pc Ls st := by
  obtain ⟨hd, rfl⟩ := d
  exact own_step (fun T locs ce sl X t r => XS.iinc X.here C.1 rfl (hb C.2.2.2.1 hd) (by simpa using hl) (by rw [hv]; exact own_store hl rfl rfl) r) k
theorem own_goto (C : own_Cx p l e R s m args below meth c Z own nm bytes maxL ret) {o : Int} (d : own_D bytes pc (.goto o) 3 pn) (ht : own_T pc o pt) (k : own_Go p l e R s m args below meth c n0 Q cells slots h pt Ls st) : own_Go p l e R s m args below meth c n0 Q cells slots h pc Ls st := by
  obtain ⟨hd, rfl⟩ := d
  exact own_step (fun T locs ce sl X t r => XS.goto X.here C.1 rfl rfl (hb C.2.2.2.1 hd) ht.1 ht.2 r) k
theorem own_icmplt (C : own_Cx p l e R s m args below meth c Z own nm bytes maxL ret) {o : Int} {x y : Int32} (d : own_D bytes pc (.if_icmp .lt o) 3 pn) (ht : own_T pc o pt) (ky : x < y → own_Go p l e R s m args below meth c n0 Q cells slots h pt Ls st) (kn : ¬ x < y → own_Go p l e R s m args below meth c n0 Q cells slots h pn Ls st) : own_Go p l e R s m args below meth c n0 Q cells slots h pc Ls (.int y :: .int x :: st) := by
  obtain ⟨hd, rfl⟩ := d
  by_cases h' : x < y
  · exact own_step (fun T locs ce sl X t r => XS.icmpYes X.here C.1 rfl rfl (hb C.2.2.2.1 hd) rfl (tlt h').1 ht.1 ht.2 r) (ky h')
  · exact own_step (fun T locs ce sl X t r => XS.icmpNo X.here C.1 rfl (hb C.2.2.2.1 hd) rfl (flt h').1 r) (kn h')
theorem own_iflt (C : own_Cx p l e R s m args below meth c Z own nm bytes maxL ret) {o : Int} {x : Int32} (d : own_D bytes pc (.ifCond .lt o) 3 pn) (ht : own_T pc o pt) (ky : x < (0 : Int32) → own_Go p l e R s m args below meth c n0 Q cells slots h pt Ls st) (kn : ¬ x < (0 : Int32) → own_Go p l e R s m args below meth c n0 Q cells slots h pn Ls st) : own_Go p l e R s m args below meth c n0 Q cells slots h pc Ls (.int x :: st) := by
  obtain ⟨hd, rfl⟩ := d
  by_cases h' : x < (0 : Int32)
  · exact own_step (fun T locs ce sl X t r => XS.ifYes X.here C.1 rfl rfl (hb C.2.2.2.1 hd) rfl ((if0 _ _).trans (tlt h').1) ht.1 ht.2 r) (ky h')
  · exact own_step (fun T locs ce sl X t r => XS.ifNo X.here C.1 rfl (hb C.2.2.2.1 hd) rfl ((if0 _ _).trans (flt h').1) r) (kn h')
theorem own_icmpge (C : own_Cx p l e R s m args below meth c Z own nm bytes maxL ret) {o : Int} {x y : Int32} (d : own_D bytes pc (.if_icmp .ge o) 3 pn) (ht : own_T pc o pt) (ky : ¬ x < y → own_Go p l e R s m args below meth c n0 Q cells slots h pt Ls st) (kn : x < y → own_Go p l e R s m args below meth c n0 Q cells slots h pn Ls st) : own_Go p l e R s m args below meth c n0 Q cells slots h pc Ls (.int y :: .int x :: st) := by
  obtain ⟨hd, rfl⟩ := d
  by_cases h' : x < y
  · exact own_step (fun T locs ce sl X t r => XS.icmpNo X.here C.1 rfl (hb C.2.2.2.1 hd) rfl (tlt h').2.1 r) (kn h')
  · exact own_step (fun T locs ce sl X t r => XS.icmpYes X.here C.1 rfl rfl (hb C.2.2.2.1 hd) rfl (flt h').2.1 ht.1 ht.2 r) (ky h')
theorem own_ifge (C : own_Cx p l e R s m args below meth c Z own nm bytes maxL ret) {o : Int} {x : Int32} (d : own_D bytes pc (.ifCond .ge o) 3 pn) (ht : own_T pc o pt) (ky : ¬ x < (0 : Int32) → own_Go p l e R s m args below meth c n0 Q cells slots h pt Ls st) (kn : x < (0 : Int32) → own_Go p l e R s m args below meth c n0 Q cells slots h pn Ls st) : own_Go p l e R s m args below meth c n0 Q cells slots h pc Ls (.int x :: st) := by
  obtain ⟨hd, rfl⟩ := d
  by_cases h' : x < (0 : Int32)
  · exact own_step (fun T locs ce sl X t r => XS.ifNo X.here C.1 rfl (hb C.2.2.2.1 hd) rfl ((if0 _ _).trans (tlt h').2.1) r) (kn h')
  · exact own_step (fun T locs ce sl X t r => XS.ifYes X.here C.1 rfl rfl (hb C.2.2.2.1 hd) rfl ((if0 _ _).trans (flt h').2.1) ht.1 ht.2 r) (ky h')
theorem own_icmpgt (C : own_Cx p l e R s m args below meth c Z own nm bytes maxL ret) {o : Int} {x y : Int32} (d : own_D bytes pc (.if_icmp .gt o) 3 pn) (ht : own_T pc o pt) (ky : y < x → own_Go p l e R s m args below meth c n0 Q cells slots h pt Ls st) (kn : ¬ y < x → own_Go p l e R s m args below meth c n0 Q cells slots h pn Ls st) : own_Go p l e R s m args below meth c n0 Q cells slots h pc Ls (.int y :: .int x :: st) := by
  obtain ⟨hd, rfl⟩ := d
  by_cases h' : y < x
  · exact own_step (fun T locs ce sl X t r => XS.icmpYes X.here C.1 rfl rfl (hb C.2.2.2.1 hd) rfl (tlt h').2.2.1 ht.1 ht.2 r) (ky h')
  · exact own_step (fun T locs ce sl X t r => XS.icmpNo X.here C.1 rfl (hb C.2.2.2.1 hd) rfl (flt h').2.2.1 r) (kn h')
theorem own_ifgt (C : own_Cx p l e R s m args below meth c Z own nm bytes maxL ret) {o : Int} {x : Int32} (d : own_D bytes pc (.ifCond .gt o) 3 pn) (ht : own_T pc o pt) (ky : (0 : Int32) < x → own_Go p l e R s m args below meth c n0 Q cells slots h pt Ls st) (kn : ¬ (0 : Int32) < x → own_Go p l e R s m args below meth c n0 Q cells slots h pn Ls st) : own_Go p l e R s m args below meth c n0 Q cells slots h pc Ls (.int x :: st) := by
  obtain ⟨hd, rfl⟩ := d
  by_cases h' : (0 : Int32) < x
  · exact own_step (fun T locs ce sl X t r => XS.ifYes X.here C.1 rfl rfl (hb C.2.2.2.1 hd) rfl ((if0 _ _).trans (tlt h').2.2.1) ht.1 ht.2 r) (ky h')
  · exact own_step (fun T locs ce sl X t r => XS.ifNo X.here C.1 rfl (hb C.2.2.2.1 hd) rfl ((if0 _ _).trans (flt h').2.2.1) r) (kn h')
theorem own_icmple (C : own_Cx p l e R s m args below meth c Z own nm bytes maxL ret) {o : Int} {x y : Int32} (d : own_D bytes pc (.if_icmp .le o) 3 pn) (ht : own_T pc o pt) (ky : ¬ y < x → own_Go p l e R s m args below meth c n0 Q cells slots h pt Ls st) (kn : y < x → own_Go p l e R s m args below meth c n0 Q cells slots h pn Ls st) : own_Go p l e R s m args below meth c n0 Q cells slots h pc Ls (.int y :: .int x :: st) := by
  obtain ⟨hd, rfl⟩ := d
  by_cases h' : y < x
  · exact own_step (fun T locs ce sl X t r => XS.icmpNo X.here C.1 rfl (hb C.2.2.2.1 hd) rfl (tlt h').2.2.2 r) (kn h')
  · exact own_step (fun T locs ce sl X t r => XS.icmpYes X.here C.1 rfl rfl (hb C.2.2.2.1 hd) rfl (flt h').2.2.2 ht.1 ht.2 r) (ky h')
theorem own_ifle (C : own_Cx p l e R s m args below meth c Z own nm bytes maxL ret) {o : Int} {x : Int32} (d : own_D bytes pc (.ifCond .le o) 3 pn) (ht : own_T pc o pt) (ky : ¬ (0 : Int32) < x → own_Go p l e R s m args below meth c n0 Q cells slots h pt Ls st) (kn : (0 : Int32) < x → own_Go p l e R s m args below meth c n0 Q cells slots h pn Ls st) : own_Go p l e R s m args below meth c n0 Q cells slots h pc Ls (.int x :: st) := by
  obtain ⟨hd, rfl⟩ := d
  by_cases h' : (0 : Int32) < x
  · exact own_step (fun T locs ce sl X t r => XS.ifNo X.here C.1 rfl (hb C.2.2.2.1 hd) rfl ((if0 _ _).trans (tlt h').2.2.2) r) (kn h')
  · exact own_step (fun T locs ce sl X t r => XS.ifYes X.here C.1 rfl rfl (hb C.2.2.2.1 hd) rfl ((if0 _ _).trans (flt h').2.2.2) ht.1 ht.2 r) (ky h')
theorem own_icmpeq (C : own_Cx p l e R s m args below meth c Z own nm bytes maxL ret) {o : Int} {x y : Int32} (d : own_D bytes pc (.if_icmp .eq o) 3 pn) (ht : own_T pc o pt) (ky : x = y → own_Go p l e R s m args below meth c n0 Q cells slots h pt Ls st) (kn : ¬ x = y → own_Go p l e R s m args below meth c n0 Q cells slots h pn Ls st) : own_Go p l e R s m args below meth c n0 Q cells slots h pc Ls (.int y :: .int x :: st) := by
  obtain ⟨hd, rfl⟩ := d
  by_cases h' : x = y
  · exact own_step (fun T locs ce sl X t r => XS.icmpYes X.here C.1 rfl rfl (hb C.2.2.2.1 hd) rfl (teq h').1 ht.1 ht.2 r) (ky h')
  · exact own_step (fun T locs ce sl X t r => XS.icmpNo X.here C.1 rfl (hb C.2.2.2.1 hd) rfl (feq h').1 r) (kn h')
theorem own_ifeq (C : own_Cx p l e R s m args below meth c Z own nm bytes maxL ret) {o : Int} {x : Int32} (d : own_D bytes pc (.ifCond .eq o) 3 pn) (ht : own_T pc o pt) (ky : x = (0 : Int32) → own_Go p l e R s m args below meth c n0 Q cells slots h pt Ls st) (kn : ¬ x = (0 : Int32) → own_Go p l e R s m args below meth c n0 Q cells slots h pn Ls st) : own_Go p l e R s m args below meth c n0 Q cells slots h pc Ls (.int x :: st) := by
  obtain ⟨hd, rfl⟩ := d
  by_cases h' : x = (0 : Int32)
  · exact own_step (fun T locs ce sl X t r => XS.ifYes X.here C.1 rfl rfl (hb C.2.2.2.1 hd) rfl ((if0 _ _).trans (teq h').1) ht.1 ht.2 r) (ky h')
  · exact own_step (fun T locs ce sl X t r => XS.ifNo X.here C.1 rfl (hb C.2.2.2.1 hd) rfl ((if0 _ _).trans (feq h').1) r) (kn h')
theorem own_icmpne (C : own_Cx p l e R s m args below meth c Z own nm bytes maxL ret) {o : Int} {x y : Int32} (d : own_D bytes pc (.if_icmp .ne o) 3 pn) (ht : own_T pc o pt) (ky : ¬ x = y → own_Go p l e R s m args below meth c n0 Q cells slots h pt Ls st) (kn : x = y → own_Go p l e R s m args below meth c n0 Q cells slots h pn Ls st) : own_Go p l e R s m args below meth c n0 Q cells slots h pc Ls (.int y :: .int x :: st) := by
  obtain ⟨hd, rfl⟩ := d
  by_cases h' : x = y
  · exact own_step (fun T locs ce sl X t r => XS.icmpNo X.here C.1 rfl (hb C.2.2.2.1 hd) rfl (teq h').2 r) (kn h')
  · exact own_step (fun T locs ce sl X t r => XS.icmpYes X.here C.1 rfl rfl (hb C.2.2.2.1 hd) rfl (feq h').2 ht.1 ht.2 r) (ky h')
theorem own_ifne (C : own_Cx p l e R s m args below meth c Z own nm bytes maxL ret) {o : Int} {x : Int32} (d : own_D bytes pc (.ifCond .ne o) 3 pn) (ht : own_T pc o pt) (ky : ¬ x = (0 : Int32) → own_Go p l e R s m args below meth c n0 Q cells slots h pt Ls st) (kn : x = (0 : Int32) → own_Go p l e R s m args below meth c n0 Q cells slots h pn Ls st) : own_Go p l e R s m args below meth c n0 Q cells slots h pc Ls (.int x :: st) := by
  obtain ⟨hd, rfl⟩ := d
  by_cases h' : x = (0 : Int32)
  · exact own_step (fun T locs ce sl X t r => XS.ifNo X.here C.1 rfl (hb C.2.2.2.1 hd) rfl ((if0 _ _).trans (teq h').2) r) (kn h')
  · exact own_step (fun T locs ce sl X t r => XS.ifYes X.here C.1 rfl rfl (hb C.2.2.2.1 hd) rfl ((if0 _ _).trans (feq h').2) ht.1 ht.2 r) (ky h')
theorem own_acmpeq (C : own_Cx p l e R s m args below meth c Z own nm bytes maxL ret) {o : Int} {x y : Value} (d : own_D bytes pc (.if_acmp .eq o) 3 pn) (ht : own_T pc o pt) (hx' : x.isRef = true) (hy' : y.isRef = true) (ky : x = y → own_Go p l e R s m args below meth c n0 Q cells slots h pt Ls st) (kn : ¬ x = y → own_Go p l e R s m args below meth c n0 Q cells slots h pn Ls st) : own_Go p l e R s m args below meth c n0 Q cells slots h pc Ls (y :: x :: st) := by
  obtain ⟨hd, rfl⟩ := d
  by_cases h' : x = y
  · exact own_step (fun T locs ce sl X t r => XT.acmpYes X.here C.1 rfl rfl (hb C.2.2.2.1 hd) rfl hx' hy' (XT.aa_eq_t h') ht.1 ht.2 r) (ky h')
  · exact own_step (fun T locs ce sl X t r => XT.acmpNo X.here C.1 rfl (hb C.2.2.2.1 hd) rfl hx' hy' (XT.aa_eq_f h') r) (kn h')
theorem own_acmpne (C : own_Cx p l e R s m args below meth c Z own nm bytes maxL ret) {o : Int} {x y : Value} (d : own_D bytes pc (.if_acmp .ne o) 3 pn) (ht : own_T pc o pt) (hx' : x.isRef = true) (hy' : y.isRef = true) (ky : ¬ x = y → own_Go p l e R s m args below meth c n0 Q cells slots h pt Ls st) (kn : x = y → own_Go p l e R s m args below meth c n0 Q cells slots h pn Ls st) : own_Go p l e R s m args below meth c n0 Q cells slots h pc Ls (y :: x :: st) := by
  obtain ⟨hd, rfl⟩ := d
  by_cases h' : x = y
  · exact own_step (fun T locs ce sl X t r => XT.acmpNo X.here C.1 rfl (hb C.2.2.2.1 hd) rfl hx' hy' (XT.aa_ne_f h') r) (kn h')
  · exact own_step (fun T locs ce sl X t r => XT.acmpYes X.here C.1 rfl rfl (hb C.2.2.2.1 hd) rfl hx' hy' (XT.aa_ne_t h') ht.1 ht.2 r) (ky h')
theorem own_ifnull (C : own_Cx p l e R s m args below meth c Z own nm bytes maxL ret) {o : Int} {v : Value} (d : own_D bytes pc (.ifnull o) 3 pn) (ht : own_T pc o pt) (hv : v.isRef = true) (ky : v = .null → own_Go p l e R s m args below meth c n0 Q cells slots h pt Ls st) (kn : ¬ v = .null → own_Go p l e R s m args below meth c n0 Q cells slots h pn Ls st) : own_Go p l e R s m args below meth c n0 Q cells slots h pc Ls (v :: st) := by
  obtain ⟨hd, rfl⟩ := d
  by_cases h' : v = .null
  · exact own_step (fun T locs ce sl X t r => XT.nullYes X.here C.1 rfl rfl (hb C.2.2.2.1 hd) rfl h' ht.1 ht.2 r) (ky h')
  · exact own_step (fun T locs ce sl X t r => XT.nullNo X.here C.1 rfl (hb C.2.2.2.1 hd) rfl hv h' r) (kn h')
theorem own_ifnonnull (C : own_Cx p l e R s m args below meth c Z own nm bytes maxL ret) {o : Int} {v : Value} (d : own_D bytes pc (.ifnonnull o) 3 pn) (ht : own_T pc o pt) (hv : v.isRef = true) (ky : ¬ v = .null → own_Go p l e R s m args below meth c n0 Q cells slots h pt Ls st) (kn : v = .null → own_Go p l e R s m args below meth c n0 Q cells slots h pn Ls st) : own_Go p l e R s m args below meth c n0 Q cells slots h pc Ls (v :: st) := by
  obtain ⟨hd, rfl⟩ := d
  by_cases h' : v = .null
  · exact own_step (fun T locs ce sl X t r => XT.nonnullNo X.here C.1 rfl (hb C.2.2.2.1 hd) rfl h' r) (kn h')
  · exact own_step (fun T locs ce sl X t r => XT.nonnullYes X.here C.1 rfl rfl (hb C.2.2.2.1 hd) rfl hv h' ht.1 ht.2 r) (ky h')
theorem own_ldc (C : own_Cx p l e R s m args below meth c Z own nm bytes maxL ret) {i : Nat} {v : Int32} (d : own_D bytes pc (.ldc i) 2 pn) (w1 : (Jvm.Cond.constant own i v).before a0 Z = true) (k : own_Go p l e R s m args below meth c n0 Q cells slots h pn Ls (.int v :: st)) : own_Go p l e R s m args below meth c n0 Q cells slots h pc Ls st := by
  obtain ⟨hd, rfl⟩ := d
  exact own_step (fun T locs ce sl X t r => ldcI X C.1 C.2.2.1 (mv C.2.1 w1) rfl (hb C.2.2.2.1 hd) r) k
theorem own_ldc2 (C : own_Cx p l e R s m args below meth c Z own nm bytes maxL ret) {i : Nat} {v : Int64} (d : own_D bytes pc (.ldc2_w i) 3 pn) (w1 : (Jvm.Cond.constantLong own i v).before a0 Z = true) (k : own_Go p l e R s m args below meth c n0 Q cells slots h pn Ls (.long v :: st)) : own_Go p l e R s m args below meth c n0 Q cells slots h pc Ls st := by
  obtain ⟨hd, rfl⟩ := d
  exact own_step (fun T locs ce sl X t r => ldc2J X C.1 C.2.2.1 (mv C.2.1 w1) rfl (hb C.2.2.2.1 hd) r) k
theorem own_getS (C : own_Cx p l e R s m args below meth c Z own nm bytes maxL ret) {O n dd : String} {i : Nat} {v : Value} (d : own_D bytes pc (.getstatic i) 3 pn) (w1 : (Jvm.Cond.fieldLink own i O n dd).before a0 Z = true) (F : Sta Z h O n dd v) (k : own_Go p l e R s m args below meth c n0 Q cells slots h pn Ls (v :: st)) : own_Go p l e R s m args below meth c n0 Q cells slots h pc Ls st := by
  obtain ⟨hd, rfl⟩ := d
  refine own_warm (fun T locs ce sl X eT => ?_) k
  obtain ⟨T', X', e', st'⟩ := getS2 X C.1 C.2.1 C.2.2.1 (host := "") (Or.inl w1) Via.refl eT F (g := mkF m pc Ls.toArray st) rfl (hb C.2.2.2.1 hd)
  exact ⟨T', X', e', st'⟩
theorem own_getF (C : own_Cx p l e R s m args below meth c Z own nm bytes maxL ret) {R0 O n dd : String} {i : Nat} {a : Addr} {v : Value} (d : own_D bytes pc (.getfield i) 3 pn) (w1 : (Jvm.Cond.fieldLink own i R0 n dd).before a0 Z = true) (via : Via Z R0 O n dd) (F : Fld Z h a O n dd v) (k : own_Go p l e R s m args below meth c n0 Q cells slots h pn Ls (v :: st)) : own_Go p l e R s m args below meth c n0 Q cells slots h pc Ls (.ref a :: st) := by
  obtain ⟨hd, rfl⟩ := d
  refine own_warm (fun T locs ce sl X eT => ?_) k
  obtain ⟨T', X', e', st'⟩ := getF X C.1 C.2.1 C.2.2.1 (host := "") (Or.inl w1) via eT F (g := mkF m pc Ls.toArray (.ref a :: st)) rfl rfl (hb C.2.2.2.1 hd)
  exact ⟨T', X', e', st'⟩
theorem own_cast (C : own_Cx p l e R s m args below meth c Z own nm bytes maxL ret) {K : String} {i : Nat} {a : Addr} (d : own_D bytes pc (.checkcast i) 3 pn) (w1 : (Jvm.Cond.classLink own i K).before a0 Z = true) (F : Ins Z h a K true) (k : own_Go p l e R s m args below meth c n0 Q cells slots h pn Ls (.ref a :: st)) : own_Go p l e R s m args below meth c n0 Q cells slots h pc Ls (.ref a :: st) := by
  obtain ⟨hd, rfl⟩ := d
  refine own_warm (fun T locs ce sl X eT => ?_) k
  obtain ⟨T', X', e', st'⟩ := castY X C.1 C.2.1 C.2.2.1 w1 eT F (g := mkF m pc Ls.toArray (.ref a :: st)) rfl rfl (hb C.2.2.2.1 hd)
  exact ⟨T', X', e', st'⟩
theorem own_instY (C : own_Cx p l e R s m args below meth c Z own nm bytes maxL ret) {K : String} {i : Nat} {a : Addr} (d : own_D bytes pc (.instanceof i) 3 pn) (w1 : (Jvm.Cond.classLink own i K).before a0 Z = true) (F : Ins Z h a K true) (k : own_Go p l e R s m args below meth c n0 Q cells slots h pn Ls (.int 1 :: st)) : own_Go p l e R s m args below meth c n0 Q cells slots h pc Ls (.ref a :: st) := by
  obtain ⟨hd, rfl⟩ := d
  refine own_warm (fun T locs ce sl X eT => ?_) k
  obtain ⟨T', X', e', st'⟩ := instY X C.1 C.2.1 C.2.2.1 w1 eT F (g := mkF m pc Ls.toArray (.ref a :: st)) rfl rfl (hb C.2.2.2.1 hd)
  exact ⟨T', X', e', st'⟩
theorem own_write {pc' : Nat} {Ls' : List Slot} {st' : List Value} {a : Addr} {j : Nat} {v : Value} (ha : n0 ≤ a) (H : ∀ (T : State) (locs : List Loc) (ce sl : Nat), Stand p l e R s m args below meth c T locs ce sl → T.heap = h → ∃ T' h', Stand p l e R s m args below meth c T' (locs ++ [⟨a, j⟩]) ce sl ∧ T'.heap = h' ∧ Wr h h' a j v ∧ ∀ target, Steps p.tables e below (T'.setTop (mkF m pc' Ls'.toArray st')) target → Steps p.tables e below (T.setTop (mkF m pc Ls.toArray st)) target)
    (k : ∀ h', Wr h h' a j v → own_Go p l e R s m args below meth c n0 Q cells slots h' pc' Ls' st') : own_Go p l e R s m args below meth c n0 Q cells slots h pc Ls st := by
  intro T locs ce sl hc hs hf X eT
  obtain ⟨T', h', X', eT', W, H'⟩ := H T locs ce sl X eT
  obtain ⟨s₂, o, h1, h2⟩ := k h' W T' _ ce sl hc hs (Fr.snoc X' hf ha) X' eT'
  exact ⟨s₂, o, H' _ h1, h2⟩
theorem own_putF (C : own_Cx p l e R s m args below meth c Z own nm bytes maxL ret) {R0 O n dd K : String} {i kk : Nat} {ty : FieldType} {a : Addr} {v old : Value} (d : own_D bytes pc (.putfield i) 3 pn) (w1 : (Jvm.Cond.fieldLink own i R0 n dd).before a0 Z = true) (via : Via Z R0 O n dd) (F : Fld Z h a O n dd old) (E : Exa Z h a K)
    (L : (Jvm.Cond.lays K O n dd).before a0 Z = true ∨ ((Jvm.Cond.laysFinal K O n dd).before a0 Z = true ∧ own = O ∧ nm = "<init>")) (wi : (Jvm.Cond.instantiable K kk).before a0 Z = true) (hty : parseFieldDescriptor dd = some ty) (hn : narrow ty v = v) (hf : fits ty v = true) (ha : n0 ≤ a)
    (k : ∀ h', Wr h h' a (slotOf Z O n dd) v → own_Go p l e R s m args below meth c n0 Q cells slots h' pn Ls st) : own_Go p l e R s m args below meth c n0 Q cells slots h pc Ls (v :: .ref a :: st) := by
  obtain ⟨hd, rfl⟩ := d
  refine own_write ha (fun T locs ce sl X eT => ?_) k
  obtain ⟨T', h', X', e', W, st'⟩ := putF X C.1 C.2.1 C.2.2.1 (host := "") (Or.inl w1) via eT F E (L.imp id fun q => ⟨q.1, q.2.1, C.2.2.2.2.2.2.2.trans q.2.2⟩) wi hty hn hf (g := mkF m pc Ls.toArray (v :: .ref a :: st)) rfl rfl (hb C.2.2.2.1 hd)
  exact ⟨T', h', X', e', W, st'⟩
theorem own_stR (C : own_Cx p l e R s m args below meth c Z own nm bytes maxL ret) {ty : FieldType} {a : Addr} {v : Value} {cl : Cell} {j : Int32} (d : own_D bytes pc .aastore 1 pn) (A : Arr Z h a cl ty) (hj : ¬ (j < 0 ∨ cl.slots.size ≤ j.toNatClampNeg)) (hty : ty.isReference = true) (F : Sto Z h a v) (ha : n0 ≤ a)
    (k : ∀ h', Wr h h' a j.toNatClampNeg v → own_Go p l e R s m args below meth c n0 Q cells slots h' pn Ls st) : own_Go p l e R s m args below meth c n0 Q cells slots h pc Ls (v :: .int j :: .ref a :: st) := by
  obtain ⟨hd, rfl⟩ := d
  refine own_write ha (fun T locs ce sl X eT => ?_) k
  obtain ⟨T', h', X', e', W, st'⟩ := stR X C.1 C.2.1 eT A hj hty F (g := mkF m pc Ls.toArray (v :: .int j :: .ref a :: st)) rfl rfl (hb C.2.2.2.1 hd)
  exact ⟨T', h', X', e', W, st'⟩
theorem own_newO (C : own_Cx p l e R s m args below meth c Z own nm bytes maxL ret) {K : String} {i n : Nat} (d : own_D bytes pc (.new i) 3 pn) (w1 : (Jvm.Cond.classLink own i K).before a0 Z = true) (w2 : (Jvm.Cond.instantiable K n).before a0 Z = true) (w3 : (Jvm.Cond.initialized K).before a0 Z = true) (hc : cells + 1 ≤ R.cells) (hs : slots + n ≤ R.slots)
    (k : ∀ (h' : Heap) (a : Addr), a = h.size → Ext h h' → Exa Z h' a K → (∀ {O fn dd : String} {ty : FieldType}, Laid Z a0 K O fn dd → parseFieldDescriptor dd = some ty → Fld Z h' a O fn dd (defaultValue ty)) → own_Go p l e R s m args below meth c n0 Q (cells + 1) (slots + n) h' pn Ls (.ref a :: st)) : own_Go p l e R s m args below meth c n0 Q cells slots h pc Ls st := by
  obtain ⟨hd, rfl⟩ := d
  intro T locs ce sl h1 h2 hf X eT
  obtain ⟨T', h', X', e', E', A', D', -, st'⟩ := newO X C.1 C.2.1 C.2.2.1 w1 w2 w3 eT (g := mkF m pc Ls.toArray st) rfl (hb C.2.2.2.1 hd) (Nat.le_trans (Nat.add_le_add_right h1 1) hc) (Nat.le_trans (Nat.add_le_add_right h2 n) hs)
  obtain ⟨s₂, o, g1, g2⟩ := k h' h.size rfl E' A' D' T' locs _ _ (Nat.add_le_add_right h1 1) (Nat.add_le_add_right h2 n) hf X' e'
  exact ⟨s₂, o, st' _ g1, g2⟩
theorem own_newR (C : own_Cx p l e R s m args below meth c Z own nm bytes maxL ret) {K : String} {i : Nat} {n : Int32} (d : own_D bytes pc (.anewarray i) 3 pn) (w1 : (Jvm.Cond.classLink own i K).before a0 Z = true) (w2 : (Jvm.Cond.arrayOver (.object K)).before a0 Z = true) (hn : ¬ n < 0) (cap : Nat) (hcap : n.toNatClampNeg ≤ cap) (hb8 : cap * 8 ≤ 536870912) (hc : cells + 1 ≤ R.cells) (hs : slots + cap ≤ R.slots)
    (k : ∀ (h' : Heap) (a : Addr) (cA : ClassId), a = h.size → Ext h h' → Arr Z h' a (newA cA (.object K) n) (.object K) → Ovr Z cA K → own_Go p l e R s m args below meth c n0 Q (cells + 1) (slots + cap) h' pn Ls (.ref a :: st)) : own_Go p l e R s m args below meth c n0 Q cells slots h pc Ls (.int n :: st) := by
  obtain ⟨hd, rfl⟩ := d
  intro T locs ce sl h1 h2 hf X eT
  obtain ⟨T', h', cA, X', e', E', A', O', st'⟩ := newR X C.1 C.2.1 C.2.2.1 w1 w2 eT (g := mkF m pc Ls.toArray (.int n :: st)) rfl (hb C.2.2.2.1 hd) rfl hn hcap hb8 (Nat.le_trans (Nat.add_le_add_right h1 1) hc) (Nat.le_trans (Nat.add_le_add_right h2 cap) hs)
  obtain ⟨s₂, o, g1, g2⟩ := k h' h.size cA rfl E' A' O' T' locs _ _ (Nat.add_le_add_right h1 1) (Nat.add_le_add_right h2 cap) hf X' e'
  exact ⟨s₂, o, st' _ g1, g2⟩
theorem own_aaload (C : own_Cx p l e R s m args below meth c Z own nm bytes maxL ret) {ty : FieldType} {a : Addr} {v : Value} {cl : Cell} {j : Int32} (d : own_D bytes pc .aaload 1 pn) (A : Arr Z h a cl ty) (hty : ty.isReference = true) (hj : ¬ (j < 0 ∨ cl.slots.size ≤ j.toNatClampNeg)) (hat : cl.slots[j.toNatClampNeg]? = some v)
    (k : own_Go p l e R s m args below meth c n0 Q cells slots h pn Ls (v :: st)) : own_Go p l e R s m args below meth c n0 Q cells slots h pc Ls (.int j :: .ref a :: st) := by
  obtain ⟨hd, rfl⟩ := d
  refine own_warm (fun T locs ce sl X eT => ⟨T, X, eT, ?_⟩) k
  exact X.aaload C.1 (by rw [eT]; exact A.1) (State.isArrayOf_alike C.2.1.alike A.2.1) hty A.2.2 hj hat (g := mkF m pc Ls.toArray (.int j :: .ref a :: st)) rfl rfl (hb C.2.2.2.1 hd)
theorem own_arraylength (C : own_Cx p l e R s m args below meth c Z own nm bytes maxL ret) {ty : FieldType} {a : Addr} {cl : Cell} (d : own_D bytes pc .arraylength 1 pn) (A : Arr Z h a cl ty)
    (k : own_Go p l e R s m args below meth c n0 Q cells slots h pn Ls (.int cl.slots.size.toInt32 :: st)) : own_Go p l e R s m args below meth c n0 Q cells slots h pc Ls (.ref a :: st) := by
  obtain ⟨hd, rfl⟩ := d
  refine own_warm (fun T locs ce sl X eT => ⟨T, X, eT, ?_⟩) k
  exact X.arraylength C.1 (by rw [eT]; exact A.1) (State.isArrayOf_alike C.2.1.alike A.2.1) (g := mkF m pc Ls.toArray (.ref a :: st)) rfl rfl (hb C.2.2.2.1 hd)
theorem own_ret {t : FieldType} (C : own_Cx p l e R s m args below meth c Z own nm bytes maxL (some t)) {w : Value} {i : Instr} (d : own_D bytes pc i 1 pn) (hn : narrow t w = w)
    (hi : (i = .ireturn ∧ (t = .int ∨ t = .boolean ∨ t = .byte ∨ t = .char ∨ t = .short) ∧ ∃ z, w = .int z) ∨ (i = .lreturn ∧ t = .long ∧ ∃ z, w = .long z) ∨ (i = .dreturn ∧ t = .double ∧ ∃ z, w = .double z) ∨ (i = .freturn ∧ t = .float ∧ ∃ z, w = .float z) ∨ (i = .areturn ∧ t.isReference = true ∧ w.isRef = true))
    (hc : cells ≤ R.cells) (hs : slots ≤ R.slots) (q : Qn (some w) h) : own_Go p l e R s m args below meth c n0 (own_N s n0 R Qn) cells slots h pc Ls (w :: st) := by
  obtain ⟨hd, rfl⟩ := d
  intro T locs ce sl h1 h2 hf X eT
  obtain ⟨fs, hr, hrun, hended, hW, hsame⟩ := X.leave (v := some w) (fun h => by rw [C.2.2.2.2.2.1] at h; cases h) C.2.2.2.2.2.2.1
  exact ⟨_, _, retOut X C.1 C.2.2.2.2.2.1 hn hi (hb C.2.2.2.1 hd) hr, hrun, hended, _, locs, rfl, ⟨by show Qn (some w) T.heap; rw [eT]; exact q, hf⟩, ⟨_, rfl⟩, hW, hsame.mono (Nat.le_trans h1 hc) (Nat.le_trans h2 hs)⟩
theorem own_retA {t : FieldType} (C : own_Cx p l e R s m args below meth c Z own nm bytes maxL (some t)) {w : Value} (d : own_D bytes pc .areturn 1 pn) (ht : t.isReference = true) (hw : w.isRef = true) (hc : cells ≤ R.cells) (hs : slots ≤ R.slots) (q : Qn (some w) h) : own_Go p l e R s m args below meth c n0 (own_N s n0 R Qn) cells slots h pc Ls (w :: st) := by
  refine own_ret C d ?_ (Or.inr (Or.inr (Or.inr (Or.inr ⟨rfl, ht, hw⟩)))) hc hs q
  cases t <;> first | (cases ht; done) | rfl
theorem own_retI (C : own_Cx p l e R s m args below meth c Z own nm bytes maxL (some .int)) {z : Int32} (d : own_D bytes pc .ireturn 1 pn) (hc : cells ≤ R.cells) (hs : slots ≤ R.slots) (q : Qn (some (.int z)) h) : own_Go p l e R s m args below meth c n0 (own_N s n0 R Qn) cells slots h pc Ls (.int z :: st) :=
  own_ret C d rfl (Or.inl ⟨rfl, Or.inl rfl, z, rfl⟩) hc hs q
theorem own_retZ (C : own_Cx p l e R s m args below meth c Z own nm bytes maxL (some .boolean)) {z : Int32} (d : own_D bytes pc .ireturn 1 pn) (hz : z = 0 ∨ z = 1) (hc : cells ≤ R.cells) (hs : slots ≤ R.slots) (q : Qn (some (.int z)) h) : own_Go p l e R s m args below meth c n0 (own_N s n0 R Qn) cells slots h pc Ls (.int z :: st) :=
  own_ret C d (by rcases hz with rfl | rfl <;> rfl) (Or.inl ⟨rfl, Or.inr (Or.inl rfl), z, rfl⟩) hc hs q
theorem own_retJ (C : own_Cx p l e R s m args below meth c Z own nm bytes maxL (some .long)) {z : Int64} (d : own_D bytes pc .lreturn 1 pn) (hc : cells ≤ R.cells) (hs : slots ≤ R.slots) (q : Qn (some (.long z)) h) : own_Go p l e R s m args below meth c n0 (own_N s n0 R Qn) cells slots h pc Ls (.long z :: st) :=
  own_ret C d rfl (Or.inr (Or.inl ⟨rfl, rfl, z, rfl⟩)) hc hs q
theorem own_retV (C : own_Cx p l e R s m args below meth c Z own nm bytes maxL none) (d : own_D bytes pc .return_ 1 pn) (hc : cells ≤ R.cells) (hs : slots ≤ R.slots) (q : Qn none h) : own_Go p l e R s m args below meth c n0 (own_N s n0 R Qn) cells slots h pc Ls [] := by
  obtain ⟨hd, rfl⟩ := d
  intro T locs ce sl h1 h2 hf X eT
  obtain ⟨fs, hr, hrun, hended, hW, hsame⟩ := X.leave (v := none) (fun _ => rfl) C.2.2.2.2.2.2.1
  exact ⟨_, _, X.returnOut C.1 C.2.2.2.2.2.1 (hb C.2.2.2.1 hd) hr, hrun, hended, _, locs, rfl, ⟨by show Qn none T.heap; rw [eT]; exact q, hf⟩, ⟨_, rfl⟩, hW, hsame.mono (Nat.le_trans h1 hc) (Nat.le_trans h2 hs)⟩
theorem own_hlen {dsc : String} {ps : List FieldType} {r : Option FieldType} {L : List Value} (hd : parseMethodDescriptor dsc = some ⟨ps, r⟩) (hl : L.length = ps.length) : ∀ sig, parseMethodDescriptor dsc = some sig → L.length = sig.parameters.length := lenOf hd hl
theorem own_callS (C : own_Cx p l e R s m args below meth c Z own nm bytes maxL ret) {i : Nat} {y : MethodName} {bytes' : ByteArray} {maxL' : Nat} {ret' : Option FieldType} {rm : Room} {as' : List Value} {Qc : Option Value → Heap → Prop} (K : own_Con l Z y bytes' maxL' ret' rm n0 as' h Qc) (d : own_D bytes pc (.invokestatic i) 3 pn) (w1 : (Jvm.Cond.methodLink own i y).before a0 Z = true) (w2 : (Jvm.Cond.static y).before a0 Z = true) (w3 : (Jvm.Cond.initialized y.cls).before a0 Z = true) (w4 : (Jvm.Cond.code y bytes' maxL' ret').before a0 Z = true)
    (hy : y.cls ≠ "java/lang/invoke/MethodHandle" ∧ y.cls ≠ "java/lang/invoke/VarHandle") {ps : List FieldType} {r : Option FieldType} (hp : parseMethodDescriptor y.desc = some ⟨ps, r⟩) (hn : as'.length = ps.length) (hst : st = as'.reverse ++ rest) (hLs : Ls.length = maxL) (hfr : rm.frames + 1 ≤ R.frames) (hlo : (rest.map fun v => v.category).sum + (maxL' + 11) + rm.locals ≤ R.locals) (hc : cells + rm.cells ≤ R.cells) (hs : slots + rm.slots ≤ R.slots)
    (k : ∀ v h', Qc v h' → own_Go p l e R s m args below meth c n0 Q (cells + rm.cells) (slots + rm.slots) h' pn Ls (v.toList ++ rest)) : own_Go p l e R s m args below meth c n0 Q cells slots h pc Ls st := by
  obtain ⟨hd, rfl⟩ := d
  intro T locs ce sl h1 h2 hf X eT
  obtain ⟨v, _, ⟨T', L', k', n'⟩, -, X', ⟨Lc, hq, l', y', z'⟩, st'⟩ := Jvm.LawKit.callS X C.1 (y := y) C.2.2.1 (mvT C.2.1 w1) (mvT C.2.1 w2) (mvT C.2.1 w3) (mvT C.2.1 w4) hy (backOf (W := (rest.map fun v => v.category).sum) (Q := fun v h L => Qc v h ∧ Fr n0 L) (K []) C.2.1 w4 w3 hfr hlo) (g := mkF m pc Ls.toArray st) rfl (by rw [C.2.2.2.2.1]; simpa using hLs) (argsL := as') (rest := rest) (lenOf hp hn) hst (by simp) (hb C.2.2.2.1 hd) (fun _ _ => ⟨rfl, eT, Nat.le_trans (Nat.add_le_add_right h1 _) hc, Nat.le_trans (Nat.add_le_add_right h2 _) hs⟩)
  dsimp only [Pt.U, Pt.locs, Pt.cells, Pt.slots] at X' l' y' z' st' hq
  subst l' y' z'
  obtain ⟨s₂, o, g1, g2⟩ := k v T'.heap hq.1 T' _ _ _ (by omega) (by omega) (Fr.app hf hq.2) X' rfl
  exact ⟨s₂, o, st' _ g1, g2⟩
theorem own_callV (C : own_Cx p l e R s m args below meth c Z own nm bytes maxL ret) {i : Nat} {a : Addr} {Kc : String} {z : MethodName} {y : MethodName} {bytes' : ByteArray} {maxL' : Nat} {ret' : Option FieldType} {rm : Room} {as' : List Value} {Qc : Option Value → Heap → Prop} (K : own_Con l Z z bytes' maxL' ret' rm n0 (.ref a :: as') h Qc) (E : Exa Z h a Kc) (d : own_D bytes pc (.invokevirtual i) 3 pn) (w1 : (Jvm.Cond.methodLink own i y).before a0 Z = true) (w2 : (Jvm.Cond.declares y).before a0 Z = true) (w3 : (Jvm.Cond.selects Kc y z).before a0 Z = true) (nf : NotFace s y) (w4 : (Jvm.Cond.instanceMethod z).before a0 Z = true) (w5 : (Jvm.Cond.code z bytes' maxL' ret').before a0 Z = true) (w6 : (Jvm.Cond.initialized z.cls).before a0 Z = true)
    (hy : y.cls ≠ "java/lang/invoke/MethodHandle" ∧ y.cls ≠ "java/lang/invoke/VarHandle") {ps : List FieldType} {r : Option FieldType} (hp : parseMethodDescriptor y.desc = some ⟨ps, r⟩) (hn : as'.length = ps.length) (hst : st = as'.reverse ++ .ref a :: rest) (hLs : Ls.length = maxL) (hfr : rm.frames + 1 ≤ R.frames) (hlo : (rest.map fun v => v.category).sum + (maxL' + 11) + rm.locals ≤ R.locals) (hc : cells + rm.cells ≤ R.cells) (hs : slots + rm.slots ≤ R.slots)
    (k : ∀ v h', Qc v h' → own_Go p l e R s m args below meth c n0 Q (cells + rm.cells) (slots + rm.slots) h' pn Ls (v.toList ++ rest)) : own_Go p l e R s m args below meth c n0 Q cells slots h pc Ls st := by
  obtain ⟨hd, rfl⟩ := d
  intro T locs ce sl h1 h2 hf X eT
  obtain ⟨cB, kB, qa, qb, qc⟩ := isOf C.2.1 eT E
  obtain ⟨v, _, ⟨T', L', k', n'⟩, -, X', ⟨Lc, hq, l', y', z'⟩, st'⟩ := X.virtualBack C.1 (y := y) (z := z) C.2.2.1 (mvT C.2.1 w1) (mvT C.2.1 w2) nf (mvT C.2.1 w3) (mvT C.2.1 w4) hy (backOf (W := (rest.map fun v => v.category).sum) (Q := fun v h L => Qc v h ∧ Fr n0 L) (K []) C.2.1 w5 w6 hfr hlo) qa qc (g := mkF m pc Ls.toArray st) rfl (by rw [C.2.2.2.2.1]; simpa using hLs) (Steps.refl _) (argsL := as') (rest := rest) (lenOf hp hn) hst (by simp) (hb C.2.2.2.1 hd) (fun _ _ => ⟨rfl, eT, Nat.le_trans (Nat.add_le_add_right h1 _) hc, Nat.le_trans (Nat.add_le_add_right h2 _) hs⟩)
  dsimp only [Pt.U, Pt.locs, Pt.cells, Pt.slots] at X' l' y' z' st' hq
  subst l' y' z'
  obtain ⟨s₂, o, g1, g2⟩ := k v T'.heap hq.1 T' _ _ _ (by omega) (by omega) (Fr.app hf hq.2) X' rfl
  exact ⟨s₂, o, st'.trans g1, g2⟩
theorem own_callI (C : own_Cx p l e R s m args below meth c Z own nm bytes maxL ret) {i : Nat} {a : Addr} {y : MethodName} {bytes' : ByteArray} {maxL' : Nat} {ret' : Option FieldType} {rm : Room} {as' : List Value} {Qc : Option Value → Heap → Prop} (K : own_Con l Z y bytes' maxL' none rm n0 (.ref a :: as') h Qc) (d : own_D bytes pc (.invokespecial i) 3 pn) (hi : y.name = "<init>") (w1 : (Jvm.Cond.methodLink own i y).before a0 Z = true) (w4 : (Jvm.Cond.instanceMethod y).before a0 Z = true) (w5 : (Jvm.Cond.code y bytes' maxL' none).before a0 Z = true) (w6 : (Jvm.Cond.initialized y.cls).before a0 Z = true)
    (hy : y.cls ≠ "java/lang/invoke/MethodHandle" ∧ y.cls ≠ "java/lang/invoke/VarHandle") {ps : List FieldType} {r : Option FieldType} (hp : parseMethodDescriptor y.desc = some ⟨ps, r⟩) (hn : as'.length = ps.length) (hst : st = as'.reverse ++ .ref a :: rest) (hLs : Ls.length = maxL) (hfr : rm.frames + 1 ≤ R.frames) (hlo : (rest.map fun v => v.category).sum + (maxL' + 11) + rm.locals ≤ R.locals) (hc : cells + rm.cells ≤ R.cells) (hs : slots + rm.slots ≤ R.slots)
    (k : ∀ v h', Qc v h' → own_Go p l e R s m args below meth c n0 Q (cells + rm.cells) (slots + rm.slots) h' pn Ls (v.toList ++ rest)) : own_Go p l e R s m args below meth c n0 Q cells slots h pc Ls st := by
  obtain ⟨hd, rfl⟩ := d
  intro T locs ce sl h1 h2 hf X eT
  obtain ⟨v, _, ⟨T', L', k', n'⟩, -, X', ⟨Lc, hq, l', y', z'⟩, st'⟩ := X.specialBack C.1 (y := y) hi C.2.2.1 (mvT C.2.1 w1) (mvT C.2.1 w4) (mvT C.2.1 w5) hy (backOf (W := (rest.map fun v => v.category).sum) (Q := fun v h L => Qc v h ∧ Fr n0 L) (K []) C.2.1 w5 w6 hfr hlo) (g := mkF m pc Ls.toArray st) rfl (by rw [C.2.2.2.2.1]; simpa using hLs) (Steps.refl _) (argsL := as') (rest := rest) (lenOf hp hn) hst (by simp) (hb C.2.2.2.1 hd) (fun _ _ => ⟨rfl, eT, Nat.le_trans (Nat.add_le_add_right h1 _) hc, Nat.le_trans (Nat.add_le_add_right h2 _) hs⟩)
  dsimp only [Pt.U, Pt.locs, Pt.cells, Pt.slots] at X' l' y' z' st' hq
  subst l' y' z'
  obtain ⟨s₂, o, g1, g2⟩ := k v T'.heap hq.1 T' _ _ _ (by omega) (by omega) (Fr.app hf hq.2) X' rfl
  exact ⟨s₂, o, st'.trans g1, g2⟩
theorem own_nf {args : Array Value} {y : MethodName} {K : String} (hZ : Z.Warmed39 s.vm) (w : (Jvm.Cond.selects K y y).before a0 Z = true) : NotFace s y := notFace_of_selects (args := args) (mvT hZ w)
/-- from the words of a case to facts -/
theorem own_fld {t u : Term} {O n dd : String} {a : Addr} {v : Value} (hw : (Jvm.Cond.eq (Term.field t O n dd) u).value args Z none Z [] = some true) (ht : t.eval args Z none [] Z = some (.ref a)) (hu : u.eval args Z none [] Z = some v) : Fld Z Z.heap a O n dd v := by
  refine Fld.start ?_
  rw [← fld_at ht]
  obtain ⟨x, y, e1, e2, k1, k2⟩ := cmp_v (Or.inl hw)
  cases hu.symm.trans e2
  rw [e1]
  simp only [Jvm.Cond.value, e1, e2] at hw
  cases x <;> cases v <;> simp_all [Kin, Value.isRef]
theorem own_main {y : MethodName} {rm : Room} {as' : List Value} {ws : List Jvm.Cond} (K : own_Con l Z y bytes maxL ret rm n0 as' h Qn) : MetFree l y (head1 (Jvm.Cond.code y bytes maxL ret :: ws) rm) (fun a U => a = as'.toArray ∧ Z.Warmed39 U.vm ∧ U.heap = h) (fun _ _ _ _ _ => True) (fun _ U o U' => ∃ v L, o = .returned v ∧ (Qn v U'.heap ∧ Fr n0 L) ∧ FrameEnd U o U' L rm.cells rm.slots) := K ws
theorem own_ext_ext {h0 h' : Heap} (E : Ext h0 h) (E' : Ext h h') : Ext h0 h' := ⟨Nat.le_trans E.1 E'.1, fun a c q => E'.2 a c (E.2 a c q)⟩
theorem own_ext_wr {h0 h' : Heap} {a : Addr} {j : Nat} {v : Value} (E : Ext h0 h) (W : Wr h h' a j v) (q : h0.size ≤ a) : Ext h0 h' := by
  refine ⟨by rw [W.size]; exact E.1, fun b c hb => ?_⟩
  obtain ⟨c', e1, -, -, -, e5, -⟩ := wr_at W (E.2 b c hb)
  have ne : b ≠ a := fun e => absurd (Array.getElem?_eq_some_iff.mp hb).1 (by rw [e]; exact Nat.not_lt.mpr q)
  rw [e1, e5 ne]
theorem own_ext_keep {h0 h' : Heap} {ws : List Addr} (E : Ext h0 h) (K : Keep h h' ws) (q : ∀ x ∈ ws, h0.size ≤ x) : Ext h0 h' := ⟨Nat.le_trans E.1 K.1, fun b c hb => K.2.1 b c (E.2 b c hb) fun z => absurd (Array.getElem?_eq_some_iff.mp hb).1 (Nat.not_lt.mpr (q b z))⟩
theorem own_ext_refl (h : Heap) : Ext h h := ⟨Nat.le_refl _, fun _ _ q => q⟩
/-- an array of references and all that lies in it -/
def own_Av (Z : State) (h : Heap) (a : Addr) (ty : FieldType) (cA : ClassId) (vs : List Value) : Prop := ∃ c : Cell, Arr Z h a c ty ∧ c.cls = cA ∧ c.slots = vs.toArray
theorem own_Av.ext {h' : Heap} {a : Addr} {ty : FieldType} {cA : ClassId} {vs : List Value} (A : own_Av Z h a ty cA vs) (E : Ext h h') : own_Av Z h' a ty cA vs := by obtain ⟨c, A, r⟩ := A; exact ⟨c, A.ext E, r⟩
theorem own_newA (C : own_Cx p l e R s m args below meth c Z own nm bytes maxL ret) {K : String} {i : Nat} {n : Int32} (d : own_D bytes pc (.anewarray i) 3 pn) (w1 : (Jvm.Cond.classLink own i K).before a0 Z = true) (w2 : (Jvm.Cond.arrayOver (.object K)).before a0 Z = true) (hn : ¬ n < 0) (cap : Nat) (hcap : n.toNatClampNeg = cap) (hb8 : cap * 8 ≤ 536870912) (hc : cells + 1 ≤ R.cells) (hs : slots + cap ≤ R.slots)
    (k : ∀ (h' : Heap) (a : Addr) (cA : ClassId), a = h.size → Ext h h' → own_Av Z h' a (.object K) cA (List.replicate cap .null) → Ovr Z cA K → own_Go p l e R s m args below meth c n0 Q (cells + 1) (slots + cap) h' pn Ls (.ref a :: st)) : own_Go p l e R s m args below meth c n0 Q cells slots h pc Ls (.int n :: st) :=
  own_newR C d w1 w2 hn cap (Nat.le_of_eq hcap) hb8 hc hs fun h' a cA e1 E A O => k h' a cA e1 E ⟨_, A, rfl, by subst hcap; simp [newA, defaultValue]⟩ O
theorem own_stA (C : own_Cx p l e R s m args below meth c Z own nm bytes maxL ret) {K : String} {a b : Addr} {cA : ClassId} {vs : List Value} {j : Int32} (d : own_D bytes pc .aastore 1 pn) (A : own_Av Z h a (.object K) cA vs) (O : Ovr Z cA K) (I : Ins Z h b K true) (i : Nat) (hj : ¬ j < 0) (hi : j.toNatClampNeg = i) (hl : i < vs.length) (ha : n0 ≤ a)
    (k : ∀ h', Wr h h' a i (.ref b) → own_Av Z h' a (.object K) cA (vs.set i (.ref b)) → own_Go p l e R s m args below meth c n0 Q cells slots h' pn Ls st) : own_Go p l e R s m args below meth c n0 Q cells slots h pc Ls (.ref b :: .int j :: .ref a :: st) := by
  obtain ⟨cl, A, rfl, hv⟩ := A
  subst hi
  have hsz : cl.slots.size = vs.length := by rw [hv]; simp
  refine own_stR C d A (by rw [hsz]; intro q; rcases q with q | q; exact hj q; omega) rfl (Sto.of A O I) ha fun h' W => k h' W ⟨_, A.same W, rfl, ?_⟩
  simp [Cell.setSlot, hv]
theorem own_ldA (C : own_Cx p l e R s m args below meth c Z own nm bytes maxL ret) {ty : FieldType} {a : Addr} {v : Value} {cA : ClassId} {vs : List Value} {j : Int32} (d : own_D bytes pc .aaload 1 pn) (A : own_Av Z h a ty cA vs) (hty : ty.isReference = true) (i : Nat) (hj : ¬ j < 0) (hi : j.toNatClampNeg = i) (hat : vs[i]? = some v)
    (k : own_Go p l e R s m args below meth c n0 Q cells slots h pn Ls (v :: st)) : own_Go p l e R s m args below meth c n0 Q cells slots h pc Ls (.int j :: .ref a :: st) := by
  obtain ⟨cl, A, rfl, hv⟩ := A
  subst hi
  have hl : j.toNatClampNeg < vs.length := (List.getElem?_eq_some_iff.mp hat).1
  have hsz : cl.slots.size = vs.length := by rw [hv]; simp
  exact own_aaload C d A hty (by rw [hsz]; intro q; rcases q with q | q; exact hj q; omega) (by rw [hv]; simpa using hat) k
theorem own_lenA (C : own_Cx p l e R s m args below meth c Z own nm bytes maxL ret) {ty : FieldType} {a : Addr} {cA : ClassId} {vs : List Value} (d : own_D bytes pc .arraylength 1 pn) (A : own_Av Z h a ty cA vs) {z : Int32} (hz : vs.length.toInt32 = z)
    (k : own_Go p l e R s m args below meth c n0 Q cells slots h pn Ls (.int z :: st)) : own_Go p l e R s m args below meth c n0 Q cells slots h pc Ls (.ref a :: st) := by
  obtain ⟨cl, A, rfl, hv⟩ := A
  refine own_arraylength C d A ?_
  have hsz : cl.slots.size = vs.length := by rw [hv]; simp
  rw [hsz, hz]; exact k
theorem own_getClass (C : own_Cx p l e R s m args below meth c Z own nm bytes maxL ret) {i : Nat} {K : String} {a mir : Addr} (d : own_D bytes pc (.invokevirtual i) 3 pn) (w1 : (Jvm.Cond.methodLink own i ⟨"java/lang/Object", "getClass", "()Ljava/lang/Class;"⟩).before a0 Z = true) (w2 : (Jvm.Cond.declares ⟨"java/lang/Object", "getClass", "()Ljava/lang/Class;"⟩).before a0 Z = true) (w3 : (Jvm.Cond.selects K ⟨"java/lang/Object", "getClass", "()Ljava/lang/Class;"⟩ ⟨"java/lang/Object", "getClass", "()Ljava/lang/Class;"⟩).before a0 Z = true)
    (w4 : (Jvm.Cond.instanceMethod ⟨"java/lang/Object", "getClass", "()Ljava/lang/Class;"⟩).before a0 Z = true) (w5 : (Jvm.Cond.native ⟨"java/lang/Object", "getClass", "()Ljava/lang/Class;"⟩).before a0 Z = true) (E : Exa Z h a K) (M : ∃ (cc : ClassId) (kc : Class), Z.vm.findClass K = some cc ∧ Z.vm.classes[cc]? = some kc ∧ kc.mirror = some mir) (hLs : Ls.length = maxL) (hfr : 1 ≤ R.frames) (hlo : (st.map fun v => v.category).sum + (nativeFrameWords "java/lang/Object" "getClass" 1 + 11) ≤ R.locals)
    (k : own_Go p l e R s m args below meth c n0 Q cells slots h pn Ls (.ref mir :: st)) : own_Go p l e R s m args below meth c n0 Q cells slots h pc Ls (.ref a :: st) := by
  obtain ⟨hd, rfl⟩ := d
  refine own_warm (fun T locs ce sl X eT => ?_) k
  obtain ⟨cB, kB, i1, i2, i3⟩ := isOf C.2.1 eT E
  obtain ⟨cc, kc, m1, m2, m3⟩ := M
  rw [C.2.1.alike.findClass] at i1
  cases i1.symm.trans m1
  obtain ⟨k', q, ek⟩ := C.2.1.alike.2.2 _ _ m2
  obtain ⟨vm', X', st'⟩ := X.getClassOf C.1 C.2.2.1 (mvT C.2.1 w1) (mvT C.2.1 w2) (own_nf (args := #[]) C.2.1 w3) (mvT C.2.1 w3) (mvT C.2.1 w4) (mvT C.2.1 w5) (by rw [C.2.1.alike.findClass]; exact m1) i3 q (by rw [ek]; exact m3) (g := mkF m pc Ls.toArray (.ref a :: st)) rfl (by rw [C.2.2.2.2.1]; simpa using hLs) rfl (hb C.2.2.2.1 hd) hfr (by simpa using hlo)
  exact ⟨_, X', eT, st'⟩
theorem own_len {t : Term} {a : Addr} {cl : Cell} {ty : FieldType} {n : Int32} {k : Nat} (hn : n.toNatClampNeg = k) (hw : (Jvm.Cond.eq (Term.length t) (Term.int n)).value args Z none Z [] = some true) (ht : t.eval args Z none [] Z = some (.ref a)) (A : Arr Z Z.heap a cl ty) : cl.slots.size = k := by
  obtain ⟨x, y, e1, e2, -, -⟩ := cmp_v (Or.inl hw)
  have hx := e1
  simp only [Term.eval, ht, Option.bind_eq_bind, Option.bind_some] at e1
  rw [A.fin (Vm.Alike.refl _)] at e1
  simp only [Option.bind_some] at e1
  split at e1
  · rename_i q
    cases e1
    have h2 := gotT (Cond.eq_ints hx (show (Term.int n).eval args Z none [] Z = some (.int n) from rfl)) hw
    have h3 : cl.slots.size.toInt32.toNatClampNeg = cl.slots.size := by
      show (cl.slots.size.toInt32.toInt).toNat = cl.slots.size
      rw [len_toInt q]; rfl
    rw [h2, hn] at h3
    exact h3.symm
  · cases e1
theorem own_elem {t u : Term} {a b : Addr} {cl : Cell} {ty : FieldType} {j : Int32} {k : Nat} (hk : j.toNatClampNeg = k) (hw : (Jvm.Cond.eq (Term.elem t (Term.int j)) u).value args Z none Z [] = some true) (ht : t.eval args Z none [] Z = some (.ref a)) (A : Arr Z Z.heap a cl ty) (hu : u.eval args Z none [] Z = some (.ref b)) : cl.slots[k]? = some (.ref b) := by
  subst hk
  obtain ⟨x, y, e1, e2, k1, k2⟩ := cmp_v (Or.inl hw)
  cases hu.symm.trans e2
  obtain ⟨-, e4⟩ := elem_in e1 ht rfl A.1
  rw [e4]
  simp only [Jvm.Cond.value, e1, e2] at hw
  cases x <;> simp_all [Kin, Value.isRef]
theorem own_callU (C : own_Cx p l e R s m args below meth c Z own nm bytes maxL ret) {i : Nat} {a : Addr} {Kc owner : String} {z : MethodName} {y : MethodName} {bytes' : ByteArray} {maxL' : Nat} {ret' : Option FieldType} {rm : Room} {as' : List Value} {Qc : Option Value → Heap → Prop} (K : own_Con l Z z bytes' maxL' ret' rm n0 (.ref a :: as') h Qc) (E : Exa Z h a Kc) (d : own_D bytes pc (.invokevirtual i) 3 pn) (w1 : (Jvm.Cond.methodLink own i y).before a0 Z = true) (w2 : (Jvm.Cond.sameMethod y.cls owner y.name y.desc).before a0 Z = true) (w2' : (Jvm.Cond.declares ⟨owner, y.name, y.desc⟩).before a0 Z = true) (w3 : (Jvm.Cond.selects Kc y z).before a0 Z = true) (w4 : (Jvm.Cond.instanceMethod z).before a0 Z = true) (w5 : (Jvm.Cond.code z bytes' maxL' ret').before a0 Z = true) (w6 : (Jvm.Cond.initialized z.cls).before a0 Z = true)
    (hy : owner ≠ "java/lang/invoke/MethodHandle" ∧ owner ≠ "java/lang/invoke/VarHandle") {ps : List FieldType} {r : Option FieldType} (hp : parseMethodDescriptor y.desc = some ⟨ps, r⟩) (hn : as'.length = ps.length) (hst : st = as'.reverse ++ .ref a :: rest) (hLs : Ls.length = maxL) (hfr : rm.frames + 1 ≤ R.frames) (hlo : (rest.map fun v => v.category).sum + (maxL' + 11) + rm.locals ≤ R.locals) (hc : cells + rm.cells ≤ R.cells) (hs : slots + rm.slots ≤ R.slots)
    (k : ∀ v h', Qc v h' → own_Go p l e R s m args below meth c n0 Q (cells + rm.cells) (slots + rm.slots) h' pn Ls (v.toList ++ rest)) : own_Go p l e R s m args below meth c n0 Q cells slots h pc Ls st := by
  obtain ⟨hd, rfl⟩ := d
  intro T locs ce sl h1 h2 hf X eT
  obtain ⟨cB, kB, qa, qb, qc⟩ := isOf C.2.1 eT E
  obtain ⟨v, _, ⟨T', L', k', n'⟩, -, X', ⟨Lc, hq, l', y', z'⟩, st'⟩ := X.virtualBackUp C.1 (x := y) (y := z) C.2.2.1 (mvT C.2.1 w1) (mvT C.2.1 w2) (mvT C.2.1 w2') hy (mvT C.2.1 w3) (mvT C.2.1 w4) (backOf (W := (rest.map fun v => v.category).sum) (Q := fun v h L => Qc v h ∧ Fr n0 L) (K []) C.2.1 w5 w6 hfr hlo) qa qc (g := mkF m pc Ls.toArray st) rfl (by rw [C.2.2.2.2.1]; simpa using hLs) (Steps.refl _) (argsL := as') (rest := rest) (lenOf hp hn) hst (by simp) (hb C.2.2.2.1 hd) (fun _ _ => ⟨rfl, eT, Nat.le_trans (Nat.add_le_add_right h1 _) hc, Nat.le_trans (Nat.add_le_add_right h2 _) hs⟩)
  dsimp only [Pt.U, Pt.locs, Pt.cells, Pt.slots] at X' l' y' z' st' hq
  subst l' y' z'
  obtain ⟨s₂, o, g1, g2⟩ := k v T'.heap hq.1 T' _ _ _ (by omega) (by omega) (Fr.app hf hq.2) X' rfl
  exact ⟨s₂, o, st'.trans g1, g2⟩
theorem own_callF (C : own_Cx p l e R s m args below meth c Z own nm bytes maxL ret) {i n : Nat} {a : Addr} {Kc : String} {z : MethodName} {y : MethodName} {bytes' : ByteArray} {maxL' : Nat} {ret' : Option FieldType} {rm : Room} {as' : List Value} {Qc : Option Value → Heap → Prop} (K : own_Con l Z z bytes' maxL' ret' rm n0 (.ref a :: as') h Qc) (E : Exa Z h a Kc) (d : own_D bytes pc (.invokeinterface i n) 5 pn) (w1 : (Jvm.Cond.methodLink own i y).before a0 Z = true) (w2 : (Jvm.Cond.declares y).before a0 Z = true) (w2' : (Jvm.Cond.interfaceMethod y.cls y.cls y.name y.desc).before a0 Z = true) (hfa : ((Jvm.Cond.interfaceMethod y.cls y.cls y.name y.desc).onTables && (Jvm.Cond.interfaceMethod y.cls y.cls y.name y.desc).keepsFace) = true) (w3 : (Jvm.Cond.selects Kc y z).before a0 Z = true) (w4 : (Jvm.Cond.instanceMethod z).before a0 Z = true) (w7 : (Jvm.Cond.publicMethod z).before a0 Z = true) (w8 : (Jvm.Cond.unhidden Kc y.name y.desc).before a0 Z = true) (w9 : (Jvm.Cond.castable Kc y.cls).before a0 Z = true) (w5 : (Jvm.Cond.code z bytes' maxL' ret').before a0 Z = true) (w6 : (Jvm.Cond.initialized z.cls).before a0 Z = true)
    (hy : y.cls ≠ "java/lang/invoke/MethodHandle" ∧ y.cls ≠ "java/lang/invoke/VarHandle") {ps : List FieldType} {r : Option FieldType} (hp : parseMethodDescriptor y.desc = some ⟨ps, r⟩) (hn : as'.length = ps.length) (hst : st = as'.reverse ++ .ref a :: rest) (hLs : Ls.length = maxL) (hfr : rm.frames + 1 ≤ R.frames) (hlo : (rest.map fun v => v.category).sum + (maxL' + 11) + rm.locals ≤ R.locals) (hc : cells + rm.cells ≤ R.cells) (hs : slots + rm.slots ≤ R.slots)
    (k : ∀ v h', Qc v h' → own_Go p l e R s m args below meth c n0 Q (cells + rm.cells) (slots + rm.slots) h' pn Ls (v.toList ++ rest)) : own_Go p l e R s m args below meth c n0 Q cells slots h pc Ls st := by
  obtain ⟨hd, rfl⟩ := d
  intro T locs ce sl h1 h2 hf X eT
  obtain ⟨cB, kB, qa, qb, qc⟩ := isOf C.2.1 eT E
  obtain ⟨v, _, ⟨T', L', k', n'⟩, -, X', ⟨Lc, hq, l', y', z'⟩, st'⟩ := X.interfaceBack C.1 (xi := y) (y := z) C.2.2.1 (mvT C.2.1 w1) (mvT C.2.1 w2) (mvT C.2.1 w2' hfa) (mvT C.2.1 w3) (mvT C.2.1 w4) (mvT C.2.1 w7) (mvT C.2.1 w8) (mvT C.2.1 w9) hy (backOf (W := (rest.map fun v => v.category).sum) (Q := fun v h L => Qc v h ∧ Fr n0 L) (K []) C.2.1 w5 w6 hfr hlo) qa qb qc (g := mkF m pc Ls.toArray st) rfl (by rw [C.2.2.2.2.1]; simpa using hLs) (Steps.refl _) (argsL := as') (rest := rest) (lenOf hp hn) hst (by simp) (hb C.2.2.2.1 hd) (fun _ _ => ⟨rfl, eT, Nat.le_trans (Nat.add_le_add_right h1 _) hc, Nat.le_trans (Nat.add_le_add_right h2 _) hs⟩)
  dsimp only [Pt.U, Pt.locs, Pt.cells, Pt.slots] at X' l' y' z' st' hq
  subst l' y' z'
  obtain ⟨s₂, o, g1, g2⟩ := k v T'.heap hq.1 T' _ _ _ (by omega) (by omega) (Fr.app hf hq.2) X' rfl
  exact ⟨s₂, o, st'.trans g1, g2⟩
end OwnKit
end Jvm.RoadKit
namespace Jvm.Pilot.@@N@@
open Jvm Jvm.ClassFile Sem Op Lib Jvm.Free Jvm.Stand Jvm.LawKit Jvm.RoadKit Bundle Jvm.Pilot.@@N@@.Jvm.D

theorem d0_0 : own_D code 0 (.bipush 17) 2 2 := ⟨at_0, rfl⟩
theorem d0_2 : own_D code 2 (.anewarray 7) 3 5 := ⟨at_2, rfl⟩
theorem d0_5 : own_D code 5 (.dup) 1 6 := ⟨at_5, rfl⟩
theorem d0_6 : own_D code 6 (.iconst 0) 1 7 := ⟨at_6, rfl⟩
theorem d0_7 : own_D code 7 (.getstatic 9) 3 10 := ⟨at_7, rfl⟩
theorem d0_10 : own_D code 10 (.aastore) 1 11 := ⟨at_10, rfl⟩
theorem d0_11 : own_D code 11 (.dup) 1 12 := ⟨at_11, rfl⟩
theorem d0_12 : own_D code 12 (.iconst 1) 1 13 := ⟨at_12, rfl⟩
theorem d0_13 : own_D code 13 (.getstatic 13) 3 16 := ⟨at_13, rfl⟩
theorem d0_16 : own_D code 16 (.aastore) 1 17 := ⟨at_16, rfl⟩
theorem d0_17 : own_D code 17 (.dup) 1 18 := ⟨at_17, rfl⟩
theorem d0_18 : own_D code 18 (.iconst 2) 1 19 := ⟨at_18, rfl⟩
theorem d0_19 : own_D code 19 (.getstatic 16) 3 22 := ⟨at_19, rfl⟩
theorem d0_22 : own_D code 22 (.aastore) 1 23 := ⟨at_22, rfl⟩
theorem d0_23 : own_D code 23 (.dup) 1 24 := ⟨at_23, rfl⟩
theorem d0_24 : own_D code 24 (.iconst 3) 1 25 := ⟨at_24, rfl⟩
theorem d0_25 : own_D code 25 (.getstatic 19) 3 28 := ⟨at_25, rfl⟩
theorem d0_28 : own_D code 28 (.aastore) 1 29 := ⟨at_28, rfl⟩
theorem d0_29 : own_D code 29 (.dup) 1 30 := ⟨at_29, rfl⟩
theorem d0_30 : own_D code 30 (.iconst 4) 1 31 := ⟨at_30, rfl⟩
theorem d0_31 : own_D code 31 (.getstatic 22) 3 34 := ⟨at_31, rfl⟩
theorem d0_34 : own_D code 34 (.aastore) 1 35 := ⟨at_34, rfl⟩
theorem d0_35 : own_D code 35 (.dup) 1 36 := ⟨at_35, rfl⟩
theorem d0_36 : own_D code 36 (.iconst 5) 1 37 := ⟨at_36, rfl⟩
theorem d0_37 : own_D code 37 (.getstatic 25) 3 40 := ⟨at_37, rfl⟩
theorem d0_40 : own_D code 40 (.aastore) 1 41 := ⟨at_40, rfl⟩
theorem d0_41 : own_D code 41 (.dup) 1 42 := ⟨at_41, rfl⟩
theorem d0_42 : own_D code 42 (.bipush 6) 2 44 := ⟨at_42, rfl⟩
theorem d0_44 : own_D code 44 (.getstatic 28) 3 47 := ⟨at_44, rfl⟩
theorem d0_47 : own_D code 47 (.aastore) 1 48 := ⟨at_47, rfl⟩
theorem d0_48 : own_D code 48 (.dup) 1 49 := ⟨at_48, rfl⟩
theorem d0_49 : own_D code 49 (.bipush 7) 2 51 := ⟨at_49, rfl⟩
theorem d0_51 : own_D code 51 (.getstatic 31) 3 54 := ⟨at_51, rfl⟩
theorem d0_54 : own_D code 54 (.aastore) 1 55 := ⟨at_54, rfl⟩
theorem d0_55 : own_D code 55 (.dup) 1 56 := ⟨at_55, rfl⟩
theorem d0_56 : own_D code 56 (.bipush 8) 2 58 := ⟨at_56, rfl⟩
theorem d0_58 : own_D code 58 (.getstatic 34) 3 61 := ⟨at_58, rfl⟩
theorem d0_61 : own_D code 61 (.aastore) 1 62 := ⟨at_61, rfl⟩
theorem d0_62 : own_D code 62 (.dup) 1 63 := ⟨at_62, rfl⟩
theorem d0_63 : own_D code 63 (.bipush 9) 2 65 := ⟨at_63, rfl⟩
theorem d0_65 : own_D code 65 (.getstatic 37) 3 68 := ⟨at_65, rfl⟩
theorem d0_68 : own_D code 68 (.aastore) 1 69 := ⟨at_68, rfl⟩
theorem d0_69 : own_D code 69 (.dup) 1 70 := ⟨at_69, rfl⟩
theorem d0_70 : own_D code 70 (.bipush 10) 2 72 := ⟨at_70, rfl⟩
theorem d0_72 : own_D code 72 (.getstatic 40) 3 75 := ⟨at_72, rfl⟩
theorem d0_75 : own_D code 75 (.aastore) 1 76 := ⟨at_75, rfl⟩
theorem d0_76 : own_D code 76 (.dup) 1 77 := ⟨at_76, rfl⟩
theorem d0_77 : own_D code 77 (.bipush 11) 2 79 := ⟨at_77, rfl⟩
theorem d0_79 : own_D code 79 (.getstatic 43) 3 82 := ⟨at_79, rfl⟩
theorem d0_82 : own_D code 82 (.aastore) 1 83 := ⟨at_82, rfl⟩
theorem d0_83 : own_D code 83 (.dup) 1 84 := ⟨at_83, rfl⟩
theorem d0_84 : own_D code 84 (.bipush 12) 2 86 := ⟨at_84, rfl⟩
theorem d0_86 : own_D code 86 (.getstatic 46) 3 89 := ⟨at_86, rfl⟩
theorem d0_89 : own_D code 89 (.aastore) 1 90 := ⟨at_89, rfl⟩
theorem d0_90 : own_D code 90 (.dup) 1 91 := ⟨at_90, rfl⟩
theorem d0_91 : own_D code 91 (.bipush 13) 2 93 := ⟨at_91, rfl⟩
theorem d0_93 : own_D code 93 (.getstatic 49) 3 96 := ⟨at_93, rfl⟩
theorem d0_96 : own_D code 96 (.aastore) 1 97 := ⟨at_96, rfl⟩
theorem d0_97 : own_D code 97 (.dup) 1 98 := ⟨at_97, rfl⟩
theorem d0_98 : own_D code 98 (.bipush 14) 2 100 := ⟨at_98, rfl⟩
theorem d0_100 : own_D code 100 (.getstatic 52) 3 103 := ⟨at_100, rfl⟩
theorem d0_103 : own_D code 103 (.aastore) 1 104 := ⟨at_103, rfl⟩
theorem d0_104 : own_D code 104 (.dup) 1 105 := ⟨at_104, rfl⟩
theorem d0_105 : own_D code 105 (.bipush 15) 2 107 := ⟨at_105, rfl⟩
theorem d0_107 : own_D code 107 (.getstatic 55) 3 110 := ⟨at_107, rfl⟩
theorem d0_110 : own_D code 110 (.aastore) 1 111 := ⟨at_110, rfl⟩
theorem d0_111 : own_D code 111 (.dup) 1 112 := ⟨at_111, rfl⟩
theorem d0_112 : own_D code 112 (.bipush 16) 2 114 := ⟨at_112, rfl⟩
theorem d0_114 : own_D code 114 (.getstatic 58) 3 117 := ⟨at_114, rfl⟩
theorem d0_117 : own_D code 117 (.aastore) 1 118 := ⟨at_117, rfl⟩
theorem d0_118 : own_D code 118 (.astore_n 1) 1 119 := ⟨at_118, rfl⟩
theorem d0_119 : own_D code 119 (.iload_n 0) 1 120 := ⟨at_119, rfl⟩
theorem d0_120 : own_D code 120 (.ldc 61) 2 122 := ⟨at_120, rfl⟩
theorem d0_122 : own_D code 122 (.iand) 1 123 := ⟨at_122, rfl⟩
theorem d0_123 : own_D code 123 (.bipush 17) 2 125 := ⟨at_123, rfl⟩
theorem d0_125 : own_D code 125 (.irem) 1 126 := ⟨at_125, rfl⟩
theorem d0_126 : own_D code 126 (.istore_n 2) 1 127 := ⟨at_126, rfl⟩
theorem d0_127 : own_D code 127 (.iload_n 2) 1 128 := ⟨at_127, rfl⟩
theorem d0_128 : own_D code 128 (.iconst 1) 1 129 := ⟨at_128, rfl⟩
theorem d0_129 : own_D code 129 (.if_icmp .lt 13) 3 132 := ⟨at_129, rfl⟩
theorem t0_129 : own_T 129 (13) 142 := ⟨by decide, by decide⟩
theorem d0_132 : own_D code 132 (.iload_n 2) 1 133 := ⟨at_132, rfl⟩
theorem d0_133 : own_D code 133 (.bipush 7) 2 135 := ⟨at_133, rfl⟩
theorem d0_135 : own_D code 135 (.if_icmp .gt 7) 3 138 := ⟨at_135, rfl⟩
theorem t0_135 : own_T 135 (7) 142 := ⟨by decide, by decide⟩
theorem d0_138 : own_D code 138 (.iconst 1) 1 139 := ⟨at_138, rfl⟩
theorem d0_139 : own_D code 139 (.goto 4) 3 142 := ⟨at_139, rfl⟩
theorem t0_139 : own_T 139 (4) 143 := ⟨by decide, by decide⟩
theorem d0_142 : own_D code 142 (.iconst 0) 1 143 := ⟨at_142, rfl⟩
theorem d0_143 : own_D code 143 (.istore_n 3) 1 144 := ⟨at_143, rfl⟩
theorem d0_144 : own_D code 144 (.aload_n 1) 1 145 := ⟨at_144, rfl⟩
theorem d0_145 : own_D code 145 (.iload_n 2) 1 146 := ⟨at_145, rfl⟩
theorem d0_146 : own_D code 146 (.aaload) 1 147 := ⟨at_146, rfl⟩
theorem d0_147 : own_D code 147 (.invokevirtual 62) 3 150 := ⟨at_147, rfl⟩
theorem d0_150 : own_D code 150 (.iload_n 3) 1 151 := ⟨at_150, rfl⟩
theorem d0_151 : own_D code 151 (.if_icmp .ne 7) 3 154 := ⟨at_151, rfl⟩
theorem t0_151 : own_T 151 (7) 158 := ⟨by decide, by decide⟩
theorem d0_154 : own_D code 154 (.iconst 1) 1 155 := ⟨at_154, rfl⟩
theorem d0_155 : own_D code 155 (.goto 4) 3 158 := ⟨at_155, rfl⟩
theorem t0_155 : own_T 155 (4) 159 := ⟨by decide, by decide⟩
theorem d0_158 : own_D code 158 (.iconst 0) 1 159 := ⟨at_158, rfl⟩
theorem d0_159 : own_D code 159 (.ireturn) 1 160 := ⟨at_159, rfl⟩
theorem pd0 : parseMethodDescriptor "(I)Z" = some ⟨[.int], some .boolean⟩ := by decide +kernel
theorem pn0 : plainFor x = true := plainFor_of_name (x := x) (show plainName "com/example/channel/channel/protocol/FieldTypeIsIntegerPinLaw" = true by first | (simp [plainName, overriddenIn]; done) | decide +kernel)
theorem d1_0 : own_D prog_61_method_5_code 0 (.aload_n 0) 1 1 := ⟨by decide +kernel, rfl⟩
theorem d1_1 : own_D prog_61_method_5_code 1 (.getstatic 7) 3 4 := ⟨by decide +kernel, rfl⟩
theorem d1_4 : own_D prog_61_method_5_code 4 (.if_acmp .eq 45) 3 7 := ⟨by decide +kernel, rfl⟩
theorem t1_4 : own_T 4 (45) 49 := ⟨by decide, by decide⟩
theorem d1_7 : own_D prog_61_method_5_code 7 (.aload_n 0) 1 8 := ⟨by decide +kernel, rfl⟩
theorem d1_8 : own_D prog_61_method_5_code 8 (.getstatic 10) 3 11 := ⟨by decide +kernel, rfl⟩
theorem d1_11 : own_D prog_61_method_5_code 11 (.if_acmp .eq 38) 3 14 := ⟨by decide +kernel, rfl⟩
theorem t1_11 : own_T 11 (38) 49 := ⟨by decide, by decide⟩
theorem d1_14 : own_D prog_61_method_5_code 14 (.aload_n 0) 1 15 := ⟨by decide +kernel, rfl⟩
theorem d1_15 : own_D prog_61_method_5_code 15 (.getstatic 13) 3 18 := ⟨by decide +kernel, rfl⟩
theorem d1_18 : own_D prog_61_method_5_code 18 (.if_acmp .eq 31) 3 21 := ⟨by decide +kernel, rfl⟩
theorem t1_18 : own_T 18 (31) 49 := ⟨by decide, by decide⟩
theorem d1_21 : own_D prog_61_method_5_code 21 (.aload_n 0) 1 22 := ⟨by decide +kernel, rfl⟩
theorem d1_22 : own_D prog_61_method_5_code 22 (.getstatic 16) 3 25 := ⟨by decide +kernel, rfl⟩
theorem d1_25 : own_D prog_61_method_5_code 25 (.if_acmp .eq 24) 3 28 := ⟨by decide +kernel, rfl⟩
theorem t1_25 : own_T 25 (24) 49 := ⟨by decide, by decide⟩
theorem d1_28 : own_D prog_61_method_5_code 28 (.aload_n 0) 1 29 := ⟨by decide +kernel, rfl⟩
theorem d1_29 : own_D prog_61_method_5_code 29 (.getstatic 19) 3 32 := ⟨by decide +kernel, rfl⟩
theorem d1_32 : own_D prog_61_method_5_code 32 (.if_acmp .eq 17) 3 35 := ⟨by decide +kernel, rfl⟩
theorem t1_32 : own_T 32 (17) 49 := ⟨by decide, by decide⟩
theorem d1_35 : own_D prog_61_method_5_code 35 (.aload_n 0) 1 36 := ⟨by decide +kernel, rfl⟩
theorem d1_36 : own_D prog_61_method_5_code 36 (.getstatic 22) 3 39 := ⟨by decide +kernel, rfl⟩
theorem d1_39 : own_D prog_61_method_5_code 39 (.if_acmp .eq 10) 3 42 := ⟨by decide +kernel, rfl⟩
theorem t1_39 : own_T 39 (10) 49 := ⟨by decide, by decide⟩
theorem d1_42 : own_D prog_61_method_5_code 42 (.aload_n 0) 1 43 := ⟨by decide +kernel, rfl⟩
theorem d1_43 : own_D prog_61_method_5_code 43 (.getstatic 25) 3 46 := ⟨by decide +kernel, rfl⟩
theorem d1_46 : own_D prog_61_method_5_code 46 (.if_acmp .ne 7) 3 49 := ⟨by decide +kernel, rfl⟩
theorem t1_46 : own_T 46 (7) 53 := ⟨by decide, by decide⟩
theorem d1_49 : own_D prog_61_method_5_code 49 (.iconst 1) 1 50 := ⟨by decide +kernel, rfl⟩
theorem d1_50 : own_D prog_61_method_5_code 50 (.goto 4) 3 53 := ⟨by decide +kernel, rfl⟩
theorem t1_50 : own_T 50 (4) 54 := ⟨by decide, by decide⟩
theorem d1_53 : own_D prog_61_method_5_code 53 (.iconst 0) 1 54 := ⟨by decide +kernel, rfl⟩
theorem d1_54 : own_D prog_61_method_5_code 54 (.ireturn) 1 55 := ⟨by decide +kernel, rfl⟩
theorem pd1 : parseMethodDescriptor "()Z" = some ⟨[], some .boolean⟩ := by decide +kernel
theorem pn1 : plainFor (⟨"com/example/channel/channel/protocol/FieldType", "isInteger", "()Z"⟩ : MethodName) = true := plainFor_of_name (x := (⟨"com/example/channel/channel/protocol/FieldType", "isInteger", "()Z"⟩ : MethodName)) (show plainName "com/example/channel/channel/protocol/FieldType" = true by first | (simp [plainName, overriddenIn]; done) | decide +kernel)
set_option maxRecDepth 65536 in
set_option maxHeartbeats 40000000 in
theorem own_isint_SIGNED_8 (l : Launch) (Z : State) (a0 : Array Value) (hw : ∀ d ∈ tables_1, d.before a0 Z = true) (n0 : Nat) (h : Heap) (a : Addr) (a_SIGNED_8 : Addr) (S_SIGNED_8 : Sta Z h "com/example/channel/channel/protocol/FieldType" "SIGNED_8" "Lcom/example/channel/channel/protocol/FieldType;" (.ref a_SIGNED_8)) (a_UNSIGNED_8 : Addr) (S_UNSIGNED_8 : Sta Z h "com/example/channel/channel/protocol/FieldType" "UNSIGNED_8" "Lcom/example/channel/channel/protocol/FieldType;" (.ref a_UNSIGNED_8)) (a_SIGNED_16 : Addr) (S_SIGNED_16 : Sta Z h "com/example/channel/channel/protocol/FieldType" "SIGNED_16" "Lcom/example/channel/channel/protocol/FieldType;" (.ref a_SIGNED_16)) (a_UNSIGNED_16 : Addr) (S_UNSIGNED_16 : Sta Z h "com/example/channel/channel/protocol/FieldType" "UNSIGNED_16" "Lcom/example/channel/channel/protocol/FieldType;" (.ref a_UNSIGNED_16)) (a_SIGNED_32 : Addr) (S_SIGNED_32 : Sta Z h "com/example/channel/channel/protocol/FieldType" "SIGNED_32" "Lcom/example/channel/channel/protocol/FieldType;" (.ref a_SIGNED_32)) (a_UNSIGNED_32 : Addr) (S_UNSIGNED_32 : Sta Z h "com/example/channel/channel/protocol/FieldType" "UNSIGNED_32" "Lcom/example/channel/channel/protocol/FieldType;" (.ref a_UNSIGNED_32)) (a_SIGNED_64 : Addr) (S_SIGNED_64 : Sta Z h "com/example/channel/channel/protocol/FieldType" "SIGNED_64" "Lcom/example/channel/channel/protocol/FieldType;" (.ref a_SIGNED_64))  (q : a = a_SIGNED_8) : own_Con l Z (⟨"com/example/channel/channel/protocol/FieldType", "isInteger", "()Z"⟩ : MethodName) prog_61_method_5_code 1 (some .boolean) ({ frames := 0, cells := 0, slots := 0, locals := 0 } : Room) n0 [(.ref a)] h (fun v h' => v = some (.int (1 : Int32)) ∧ h = h') := by
  refine own_Con.mk (Ls := [.val (.ref a)]) pn1 (fun m => by first | (simp [entryFrame, mkF, argsToLocals, Value.category]; done) | rfl) ?_
  intro p e s m below meth c C
  refine own_aloadN C d1_0 rfl rfl ?_
  refine own_getS C d1_1 (hw _ (List.mem_of_getElem? (i := 60) rfl)) S_SIGNED_8 ?_
  refine own_acmpeq C d1_4 t1_4 rfl rfl (fun _ => ?_) (fun h' => absurd h' (fun z => z (congrArg Value.ref q)))
  refine own_iconst C (1 : Int32) d1_49 rfl ?_
  refine own_goto C d1_50 t1_50 ?_
  exact own_retZ C d1_54 (Or.inr rfl) (by decide) (by decide) ⟨rfl, rfl⟩
set_option maxRecDepth 65536 in
set_option maxHeartbeats 40000000 in
theorem own_isint_UNSIGNED_8 (l : Launch) (Z : State) (a0 : Array Value) (hw : ∀ d ∈ tables_1, d.before a0 Z = true) (n0 : Nat) (h : Heap) (a : Addr) (a_SIGNED_8 : Addr) (S_SIGNED_8 : Sta Z h "com/example/channel/channel/protocol/FieldType" "SIGNED_8" "Lcom/example/channel/channel/protocol/FieldType;" (.ref a_SIGNED_8)) (a_UNSIGNED_8 : Addr) (S_UNSIGNED_8 : Sta Z h "com/example/channel/channel/protocol/FieldType" "UNSIGNED_8" "Lcom/example/channel/channel/protocol/FieldType;" (.ref a_UNSIGNED_8)) (a_SIGNED_16 : Addr) (S_SIGNED_16 : Sta Z h "com/example/channel/channel/protocol/FieldType" "SIGNED_16" "Lcom/example/channel/channel/protocol/FieldType;" (.ref a_SIGNED_16)) (a_UNSIGNED_16 : Addr) (S_UNSIGNED_16 : Sta Z h "com/example/channel/channel/protocol/FieldType" "UNSIGNED_16" "Lcom/example/channel/channel/protocol/FieldType;" (.ref a_UNSIGNED_16)) (a_SIGNED_32 : Addr) (S_SIGNED_32 : Sta Z h "com/example/channel/channel/protocol/FieldType" "SIGNED_32" "Lcom/example/channel/channel/protocol/FieldType;" (.ref a_SIGNED_32)) (a_UNSIGNED_32 : Addr) (S_UNSIGNED_32 : Sta Z h "com/example/channel/channel/protocol/FieldType" "UNSIGNED_32" "Lcom/example/channel/channel/protocol/FieldType;" (.ref a_UNSIGNED_32)) (a_SIGNED_64 : Addr) (S_SIGNED_64 : Sta Z h "com/example/channel/channel/protocol/FieldType" "SIGNED_64" "Lcom/example/channel/channel/protocol/FieldType;" (.ref a_SIGNED_64)) (q_SIGNED_8 : ¬ a = a_SIGNED_8) (q : a = a_UNSIGNED_8) : own_Con l Z (⟨"com/example/channel/channel/protocol/FieldType", "isInteger", "()Z"⟩ : MethodName) prog_61_method_5_code 1 (some .boolean) ({ frames := 0, cells := 0, slots := 0, locals := 0 } : Room) n0 [(.ref a)] h (fun v h' => v = some (.int (1 : Int32)) ∧ h = h') := by
  refine own_Con.mk (Ls := [.val (.ref a)]) pn1 (fun m => by first | (simp [entryFrame, mkF, argsToLocals, Value.category]; done) | rfl) ?_
  intro p e s m below meth c C
  refine own_aloadN C d1_0 rfl rfl ?_
  refine own_getS C d1_1 (hw _ (List.mem_of_getElem? (i := 60) rfl)) S_SIGNED_8 ?_
  refine own_acmpeq C d1_4 t1_4 rfl rfl (fun h' => absurd h' (fun z => q_SIGNED_8 (Value.ref.inj z))) (fun _ => ?_)
  refine own_aloadN C d1_7 rfl rfl ?_
  refine own_getS C d1_8 (hw _ (List.mem_of_getElem? (i := 61) rfl)) S_UNSIGNED_8 ?_
  refine own_acmpeq C d1_11 t1_11 rfl rfl (fun _ => ?_) (fun h' => absurd h' (fun z => z (congrArg Value.ref q)))
  refine own_iconst C (1 : Int32) d1_49 rfl ?_
  refine own_goto C d1_50 t1_50 ?_
  exact own_retZ C d1_54 (Or.inr rfl) (by decide) (by decide) ⟨rfl, rfl⟩
set_option maxRecDepth 65536 in
set_option maxHeartbeats 40000000 in
theorem own_isint_SIGNED_16 (l : Launch) (Z : State) (a0 : Array Value) (hw : ∀ d ∈ tables_1, d.before a0 Z = true) (n0 : Nat) (h : Heap) (a : Addr) (a_SIGNED_8 : Addr) (S_SIGNED_8 : Sta Z h "com/example/channel/channel/protocol/FieldType" "SIGNED_8" "Lcom/example/channel/channel/protocol/FieldType;" (.ref a_SIGNED_8)) (a_UNSIGNED_8 : Addr) (S_UNSIGNED_8 : Sta Z h "com/example/channel/channel/protocol/FieldType" "UNSIGNED_8" "Lcom/example/channel/channel/protocol/FieldType;" (.ref a_UNSIGNED_8)) (a_SIGNED_16 : Addr) (S_SIGNED_16 : Sta Z h "com/example/channel/channel/protocol/FieldType" "SIGNED_16" "Lcom/example/channel/channel/protocol/FieldType;" (.ref a_SIGNED_16)) (a_UNSIGNED_16 : Addr) (S_UNSIGNED_16 : Sta Z h "com/example/channel/channel/protocol/FieldType" "UNSIGNED_16" "Lcom/example/channel/channel/protocol/FieldType;" (.ref a_UNSIGNED_16)) (a_SIGNED_32 : Addr) (S_SIGNED_32 : Sta Z h "com/example/channel/channel/protocol/FieldType" "SIGNED_32" "Lcom/example/channel/channel/protocol/FieldType;" (.ref a_SIGNED_32)) (a_UNSIGNED_32 : Addr) (S_UNSIGNED_32 : Sta Z h "com/example/channel/channel/protocol/FieldType" "UNSIGNED_32" "Lcom/example/channel/channel/protocol/FieldType;" (.ref a_UNSIGNED_32)) (a_SIGNED_64 : Addr) (S_SIGNED_64 : Sta Z h "com/example/channel/channel/protocol/FieldType" "SIGNED_64" "Lcom/example/channel/channel/protocol/FieldType;" (.ref a_SIGNED_64)) (q_SIGNED_8 : ¬ a = a_SIGNED_8) (q_UNSIGNED_8 : ¬ a = a_UNSIGNED_8) (q : a = a_SIGNED_16) : own_Con l Z (⟨"com/example/channel/channel/protocol/FieldType", "isInteger", "()Z"⟩ : MethodName) prog_61_method_5_code 1 (some .boolean) ({ frames := 0, cells := 0, slots := 0, locals := 0 } : Room) n0 [(.ref a)] h (fun v h' => v = some (.int (1 : Int32)) ∧ h = h') := by
  refine own_Con.mk (Ls := [.val (.ref a)]) pn1 (fun m => by first | (simp [entryFrame, mkF, argsToLocals, Value.category]; done) | rfl) ?_
  intro p e s m below meth c C
  refine own_aloadN C d1_0 rfl rfl ?_
  refine own_getS C d1_1 (hw _ (List.mem_of_getElem? (i := 60) rfl)) S_SIGNED_8 ?_
  refine own_acmpeq C d1_4 t1_4 rfl rfl (fun h' => absurd h' (fun z => q_SIGNED_8 (Value.ref.inj z))) (fun _ => ?_)
  refine own_aloadN C d1_7 rfl rfl ?_
  refine own_getS C d1_8 (hw _ (List.mem_of_getElem? (i := 61) rfl)) S_UNSIGNED_8 ?_
  refine own_acmpeq C d1_11 t1_11 rfl rfl (fun h' => absurd h' (fun z => q_UNSIGNED_8 (Value.ref.inj z))) (fun _ => ?_)
  refine own_aloadN C d1_14 rfl rfl ?_
  refine own_getS C d1_15 (hw _ (List.mem_of_getElem? (i := 62) rfl)) S_SIGNED_16 ?_
  refine own_acmpeq C d1_18 t1_18 rfl rfl (fun _ => ?_) (fun h' => absurd h' (fun z => z (congrArg Value.ref q)))
  refine own_iconst C (1 : Int32) d1_49 rfl ?_
  refine own_goto C d1_50 t1_50 ?_
  exact own_retZ C d1_54 (Or.inr rfl) (by decide) (by decide) ⟨rfl, rfl⟩
set_option maxRecDepth 65536 in
set_option maxHeartbeats 40000000 in
theorem own_isint_UNSIGNED_16 (l : Launch) (Z : State) (a0 : Array Value) (hw : ∀ d ∈ tables_1, d.before a0 Z = true) (n0 : Nat) (h : Heap) (a : Addr) (a_SIGNED_8 : Addr) (S_SIGNED_8 : Sta Z h "com/example/channel/channel/protocol/FieldType" "SIGNED_8" "Lcom/example/channel/channel/protocol/FieldType;" (.ref a_SIGNED_8)) (a_UNSIGNED_8 : Addr) (S_UNSIGNED_8 : Sta Z h "com/example/channel/channel/protocol/FieldType" "UNSIGNED_8" "Lcom/example/channel/channel/protocol/FieldType;" (.ref a_UNSIGNED_8)) (a_SIGNED_16 : Addr) (S_SIGNED_16 : Sta Z h "com/example/channel/channel/protocol/FieldType" "SIGNED_16" "Lcom/example/channel/channel/protocol/FieldType;" (.ref a_SIGNED_16)) (a_UNSIGNED_16 : Addr) (S_UNSIGNED_16 : Sta Z h "com/example/channel/channel/protocol/FieldType" "UNSIGNED_16" "Lcom/example/channel/channel/protocol/FieldType;" (.ref a_UNSIGNED_16)) (a_SIGNED_32 : Addr) (S_SIGNED_32 : Sta Z h "com/example/channel/channel/protocol/FieldType" "SIGNED_32" "Lcom/example/channel/channel/protocol/FieldType;" (.ref a_SIGNED_32)) (a_UNSIGNED_32 : Addr) (S_UNSIGNED_32 : Sta Z h "com/example/channel/channel/protocol/FieldType" "UNSIGNED_32" "Lcom/example/channel/channel/protocol/FieldType;" (.ref a_UNSIGNED_32)) (a_SIGNED_64 : Addr) (S_SIGNED_64 : Sta Z h "com/example/channel/channel/protocol/FieldType" "SIGNED_64" "Lcom/example/channel/channel/protocol/FieldType;" (.ref a_SIGNED_64)) (q_SIGNED_8 : ¬ a = a_SIGNED_8) (q_UNSIGNED_8 : ¬ a = a_UNSIGNED_8) (q_SIGNED_16 : ¬ a = a_SIGNED_16) (q : a = a_UNSIGNED_16) : own_Con l Z (⟨"com/example/channel/channel/protocol/FieldType", "isInteger", "()Z"⟩ : MethodName) prog_61_method_5_code 1 (some .boolean) ({ frames := 0, cells := 0, slots := 0, locals := 0 } : Room) n0 [(.ref a)] h (fun v h' => v = some (.int (1 : Int32)) ∧ h = h') := by
  refine own_Con.mk (Ls := [.val (.ref a)]) pn1 (fun m => by first | (simp [entryFrame, mkF, argsToLocals, Value.category]; done) | rfl) ?_
  intro p e s m below meth c C
  refine own_aloadN C d1_0 rfl rfl ?_
  refine own_getS C d1_1 (hw _ (List.mem_of_getElem? (i := 60) rfl)) S_SIGNED_8 ?_
  refine own_acmpeq C d1_4 t1_4 rfl rfl (fun h' => absurd h' (fun z => q_SIGNED_8 (Value.ref.inj z))) (fun _ => ?_)
  refine own_aloadN C d1_7 rfl rfl ?_
  refine own_getS C d1_8 (hw _ (List.mem_of_getElem? (i := 61) rfl)) S_UNSIGNED_8 ?_
  refine own_acmpeq C d1_11 t1_11 rfl rfl (fun h' => absurd h' (fun z => q_UNSIGNED_8 (Value.ref.inj z))) (fun _ => ?_)
  refine own_aloadN C d1_14 rfl rfl ?_
  refine own_getS C d1_15 (hw _ (List.mem_of_getElem? (i := 62) rfl)) S_SIGNED_16 ?_
  refine own_acmpeq C d1_18 t1_18 rfl rfl (fun h' => absurd h' (fun z => q_SIGNED_16 (Value.ref.inj z))) (fun _ => ?_)
  refine own_aloadN C d1_21 rfl rfl ?_
  refine own_getS C d1_22 (hw _ (List.mem_of_getElem? (i := 63) rfl)) S_UNSIGNED_16 ?_
  refine own_acmpeq C d1_25 t1_25 rfl rfl (fun _ => ?_) (fun h' => absurd h' (fun z => z (congrArg Value.ref q)))
  refine own_iconst C (1 : Int32) d1_49 rfl ?_
  refine own_goto C d1_50 t1_50 ?_
  exact own_retZ C d1_54 (Or.inr rfl) (by decide) (by decide) ⟨rfl, rfl⟩
set_option maxRecDepth 65536 in
set_option maxHeartbeats 40000000 in
theorem own_isint_SIGNED_32 (l : Launch) (Z : State) (a0 : Array Value) (hw : ∀ d ∈ tables_1, d.before a0 Z = true) (n0 : Nat) (h : Heap) (a : Addr) (a_SIGNED_8 : Addr) (S_SIGNED_8 : Sta Z h "com/example/channel/channel/protocol/FieldType" "SIGNED_8" "Lcom/example/channel/channel/protocol/FieldType;" (.ref a_SIGNED_8)) (a_UNSIGNED_8 : Addr) (S_UNSIGNED_8 : Sta Z h "com/example/channel/channel/protocol/FieldType" "UNSIGNED_8" "Lcom/example/channel/channel/protocol/FieldType;" (.ref a_UNSIGNED_8)) (a_SIGNED_16 : Addr) (S_SIGNED_16 : Sta Z h "com/example/channel/channel/protocol/FieldType" "SIGNED_16" "Lcom/example/channel/channel/protocol/FieldType;" (.ref a_SIGNED_16)) (a_UNSIGNED_16 : Addr) (S_UNSIGNED_16 : Sta Z h "com/example/channel/channel/protocol/FieldType" "UNSIGNED_16" "Lcom/example/channel/channel/protocol/FieldType;" (.ref a_UNSIGNED_16)) (a_SIGNED_32 : Addr) (S_SIGNED_32 : Sta Z h "com/example/channel/channel/protocol/FieldType" "SIGNED_32" "Lcom/example/channel/channel/protocol/FieldType;" (.ref a_SIGNED_32)) (a_UNSIGNED_32 : Addr) (S_UNSIGNED_32 : Sta Z h "com/example/channel/channel/protocol/FieldType" "UNSIGNED_32" "Lcom/example/channel/channel/protocol/FieldType;" (.ref a_UNSIGNED_32)) (a_SIGNED_64 : Addr) (S_SIGNED_64 : Sta Z h "com/example/channel/channel/protocol/FieldType" "SIGNED_64" "Lcom/example/channel/channel/protocol/FieldType;" (.ref a_SIGNED_64)) (q_SIGNED_8 : ¬ a = a_SIGNED_8) (q_UNSIGNED_8 : ¬ a = a_UNSIGNED_8) (q_SIGNED_16 : ¬ a = a_SIGNED_16) (q_UNSIGNED_16 : ¬ a = a_UNSIGNED_16) (q : a = a_SIGNED_32) : own_Con l Z (⟨"com/example/channel/channel/protocol/FieldType", "isInteger", "()Z"⟩ : MethodName) prog_61_method_5_code 1 (some .boolean) ({ frames := 0, cells := 0, slots := 0, locals := 0 } : Room) n0 [(.ref a)] h (fun v h' => v = some (.int (1 : Int32)) ∧ h = h') := by
  refine own_Con.mk (Ls := [.val (.ref a)]) pn1 (fun m => by first | (simp [entryFrame, mkF, argsToLocals, Value.category]; done) | rfl) ?_
  intro p e s m below meth c C
  refine own_aloadN C d1_0 rfl rfl ?_
  refine own_getS C d1_1 (hw _ (List.mem_of_getElem? (i := 60) rfl)) S_SIGNED_8 ?_
  refine own_acmpeq C d1_4 t1_4 rfl rfl (fun h' => absurd h' (fun z => q_SIGNED_8 (Value.ref.inj z))) (fun _ => ?_)
  refine own_aloadN C d1_7 rfl rfl ?_
  refine own_getS C d1_8 (hw _ (List.mem_of_getElem? (i := 61) rfl)) S_UNSIGNED_8 ?_
  refine own_acmpeq C d1_11 t1_11 rfl rfl (fun h' => absurd h' (fun z => q_UNSIGNED_8 (Value.ref.inj z))) (fun _ => ?_)
  refine own_aloadN C d1_14 rfl rfl ?_
  refine own_getS C d1_15 (hw _ (List.mem_of_getElem? (i := 62) rfl)) S_SIGNED_16 ?_
  refine own_acmpeq C d1_18 t1_18 rfl rfl (fun h' => absurd h' (fun z => q_SIGNED_16 (Value.ref.inj z))) (fun _ => ?_)
  refine own_aloadN C d1_21 rfl rfl ?_
  refine own_getS C d1_22 (hw _ (List.mem_of_getElem? (i := 63) rfl)) S_UNSIGNED_16 ?_
  refine own_acmpeq C d1_25 t1_25 rfl rfl (fun h' => absurd h' (fun z => q_UNSIGNED_16 (Value.ref.inj z))) (fun _ => ?_)
  refine own_aloadN C d1_28 rfl rfl ?_
  refine own_getS C d1_29 (hw _ (List.mem_of_getElem? (i := 64) rfl)) S_SIGNED_32 ?_
  refine own_acmpeq C d1_32 t1_32 rfl rfl (fun _ => ?_) (fun h' => absurd h' (fun z => z (congrArg Value.ref q)))
  refine own_iconst C (1 : Int32) d1_49 rfl ?_
  refine own_goto C d1_50 t1_50 ?_
  exact own_retZ C d1_54 (Or.inr rfl) (by decide) (by decide) ⟨rfl, rfl⟩
set_option maxRecDepth 65536 in
set_option maxHeartbeats 40000000 in
theorem own_isint_UNSIGNED_32 (l : Launch) (Z : State) (a0 : Array Value) (hw : ∀ d ∈ tables_1, d.before a0 Z = true) (n0 : Nat) (h : Heap) (a : Addr) (a_SIGNED_8 : Addr) (S_SIGNED_8 : Sta Z h "com/example/channel/channel/protocol/FieldType" "SIGNED_8" "Lcom/example/channel/channel/protocol/FieldType;" (.ref a_SIGNED_8)) (a_UNSIGNED_8 : Addr) (S_UNSIGNED_8 : Sta Z h "com/example/channel/channel/protocol/FieldType" "UNSIGNED_8" "Lcom/example/channel/channel/protocol/FieldType;" (.ref a_UNSIGNED_8)) (a_SIGNED_16 : Addr) (S_SIGNED_16 : Sta Z h "com/example/channel/channel/protocol/FieldType" "SIGNED_16" "Lcom/example/channel/channel/protocol/FieldType;" (.ref a_SIGNED_16)) (a_UNSIGNED_16 : Addr) (S_UNSIGNED_16 : Sta Z h "com/example/channel/channel/protocol/FieldType" "UNSIGNED_16" "Lcom/example/channel/channel/protocol/FieldType;" (.ref a_UNSIGNED_16)) (a_SIGNED_32 : Addr) (S_SIGNED_32 : Sta Z h "com/example/channel/channel/protocol/FieldType" "SIGNED_32" "Lcom/example/channel/channel/protocol/FieldType;" (.ref a_SIGNED_32)) (a_UNSIGNED_32 : Addr) (S_UNSIGNED_32 : Sta Z h "com/example/channel/channel/protocol/FieldType" "UNSIGNED_32" "Lcom/example/channel/channel/protocol/FieldType;" (.ref a_UNSIGNED_32)) (a_SIGNED_64 : Addr) (S_SIGNED_64 : Sta Z h "com/example/channel/channel/protocol/FieldType" "SIGNED_64" "Lcom/example/channel/channel/protocol/FieldType;" (.ref a_SIGNED_64)) (q_SIGNED_8 : ¬ a = a_SIGNED_8) (q_UNSIGNED_8 : ¬ a = a_UNSIGNED_8) (q_SIGNED_16 : ¬ a = a_SIGNED_16) (q_UNSIGNED_16 : ¬ a = a_UNSIGNED_16) (q_SIGNED_32 : ¬ a = a_SIGNED_32) (q : a = a_UNSIGNED_32) : own_Con l Z (⟨"com/example/channel/channel/protocol/FieldType", "isInteger", "()Z"⟩ : MethodName) prog_61_method_5_code 1 (some .boolean) ({ frames := 0, cells := 0, slots := 0, locals := 0 } : Room) n0 [(.ref a)] h (fun v h' => v = some (.int (1 : Int32)) ∧ h = h') := by
  refine own_Con.mk (Ls := [.val (.ref a)]) pn1 (fun m => by first | (simp [entryFrame, mkF, argsToLocals, Value.category]; done) | rfl) ?_
  intro p e s m below meth c C
  refine own_aloadN C d1_0 rfl rfl ?_
  refine own_getS C d1_1 (hw _ (List.mem_of_getElem? (i := 60) rfl)) S_SIGNED_8 ?_
  refine own_acmpeq C d1_4 t1_4 rfl rfl (fun h' => absurd h' (fun z => q_SIGNED_8 (Value.ref.inj z))) (fun _ => ?_)
  refine own_aloadN C d1_7 rfl rfl ?_
  refine own_getS C d1_8 (hw _ (List.mem_of_getElem? (i := 61) rfl)) S_UNSIGNED_8 ?_
  refine own_acmpeq C d1_11 t1_11 rfl rfl (fun h' => absurd h' (fun z => q_UNSIGNED_8 (Value.ref.inj z))) (fun _ => ?_)
  refine own_aloadN C d1_14 rfl rfl ?_
  refine own_getS C d1_15 (hw _ (List.mem_of_getElem? (i := 62) rfl)) S_SIGNED_16 ?_
  refine own_acmpeq C d1_18 t1_18 rfl rfl (fun h' => absurd h' (fun z => q_SIGNED_16 (Value.ref.inj z))) (fun _ => ?_)
  refine own_aloadN C d1_21 rfl rfl ?_
  refine own_getS C d1_22 (hw _ (List.mem_of_getElem? (i := 63) rfl)) S_UNSIGNED_16 ?_
  refine own_acmpeq C d1_25 t1_25 rfl rfl (fun h' => absurd h' (fun z => q_UNSIGNED_16 (Value.ref.inj z))) (fun _ => ?_)
  refine own_aloadN C d1_28 rfl rfl ?_
  refine own_getS C d1_29 (hw _ (List.mem_of_getElem? (i := 64) rfl)) S_SIGNED_32 ?_
  refine own_acmpeq C d1_32 t1_32 rfl rfl (fun h' => absurd h' (fun z => q_SIGNED_32 (Value.ref.inj z))) (fun _ => ?_)
  refine own_aloadN C d1_35 rfl rfl ?_
  refine own_getS C d1_36 (hw _ (List.mem_of_getElem? (i := 65) rfl)) S_UNSIGNED_32 ?_
  refine own_acmpeq C d1_39 t1_39 rfl rfl (fun _ => ?_) (fun h' => absurd h' (fun z => z (congrArg Value.ref q)))
  refine own_iconst C (1 : Int32) d1_49 rfl ?_
  refine own_goto C d1_50 t1_50 ?_
  exact own_retZ C d1_54 (Or.inr rfl) (by decide) (by decide) ⟨rfl, rfl⟩
set_option maxRecDepth 65536 in
set_option maxHeartbeats 40000000 in
theorem own_isint_SIGNED_64 (l : Launch) (Z : State) (a0 : Array Value) (hw : ∀ d ∈ tables_1, d.before a0 Z = true) (n0 : Nat) (h : Heap) (a : Addr) (a_SIGNED_8 : Addr) (S_SIGNED_8 : Sta Z h "com/example/channel/channel/protocol/FieldType" "SIGNED_8" "Lcom/example/channel/channel/protocol/FieldType;" (.ref a_SIGNED_8)) (a_UNSIGNED_8 : Addr) (S_UNSIGNED_8 : Sta Z h "com/example/channel/channel/protocol/FieldType" "UNSIGNED_8" "Lcom/example/channel/channel/protocol/FieldType;" (.ref a_UNSIGNED_8)) (a_SIGNED_16 : Addr) (S_SIGNED_16 : Sta Z h "com/example/channel/channel/protocol/FieldType" "SIGNED_16" "Lcom/example/channel/channel/protocol/FieldType;" (.ref a_SIGNED_16)) (a_UNSIGNED_16 : Addr) (S_UNSIGNED_16 : Sta Z h "com/example/channel/channel/protocol/FieldType" "UNSIGNED_16" "Lcom/example/channel/channel/protocol/FieldType;" (.ref a_UNSIGNED_16)) (a_SIGNED_32 : Addr) (S_SIGNED_32 : Sta Z h "com/example/channel/channel/protocol/FieldType" "SIGNED_32" "Lcom/example/channel/channel/protocol/FieldType;" (.ref a_SIGNED_32)) (a_UNSIGNED_32 : Addr) (S_UNSIGNED_32 : Sta Z h "com/example/channel/channel/protocol/FieldType" "UNSIGNED_32" "Lcom/example/channel/channel/protocol/FieldType;" (.ref a_UNSIGNED_32)) (a_SIGNED_64 : Addr) (S_SIGNED_64 : Sta Z h "com/example/channel/channel/protocol/FieldType" "SIGNED_64" "Lcom/example/channel/channel/protocol/FieldType;" (.ref a_SIGNED_64)) (q_SIGNED_8 : ¬ a = a_SIGNED_8) (q_UNSIGNED_8 : ¬ a = a_UNSIGNED_8) (q_SIGNED_16 : ¬ a = a_SIGNED_16) (q_UNSIGNED_16 : ¬ a = a_UNSIGNED_16) (q_SIGNED_32 : ¬ a = a_SIGNED_32) (q_UNSIGNED_32 : ¬ a = a_UNSIGNED_32) (q : a = a_SIGNED_64) : own_Con l Z (⟨"com/example/channel/channel/protocol/FieldType", "isInteger", "()Z"⟩ : MethodName) prog_61_method_5_code 1 (some .boolean) ({ frames := 0, cells := 0, slots := 0, locals := 0 } : Room) n0 [(.ref a)] h (fun v h' => v = some (.int (1 : Int32)) ∧ h = h') := by
  refine own_Con.mk (Ls := [.val (.ref a)]) pn1 (fun m => by first | (simp [entryFrame, mkF, argsToLocals, Value.category]; done) | rfl) ?_
  intro p e s m below meth c C
  refine own_aloadN C d1_0 rfl rfl ?_
  refine own_getS C d1_1 (hw _ (List.mem_of_getElem? (i := 60) rfl)) S_SIGNED_8 ?_
  refine own_acmpeq C d1_4 t1_4 rfl rfl (fun h' => absurd h' (fun z => q_SIGNED_8 (Value.ref.inj z))) (fun _ => ?_)
  refine own_aloadN C d1_7 rfl rfl ?_
  refine own_getS C d1_8 (hw _ (List.mem_of_getElem? (i := 61) rfl)) S_UNSIGNED_8 ?_
  refine own_acmpeq C d1_11 t1_11 rfl rfl (fun h' => absurd h' (fun z => q_UNSIGNED_8 (Value.ref.inj z))) (fun _ => ?_)
  refine own_aloadN C d1_14 rfl rfl ?_
  refine own_getS C d1_15 (hw _ (List.mem_of_getElem? (i := 62) rfl)) S_SIGNED_16 ?_
  refine own_acmpeq C d1_18 t1_18 rfl rfl (fun h' => absurd h' (fun z => q_SIGNED_16 (Value.ref.inj z))) (fun _ => ?_)
  refine own_aloadN C d1_21 rfl rfl ?_
  refine own_getS C d1_22 (hw _ (List.mem_of_getElem? (i := 63) rfl)) S_UNSIGNED_16 ?_
  refine own_acmpeq C d1_25 t1_25 rfl rfl (fun h' => absurd h' (fun z => q_UNSIGNED_16 (Value.ref.inj z))) (fun _ => ?_)
  refine own_aloadN C d1_28 rfl rfl ?_
  refine own_getS C d1_29 (hw _ (List.mem_of_getElem? (i := 64) rfl)) S_SIGNED_32 ?_
  refine own_acmpeq C d1_32 t1_32 rfl rfl (fun h' => absurd h' (fun z => q_SIGNED_32 (Value.ref.inj z))) (fun _ => ?_)
  refine own_aloadN C d1_35 rfl rfl ?_
  refine own_getS C d1_36 (hw _ (List.mem_of_getElem? (i := 65) rfl)) S_UNSIGNED_32 ?_
  refine own_acmpeq C d1_39 t1_39 rfl rfl (fun h' => absurd h' (fun z => q_UNSIGNED_32 (Value.ref.inj z))) (fun _ => ?_)
  refine own_aloadN C d1_42 rfl rfl ?_
  refine own_getS C d1_43 (hw _ (List.mem_of_getElem? (i := 66) rfl)) S_SIGNED_64 ?_
  refine own_acmpne C d1_46 t1_46 rfl rfl (fun h' => absurd h' (fun z => z (congrArg Value.ref q))) (fun _ => ?_)
  refine own_iconst C (1 : Int32) d1_49 rfl ?_
  refine own_goto C d1_50 t1_50 ?_
  exact own_retZ C d1_54 (Or.inr rfl) (by decide) (by decide) ⟨rfl, rfl⟩
set_option maxRecDepth 65536 in
set_option maxHeartbeats 40000000 in
theorem own_isint_no (l : Launch) (Z : State) (a0 : Array Value) (hw : ∀ d ∈ tables_1, d.before a0 Z = true) (n0 : Nat) (h : Heap) (a : Addr) (a_SIGNED_8 : Addr) (S_SIGNED_8 : Sta Z h "com/example/channel/channel/protocol/FieldType" "SIGNED_8" "Lcom/example/channel/channel/protocol/FieldType;" (.ref a_SIGNED_8)) (a_UNSIGNED_8 : Addr) (S_UNSIGNED_8 : Sta Z h "com/example/channel/channel/protocol/FieldType" "UNSIGNED_8" "Lcom/example/channel/channel/protocol/FieldType;" (.ref a_UNSIGNED_8)) (a_SIGNED_16 : Addr) (S_SIGNED_16 : Sta Z h "com/example/channel/channel/protocol/FieldType" "SIGNED_16" "Lcom/example/channel/channel/protocol/FieldType;" (.ref a_SIGNED_16)) (a_UNSIGNED_16 : Addr) (S_UNSIGNED_16 : Sta Z h "com/example/channel/channel/protocol/FieldType" "UNSIGNED_16" "Lcom/example/channel/channel/protocol/FieldType;" (.ref a_UNSIGNED_16)) (a_SIGNED_32 : Addr) (S_SIGNED_32 : Sta Z h "com/example/channel/channel/protocol/FieldType" "SIGNED_32" "Lcom/example/channel/channel/protocol/FieldType;" (.ref a_SIGNED_32)) (a_UNSIGNED_32 : Addr) (S_UNSIGNED_32 : Sta Z h "com/example/channel/channel/protocol/FieldType" "UNSIGNED_32" "Lcom/example/channel/channel/protocol/FieldType;" (.ref a_UNSIGNED_32)) (a_SIGNED_64 : Addr) (S_SIGNED_64 : Sta Z h "com/example/channel/channel/protocol/FieldType" "SIGNED_64" "Lcom/example/channel/channel/protocol/FieldType;" (.ref a_SIGNED_64)) (q_SIGNED_8 : ¬ a = a_SIGNED_8) (q_UNSIGNED_8 : ¬ a = a_UNSIGNED_8) (q_SIGNED_16 : ¬ a = a_SIGNED_16) (q_UNSIGNED_16 : ¬ a = a_UNSIGNED_16) (q_SIGNED_32 : ¬ a = a_SIGNED_32) (q_UNSIGNED_32 : ¬ a = a_UNSIGNED_32) (q_SIGNED_64 : ¬ a = a_SIGNED_64) : own_Con l Z (⟨"com/example/channel/channel/protocol/FieldType", "isInteger", "()Z"⟩ : MethodName) prog_61_method_5_code 1 (some .boolean) ({ frames := 0, cells := 0, slots := 0, locals := 0 } : Room) n0 [(.ref a)] h (fun v h' => v = some (.int (0 : Int32)) ∧ h = h') := by
  refine own_Con.mk (Ls := [.val (.ref a)]) pn1 (fun m => by first | (simp [entryFrame, mkF, argsToLocals, Value.category]; done) | rfl) ?_
  intro p e s m below meth c C
  refine own_aloadN C d1_0 rfl rfl ?_
  refine own_getS C d1_1 (hw _ (List.mem_of_getElem? (i := 60) rfl)) S_SIGNED_8 ?_
  refine own_acmpeq C d1_4 t1_4 rfl rfl (fun h' => absurd h' (fun z => q_SIGNED_8 (Value.ref.inj z))) (fun _ => ?_)
  refine own_aloadN C d1_7 rfl rfl ?_
  refine own_getS C d1_8 (hw _ (List.mem_of_getElem? (i := 61) rfl)) S_UNSIGNED_8 ?_
  refine own_acmpeq C d1_11 t1_11 rfl rfl (fun h' => absurd h' (fun z => q_UNSIGNED_8 (Value.ref.inj z))) (fun _ => ?_)
  refine own_aloadN C d1_14 rfl rfl ?_
  refine own_getS C d1_15 (hw _ (List.mem_of_getElem? (i := 62) rfl)) S_SIGNED_16 ?_
  refine own_acmpeq C d1_18 t1_18 rfl rfl (fun h' => absurd h' (fun z => q_SIGNED_16 (Value.ref.inj z))) (fun _ => ?_)
  refine own_aloadN C d1_21 rfl rfl ?_
  refine own_getS C d1_22 (hw _ (List.mem_of_getElem? (i := 63) rfl)) S_UNSIGNED_16 ?_
  refine own_acmpeq C d1_25 t1_25 rfl rfl (fun h' => absurd h' (fun z => q_UNSIGNED_16 (Value.ref.inj z))) (fun _ => ?_)
  refine own_aloadN C d1_28 rfl rfl ?_
  refine own_getS C d1_29 (hw _ (List.mem_of_getElem? (i := 64) rfl)) S_SIGNED_32 ?_
  refine own_acmpeq C d1_32 t1_32 rfl rfl (fun h' => absurd h' (fun z => q_SIGNED_32 (Value.ref.inj z))) (fun _ => ?_)
  refine own_aloadN C d1_35 rfl rfl ?_
  refine own_getS C d1_36 (hw _ (List.mem_of_getElem? (i := 65) rfl)) S_UNSIGNED_32 ?_
  refine own_acmpeq C d1_39 t1_39 rfl rfl (fun h' => absurd h' (fun z => q_UNSIGNED_32 (Value.ref.inj z))) (fun _ => ?_)
  refine own_aloadN C d1_42 rfl rfl ?_
  refine own_getS C d1_43 (hw _ (List.mem_of_getElem? (i := 66) rfl)) S_SIGNED_64 ?_
  refine own_acmpne C d1_46 t1_46 rfl rfl (fun _ => ?_) (fun h' => absurd h' (fun z => q_SIGNED_64 (Value.ref.inj z)))
  refine own_iconst C (0 : Int32) d1_53 rfl ?_
  exact own_retZ C d1_54 (Or.inl rfl) (by decide) (by decide) ⟨rfl, rfl⟩
theorem own_seventeen (x : Int32) : (x &&& 2147483647) % 17 = 0 ∨ (x &&& 2147483647) % 17 = 1 ∨ (x &&& 2147483647) % 17 = 2 ∨ (x &&& 2147483647) % 17 = 3 ∨ (x &&& 2147483647) % 17 = 4 ∨ (x &&& 2147483647) % 17 = 5 ∨ (x &&& 2147483647) % 17 = 6 ∨ (x &&& 2147483647) % 17 = 7 ∨ (x &&& 2147483647) % 17 = 8 ∨ (x &&& 2147483647) % 17 = 9 ∨ (x &&& 2147483647) % 17 = 10 ∨ (x &&& 2147483647) % 17 = 11 ∨ (x &&& 2147483647) % 17 = 12 ∨ (x &&& 2147483647) % 17 = 13 ∨ (x &&& 2147483647) % 17 = 14 ∨ (x &&& 2147483647) % 17 = 15 ∨ (x &&& 2147483647) % 17 = 16 := by
  have h1 := (c_andS x 2147483647).2.2 (by decide)
  have h2 := (c_irem (x &&& 2147483647) 17 17 rfl).1 h1
  simp only [← Int32.toInt_inj]
  have e0 : (0 : Int32).toInt = 0 := rfl
  have e1 : (1 : Int32).toInt = 1 := rfl
  have e2 : (2 : Int32).toInt = 2 := rfl
  have e3 : (3 : Int32).toInt = 3 := rfl
  have e4 : (4 : Int32).toInt = 4 := rfl
  have e5 : (5 : Int32).toInt = 5 := rfl
  have e6 : (6 : Int32).toInt = 6 := rfl
  have e7 : (7 : Int32).toInt = 7 := rfl
  have e8 : (8 : Int32).toInt = 8 := rfl
  have e9 : (9 : Int32).toInt = 9 := rfl
  have e10 : (10 : Int32).toInt = 10 := rfl
  have e11 : (11 : Int32).toInt = 11 := rfl
  have e12 : (12 : Int32).toInt = 12 := rfl
  have e13 : (13 : Int32).toInt = 13 := rfl
  have e14 : (14 : Int32).toInt = 14 := rfl
  have e15 : (15 : Int32).toInt = 15 := rfl
  have e16 : (16 : Int32).toInt = 16 := rfl
  rw [h2, e0, e1, e2, e3, e4, e5, e6, e7, e8, e9, e10, e11, e12, e13, e14, e15, e16]
  omega
set_option maxRecDepth 65536 in
set_option maxHeartbeats 40000000 in
theorem own_law (l : Launch) (Z : State) (a0 : Array Value) (hw : ∀ d ∈ tables_1, d.before a0 Z = true) (n0 : Nat) (h : Heap) (i0 : Int32) (Z0 : n0 ≤ h.size) (a_BOOLEAN : Addr) (S_BOOLEAN : Sta Z h "com/example/channel/channel/protocol/FieldType" "BOOLEAN" "Lcom/example/channel/channel/protocol/FieldType;" (.ref a_BOOLEAN)) (E_BOOLEAN : Exa Z h a_BOOLEAN "com/example/channel/channel/protocol/FieldType$1") (a_SIGNED_8 : Addr) (S_SIGNED_8 : Sta Z h "com/example/channel/channel/protocol/FieldType" "SIGNED_8" "Lcom/example/channel/channel/protocol/FieldType;" (.ref a_SIGNED_8)) (E_SIGNED_8 : Exa Z h a_SIGNED_8 "com/example/channel/channel/protocol/FieldType$2") (a_UNSIGNED_8 : Addr) (S_UNSIGNED_8 : Sta Z h "com/example/channel/channel/protocol/FieldType" "UNSIGNED_8" "Lcom/example/channel/channel/protocol/FieldType;" (.ref a_UNSIGNED_8)) (E_UNSIGNED_8 : Exa Z h a_UNSIGNED_8 "com/example/channel/channel/protocol/FieldType$3") (a_SIGNED_16 : Addr) (S_SIGNED_16 : Sta Z h "com/example/channel/channel/protocol/FieldType" "SIGNED_16" "Lcom/example/channel/channel/protocol/FieldType;" (.ref a_SIGNED_16)) (E_SIGNED_16 : Exa Z h a_SIGNED_16 "com/example/channel/channel/protocol/FieldType$4") (a_UNSIGNED_16 : Addr) (S_UNSIGNED_16 : Sta Z h "com/example/channel/channel/protocol/FieldType" "UNSIGNED_16" "Lcom/example/channel/channel/protocol/FieldType;" (.ref a_UNSIGNED_16)) (E_UNSIGNED_16 : Exa Z h a_UNSIGNED_16 "com/example/channel/channel/protocol/FieldType$5") (a_SIGNED_32 : Addr) (S_SIGNED_32 : Sta Z h "com/example/channel/channel/protocol/FieldType" "SIGNED_32" "Lcom/example/channel/channel/protocol/FieldType;" (.ref a_SIGNED_32)) (E_SIGNED_32 : Exa Z h a_SIGNED_32 "com/example/channel/channel/protocol/FieldType$6") (a_UNSIGNED_32 : Addr) (S_UNSIGNED_32 : Sta Z h "com/example/channel/channel/protocol/FieldType" "UNSIGNED_32" "Lcom/example/channel/channel/protocol/FieldType;" (.ref a_UNSIGNED_32)) (E_UNSIGNED_32 : Exa Z h a_UNSIGNED_32 "com/example/channel/channel/protocol/FieldType$7") (a_SIGNED_64 : Addr) (S_SIGNED_64 : Sta Z h "com/example/channel/channel/protocol/FieldType" "SIGNED_64" "Lcom/example/channel/channel/protocol/FieldType;" (.ref a_SIGNED_64)) (E_SIGNED_64 : Exa Z h a_SIGNED_64 "com/example/channel/channel/protocol/FieldType$8") (a_FLOAT : Addr) (S_FLOAT : Sta Z h "com/example/channel/channel/protocol/FieldType" "FLOAT" "Lcom/example/channel/channel/protocol/FieldType;" (.ref a_FLOAT)) (E_FLOAT : Exa Z h a_FLOAT "com/example/channel/channel/protocol/FieldType$9") (a_DOUBLE : Addr) (S_DOUBLE : Sta Z h "com/example/channel/channel/protocol/FieldType" "DOUBLE" "Lcom/example/channel/channel/protocol/FieldType;" (.ref a_DOUBLE)) (E_DOUBLE : Exa Z h a_DOUBLE "com/example/channel/channel/protocol/FieldType$10") (a_DECIMAL : Addr) (S_DECIMAL : Sta Z h "com/example/channel/channel/protocol/FieldType" "DECIMAL" "Lcom/example/channel/channel/protocol/FieldType;" (.ref a_DECIMAL)) (E_DECIMAL : Exa Z h a_DECIMAL "com/example/channel/channel/protocol/FieldType$11") (a_LONG_STRING : Addr) (S_LONG_STRING : Sta Z h "com/example/channel/channel/protocol/FieldType" "LONG_STRING" "Lcom/example/channel/channel/protocol/FieldType;" (.ref a_LONG_STRING)) (E_LONG_STRING : Exa Z h a_LONG_STRING "com/example/channel/channel/protocol/FieldType$12") (a_BYTES : Addr) (S_BYTES : Sta Z h "com/example/channel/channel/protocol/FieldType" "BYTES" "Lcom/example/channel/channel/protocol/FieldType;" (.ref a_BYTES)) (E_BYTES : Exa Z h a_BYTES "com/example/channel/channel/protocol/FieldType$13") (a_ARRAY : Addr) (S_ARRAY : Sta Z h "com/example/channel/channel/protocol/FieldType" "ARRAY" "Lcom/example/channel/channel/protocol/FieldType;" (.ref a_ARRAY)) (E_ARRAY : Exa Z h a_ARRAY "com/example/channel/channel/protocol/FieldType$14") (a_TIMESTAMP : Addr) (S_TIMESTAMP : Sta Z h "com/example/channel/channel/protocol/FieldType" "TIMESTAMP" "Lcom/example/channel/channel/protocol/FieldType;" (.ref a_TIMESTAMP)) (E_TIMESTAMP : Exa Z h a_TIMESTAMP "com/example/channel/channel/protocol/FieldType$15") (a_TABLE : Addr) (S_TABLE : Sta Z h "com/example/channel/channel/protocol/FieldType" "TABLE" "Lcom/example/channel/channel/protocol/FieldType;" (.ref a_TABLE)) (E_TABLE : Exa Z h a_TABLE "com/example/channel/channel/protocol/FieldType$16") (a_VOID : Addr) (S_VOID : Sta Z h "com/example/channel/channel/protocol/FieldType" "VOID" "Lcom/example/channel/channel/protocol/FieldType;" (.ref a_VOID)) (E_VOID : Exa Z h a_VOID "com/example/channel/channel/protocol/FieldType$17")  : own_Con l Z x code maxLocals ret room_1 n0 [(.int i0)] h (fun v h' => v = some (.int (1 : Int32))) := by
  refine own_Con.mk (Ls := [.val (.int i0), .unset, .unset, .unset]) pn0 (fun m => by first | (simp [entryFrame, mkF, argsToLocals, Value.category, maxLocals]; done) | rfl) ?_
  intro p e s m below meth c C
  refine own_bipush C (17 : Int32) d0_0 rfl ?_
  refine own_newA C d0_2 (hw _ (List.mem_of_getElem? (i := 0) rfl)) (hw _ (List.mem_of_getElem? (i := 1) rfl)) (by decide) 17 rfl (by decide) (by decide) (by decide) ?_
  intro h0 b cA eb E0 A0 O1
  have Y0 := E0
  have Zb : n0 ≤ b := by rw [eb]; exact Z0
  refine own_dup C d0_5 rfl ?_
  refine own_iconst C (0 : Int32) d0_6 rfl ?_
  refine own_getS C d0_7 (hw _ (List.mem_of_getElem? (i := 2) rfl)) (S_BOOLEAN.ext Y0) ?_
  refine own_stA C d0_10 A0 O1 (Ins.of_exa (E_BOOLEAN.ext Y0) (hw _ (List.mem_of_getElem? (i := 5) rfl))) 0 (by decide) rfl (by simp) Zb ?_
  intro h1 W1 A1
  have Y1 := own_ext_wr Y0 W1 (Nat.le_of_eq eb.symm)
  refine own_dup C d0_11 rfl ?_
  refine own_iconst C (1 : Int32) d0_12 rfl ?_
  refine own_getS C d0_13 (hw _ (List.mem_of_getElem? (i := 6) rfl)) (S_SIGNED_8.ext Y1) ?_
  refine own_stA C d0_16 A1 O1 (Ins.of_exa (E_SIGNED_8.ext Y1) (hw _ (List.mem_of_getElem? (i := 8) rfl))) 1 (by decide) rfl (by simp) Zb ?_
  intro h2 W2 A2
  have Y2 := own_ext_wr Y1 W2 (Nat.le_of_eq eb.symm)
  refine own_dup C d0_17 rfl ?_
  refine own_iconst C (2 : Int32) d0_18 rfl ?_
  refine own_getS C d0_19 (hw _ (List.mem_of_getElem? (i := 9) rfl)) (S_UNSIGNED_8.ext Y2) ?_
  refine own_stA C d0_22 A2 O1 (Ins.of_exa (E_UNSIGNED_8.ext Y2) (hw _ (List.mem_of_getElem? (i := 11) rfl))) 2 (by decide) rfl (by simp) Zb ?_
  intro h3 W3 A3
  have Y3 := own_ext_wr Y2 W3 (Nat.le_of_eq eb.symm)
  refine own_dup C d0_23 rfl ?_
  refine own_iconst C (3 : Int32) d0_24 rfl ?_
  refine own_getS C d0_25 (hw _ (List.mem_of_getElem? (i := 12) rfl)) (S_SIGNED_16.ext Y3) ?_
  refine own_stA C d0_28 A3 O1 (Ins.of_exa (E_SIGNED_16.ext Y3) (hw _ (List.mem_of_getElem? (i := 14) rfl))) 3 (by decide) rfl (by simp) Zb ?_
  intro h4 W4 A4
  have Y4 := own_ext_wr Y3 W4 (Nat.le_of_eq eb.symm)
  refine own_dup C d0_29 rfl ?_
  refine own_iconst C (4 : Int32) d0_30 rfl ?_
  refine own_getS C d0_31 (hw _ (List.mem_of_getElem? (i := 15) rfl)) (S_UNSIGNED_16.ext Y4) ?_
  refine own_stA C d0_34 A4 O1 (Ins.of_exa (E_UNSIGNED_16.ext Y4) (hw _ (List.mem_of_getElem? (i := 17) rfl))) 4 (by decide) rfl (by simp) Zb ?_
  intro h5 W5 A5
  have Y5 := own_ext_wr Y4 W5 (Nat.le_of_eq eb.symm)
  refine own_dup C d0_35 rfl ?_
  refine own_iconst C (5 : Int32) d0_36 rfl ?_
  refine own_getS C d0_37 (hw _ (List.mem_of_getElem? (i := 18) rfl)) (S_SIGNED_32.ext Y5) ?_
  refine own_stA C d0_40 A5 O1 (Ins.of_exa (E_SIGNED_32.ext Y5) (hw _ (List.mem_of_getElem? (i := 20) rfl))) 5 (by decide) rfl (by simp) Zb ?_
  intro h6 W6 A6
  have Y6 := own_ext_wr Y5 W6 (Nat.le_of_eq eb.symm)
  refine own_dup C d0_41 rfl ?_
  refine own_bipush C (6 : Int32) d0_42 rfl ?_
  refine own_getS C d0_44 (hw _ (List.mem_of_getElem? (i := 21) rfl)) (S_UNSIGNED_32.ext Y6) ?_
  refine own_stA C d0_47 A6 O1 (Ins.of_exa (E_UNSIGNED_32.ext Y6) (hw _ (List.mem_of_getElem? (i := 23) rfl))) 6 (by decide) rfl (by simp) Zb ?_
  intro h7 W7 A7
  have Y7 := own_ext_wr Y6 W7 (Nat.le_of_eq eb.symm)
  refine own_dup C d0_48 rfl ?_
  refine own_bipush C (7 : Int32) d0_49 rfl ?_
  refine own_getS C d0_51 (hw _ (List.mem_of_getElem? (i := 24) rfl)) (S_SIGNED_64.ext Y7) ?_
  refine own_stA C d0_54 A7 O1 (Ins.of_exa (E_SIGNED_64.ext Y7) (hw _ (List.mem_of_getElem? (i := 26) rfl))) 7 (by decide) rfl (by simp) Zb ?_
  intro h8 W8 A8
  have Y8 := own_ext_wr Y7 W8 (Nat.le_of_eq eb.symm)
  refine own_dup C d0_55 rfl ?_
  refine own_bipush C (8 : Int32) d0_56 rfl ?_
  refine own_getS C d0_58 (hw _ (List.mem_of_getElem? (i := 27) rfl)) (S_FLOAT.ext Y8) ?_
  refine own_stA C d0_61 A8 O1 (Ins.of_exa (E_FLOAT.ext Y8) (hw _ (List.mem_of_getElem? (i := 29) rfl))) 8 (by decide) rfl (by simp) Zb ?_
  intro h9 W9 A9
  have Y9 := own_ext_wr Y8 W9 (Nat.le_of_eq eb.symm)
  refine own_dup C d0_62 rfl ?_
  refine own_bipush C (9 : Int32) d0_63 rfl ?_
  refine own_getS C d0_65 (hw _ (List.mem_of_getElem? (i := 30) rfl)) (S_DOUBLE.ext Y9) ?_
  refine own_stA C d0_68 A9 O1 (Ins.of_exa (E_DOUBLE.ext Y9) (hw _ (List.mem_of_getElem? (i := 32) rfl))) 9 (by decide) rfl (by simp) Zb ?_
  intro h10 W10 A10
  have Y10 := own_ext_wr Y9 W10 (Nat.le_of_eq eb.symm)
  refine own_dup C d0_69 rfl ?_
  refine own_bipush C (10 : Int32) d0_70 rfl ?_
  refine own_getS C d0_72 (hw _ (List.mem_of_getElem? (i := 33) rfl)) (S_DECIMAL.ext Y10) ?_
  refine own_stA C d0_75 A10 O1 (Ins.of_exa (E_DECIMAL.ext Y10) (hw _ (List.mem_of_getElem? (i := 35) rfl))) 10 (by decide) rfl (by simp) Zb ?_
  intro h11 W11 A11
  have Y11 := own_ext_wr Y10 W11 (Nat.le_of_eq eb.symm)
  refine own_dup C d0_76 rfl ?_
  refine own_bipush C (11 : Int32) d0_77 rfl ?_
  refine own_getS C d0_79 (hw _ (List.mem_of_getElem? (i := 36) rfl)) (S_LONG_STRING.ext Y11) ?_
  refine own_stA C d0_82 A11 O1 (Ins.of_exa (E_LONG_STRING.ext Y11) (hw _ (List.mem_of_getElem? (i := 38) rfl))) 11 (by decide) rfl (by simp) Zb ?_
  intro h12 W12 A12
  have Y12 := own_ext_wr Y11 W12 (Nat.le_of_eq eb.symm)
  refine own_dup C d0_83 rfl ?_
  refine own_bipush C (12 : Int32) d0_84 rfl ?_
  refine own_getS C d0_86 (hw _ (List.mem_of_getElem? (i := 39) rfl)) (S_BYTES.ext Y12) ?_
  refine own_stA C d0_89 A12 O1 (Ins.of_exa (E_BYTES.ext Y12) (hw _ (List.mem_of_getElem? (i := 41) rfl))) 12 (by decide) rfl (by simp) Zb ?_
  intro h13 W13 A13
  have Y13 := own_ext_wr Y12 W13 (Nat.le_of_eq eb.symm)
  refine own_dup C d0_90 rfl ?_
  refine own_bipush C (13 : Int32) d0_91 rfl ?_
  refine own_getS C d0_93 (hw _ (List.mem_of_getElem? (i := 42) rfl)) (S_ARRAY.ext Y13) ?_
  refine own_stA C d0_96 A13 O1 (Ins.of_exa (E_ARRAY.ext Y13) (hw _ (List.mem_of_getElem? (i := 44) rfl))) 13 (by decide) rfl (by simp) Zb ?_
  intro h14 W14 A14
  have Y14 := own_ext_wr Y13 W14 (Nat.le_of_eq eb.symm)
  refine own_dup C d0_97 rfl ?_
  refine own_bipush C (14 : Int32) d0_98 rfl ?_
  refine own_getS C d0_100 (hw _ (List.mem_of_getElem? (i := 45) rfl)) (S_TIMESTAMP.ext Y14) ?_
  refine own_stA C d0_103 A14 O1 (Ins.of_exa (E_TIMESTAMP.ext Y14) (hw _ (List.mem_of_getElem? (i := 47) rfl))) 14 (by decide) rfl (by simp) Zb ?_
  intro h15 W15 A15
  have Y15 := own_ext_wr Y14 W15 (Nat.le_of_eq eb.symm)
  refine own_dup C d0_104 rfl ?_
  refine own_bipush C (15 : Int32) d0_105 rfl ?_
  refine own_getS C d0_107 (hw _ (List.mem_of_getElem? (i := 48) rfl)) (S_TABLE.ext Y15) ?_
  refine own_stA C d0_110 A15 O1 (Ins.of_exa (E_TABLE.ext Y15) (hw _ (List.mem_of_getElem? (i := 50) rfl))) 15 (by decide) rfl (by simp) Zb ?_
  intro h16 W16 A16
  have Y16 := own_ext_wr Y15 W16 (Nat.le_of_eq eb.symm)
  refine own_dup C d0_111 rfl ?_
  refine own_bipush C (16 : Int32) d0_112 rfl ?_
  refine own_getS C d0_114 (hw _ (List.mem_of_getElem? (i := 51) rfl)) (S_VOID.ext Y16) ?_
  refine own_stA C d0_117 A16 O1 (Ins.of_exa (E_VOID.ext Y16) (hw _ (List.mem_of_getElem? (i := 53) rfl))) 16 (by decide) rfl (by simp) Zb ?_
  intro h17 W17 A17
  have Y17 := own_ext_wr Y16 W17 (Nat.le_of_eq eb.symm)
  have A : own_Av Z h17 b (.object "com/example/channel/channel/protocol/FieldType") cA [.ref a_BOOLEAN, .ref a_SIGNED_8, .ref a_UNSIGNED_8, .ref a_SIGNED_16, .ref a_UNSIGNED_16, .ref a_SIGNED_32, .ref a_UNSIGNED_32, .ref a_SIGNED_64, .ref a_FLOAT, .ref a_DOUBLE, .ref a_DECIMAL, .ref a_LONG_STRING, .ref a_BYTES, .ref a_ARRAY, .ref a_TIMESTAMP, .ref a_TABLE, .ref a_VOID] := A17
  clear A0 A1 A2 A3 A4 A5 A6 A7 A8 A9 A10 A11 A12 A13 A14 A15 A16 A17
  refine own_astoreN C 1 d0_118 rfl rfl rfl rfl ?_
  refine own_iloadN C d0_119 rfl ?_
  refine own_ldc C d0_120 (hw _ (List.mem_of_getElem? (i := 54) rfl)) ?_
  refine own_iand C d0_122 ?_
  refine own_bipush C (17 : Int32) d0_123 rfl ?_
  refine own_irem C d0_125 (by decide) ?_
  refine own_istoreN C 2 d0_126 rfl rfl rfl ?_
  have hk := own_seventeen i0
  generalize (i0 &&& 2147483647) % 17 = k at hk ⊢
  rcases hk with rfl | rfl | rfl | rfl | rfl | rfl | rfl | rfl | rfl | rfl | rfl | rfl | rfl | rfl | rfl | rfl | rfl
  · refine own_iloadN C d0_127 rfl ?_
    refine own_iconst C (1 : Int32) d0_128 rfl ?_
    refine own_icmplt C d0_129 t0_129 (fun _ => ?_) (fun h' => absurd h' (by decide))
    refine own_iconst C (0 : Int32) d0_142 rfl ?_
    refine own_istoreN C 3 d0_143 rfl rfl rfl ?_
    refine own_aloadN C d0_144 rfl rfl ?_
    refine own_iloadN C d0_145 rfl ?_
    refine own_ldA C d0_146 A rfl 0 (by decide) rfl rfl ?_
    refine own_callV C (own_isint_no l Z a0 hw n0 _ _ _ (S_SIGNED_8.ext Y17) _ (S_UNSIGNED_8.ext Y17) _ (S_SIGNED_16.ext Y17) _ (S_UNSIGNED_16.ext Y17) _ (S_SIGNED_32.ext Y17) _ (S_UNSIGNED_32.ext Y17) _ (S_SIGNED_64.ext Y17) (ne_exa E_BOOLEAN E_SIGNED_8 (by decide)) (ne_exa E_BOOLEAN E_UNSIGNED_8 (by decide)) (ne_exa E_BOOLEAN E_SIGNED_16 (by decide)) (ne_exa E_BOOLEAN E_UNSIGNED_16 (by decide)) (ne_exa E_BOOLEAN E_SIGNED_32 (by decide)) (ne_exa E_BOOLEAN E_UNSIGNED_32 (by decide)) (ne_exa E_BOOLEAN E_SIGNED_64 (by decide))) (E_BOOLEAN.ext Y17) d0_147 (hw _ (List.mem_of_getElem? (i := 55) rfl)) (hw _ (List.mem_of_getElem? (i := 56) rfl)) (hw _ (List.mem_of_getElem? (i := 58) rfl)) (own_nf (args := #[]) C.2.1 (hw _ (List.mem_of_getElem? (i := 58) rfl))) (hw _ (List.mem_of_getElem? (i := 57) rfl)) (hw _ (List.mem_of_getElem? (i := 59) rfl)) (hw _ (List.mem_of_getElem? (i := 3) rfl)) (by decide) pd1 rfl rfl rfl (by decide) (by decide) (by decide) (by decide) ?_
    rintro _ _ ⟨rfl, rfl⟩
    refine own_iloadN C d0_150 rfl ?_
    refine own_icmpne C d0_151 t0_151 (fun h' => absurd h' (by decide)) (fun _ => ?_)
    refine own_iconst C (1 : Int32) d0_154 rfl ?_
    refine own_goto C d0_155 t0_155 ?_
    exact own_retZ C d0_159 (Or.inr rfl) (by decide) (by decide) rfl
  · refine own_iloadN C d0_127 rfl ?_
    refine own_iconst C (1 : Int32) d0_128 rfl ?_
    refine own_icmplt C d0_129 t0_129 (fun h' => absurd h' (by decide)) (fun _ => ?_)
    refine own_iloadN C d0_132 rfl ?_
    refine own_bipush C (7 : Int32) d0_133 rfl ?_
    refine own_icmpgt C d0_135 t0_135 (fun h' => absurd h' (by decide)) (fun _ => ?_)
    refine own_iconst C (1 : Int32) d0_138 rfl ?_
    refine own_goto C d0_139 t0_139 ?_
    refine own_istoreN C 3 d0_143 rfl rfl rfl ?_
    refine own_aloadN C d0_144 rfl rfl ?_
    refine own_iloadN C d0_145 rfl ?_
    refine own_ldA C d0_146 A rfl 1 (by decide) rfl rfl ?_
    refine own_callV C (own_isint_SIGNED_8 l Z a0 hw n0 _ _ _ (S_SIGNED_8.ext Y17) _ (S_UNSIGNED_8.ext Y17) _ (S_SIGNED_16.ext Y17) _ (S_UNSIGNED_16.ext Y17) _ (S_SIGNED_32.ext Y17) _ (S_UNSIGNED_32.ext Y17) _ (S_SIGNED_64.ext Y17)  rfl) (E_SIGNED_8.ext Y17) d0_147 (hw _ (List.mem_of_getElem? (i := 55) rfl)) (hw _ (List.mem_of_getElem? (i := 56) rfl)) (hw _ (List.mem_of_getElem? (i := 74) rfl)) (own_nf (args := #[]) C.2.1 (hw _ (List.mem_of_getElem? (i := 74) rfl))) (hw _ (List.mem_of_getElem? (i := 57) rfl)) (hw _ (List.mem_of_getElem? (i := 59) rfl)) (hw _ (List.mem_of_getElem? (i := 3) rfl)) (by decide) pd1 rfl rfl rfl (by decide) (by decide) (by decide) (by decide) ?_
    rintro _ _ ⟨rfl, rfl⟩
    refine own_iloadN C d0_150 rfl ?_
    refine own_icmpne C d0_151 t0_151 (fun h' => absurd h' (by decide)) (fun _ => ?_)
    refine own_iconst C (1 : Int32) d0_154 rfl ?_
    refine own_goto C d0_155 t0_155 ?_
    exact own_retZ C d0_159 (Or.inr rfl) (by decide) (by decide) rfl
  · refine own_iloadN C d0_127 rfl ?_
    refine own_iconst C (1 : Int32) d0_128 rfl ?_
    refine own_icmplt C d0_129 t0_129 (fun h' => absurd h' (by decide)) (fun _ => ?_)
    refine own_iloadN C d0_132 rfl ?_
    refine own_bipush C (7 : Int32) d0_133 rfl ?_
    refine own_icmpgt C d0_135 t0_135 (fun h' => absurd h' (by decide)) (fun _ => ?_)
    refine own_iconst C (1 : Int32) d0_138 rfl ?_
    refine own_goto C d0_139 t0_139 ?_
    refine own_istoreN C 3 d0_143 rfl rfl rfl ?_
    refine own_aloadN C d0_144 rfl rfl ?_
    refine own_iloadN C d0_145 rfl ?_
    refine own_ldA C d0_146 A rfl 2 (by decide) rfl rfl ?_
    refine own_callV C (own_isint_UNSIGNED_8 l Z a0 hw n0 _ _ _ (S_SIGNED_8.ext Y17) _ (S_UNSIGNED_8.ext Y17) _ (S_SIGNED_16.ext Y17) _ (S_UNSIGNED_16.ext Y17) _ (S_SIGNED_32.ext Y17) _ (S_UNSIGNED_32.ext Y17) _ (S_SIGNED_64.ext Y17) (ne_exa E_UNSIGNED_8 E_SIGNED_8 (by decide)) rfl) (E_UNSIGNED_8.ext Y17) d0_147 (hw _ (List.mem_of_getElem? (i := 55) rfl)) (hw _ (List.mem_of_getElem? (i := 56) rfl)) (hw _ (List.mem_of_getElem? (i := 72) rfl)) (own_nf (args := #[]) C.2.1 (hw _ (List.mem_of_getElem? (i := 72) rfl))) (hw _ (List.mem_of_getElem? (i := 57) rfl)) (hw _ (List.mem_of_getElem? (i := 59) rfl)) (hw _ (List.mem_of_getElem? (i := 3) rfl)) (by decide) pd1 rfl rfl rfl (by decide) (by decide) (by decide) (by decide) ?_
    rintro _ _ ⟨rfl, rfl⟩
    refine own_iloadN C d0_150 rfl ?_
    refine own_icmpne C d0_151 t0_151 (fun h' => absurd h' (by decide)) (fun _ => ?_)
    refine own_iconst C (1 : Int32) d0_154 rfl ?_
    refine own_goto C d0_155 t0_155 ?_
    exact own_retZ C d0_159 (Or.inr rfl) (by decide) (by decide) rfl
  · refine own_iloadN C d0_127 rfl ?_
    refine own_iconst C (1 : Int32) d0_128 rfl ?_
    refine own_icmplt C d0_129 t0_129 (fun h' => absurd h' (by decide)) (fun _ => ?_)
    refine own_iloadN C d0_132 rfl ?_
    refine own_bipush C (7 : Int32) d0_133 rfl ?_
    refine own_icmpgt C d0_135 t0_135 (fun h' => absurd h' (by decide)) (fun _ => ?_)
    refine own_iconst C (1 : Int32) d0_138 rfl ?_
    refine own_goto C d0_139 t0_139 ?_
    refine own_istoreN C 3 d0_143 rfl rfl rfl ?_
    refine own_aloadN C d0_144 rfl rfl ?_
    refine own_iloadN C d0_145 rfl ?_
    refine own_ldA C d0_146 A rfl 3 (by decide) rfl rfl ?_
    refine own_callV C (own_isint_SIGNED_16 l Z a0 hw n0 _ _ _ (S_SIGNED_8.ext Y17) _ (S_UNSIGNED_8.ext Y17) _ (S_SIGNED_16.ext Y17) _ (S_UNSIGNED_16.ext Y17) _ (S_SIGNED_32.ext Y17) _ (S_UNSIGNED_32.ext Y17) _ (S_SIGNED_64.ext Y17) (ne_exa E_SIGNED_16 E_SIGNED_8 (by decide)) (ne_exa E_SIGNED_16 E_UNSIGNED_8 (by decide)) rfl) (E_SIGNED_16.ext Y17) d0_147 (hw _ (List.mem_of_getElem? (i := 55) rfl)) (hw _ (List.mem_of_getElem? (i := 56) rfl)) (hw _ (List.mem_of_getElem? (i := 67) rfl)) (own_nf (args := #[]) C.2.1 (hw _ (List.mem_of_getElem? (i := 67) rfl))) (hw _ (List.mem_of_getElem? (i := 57) rfl)) (hw _ (List.mem_of_getElem? (i := 59) rfl)) (hw _ (List.mem_of_getElem? (i := 3) rfl)) (by decide) pd1 rfl rfl rfl (by decide) (by decide) (by decide) (by decide) ?_
    rintro _ _ ⟨rfl, rfl⟩
    refine own_iloadN C d0_150 rfl ?_
    refine own_icmpne C d0_151 t0_151 (fun h' => absurd h' (by decide)) (fun _ => ?_)
    refine own_iconst C (1 : Int32) d0_154 rfl ?_
    refine own_goto C d0_155 t0_155 ?_
    exact own_retZ C d0_159 (Or.inr rfl) (by decide) (by decide) rfl
  · refine own_iloadN C d0_127 rfl ?_
    refine own_iconst C (1 : Int32) d0_128 rfl ?_
    refine own_icmplt C d0_129 t0_129 (fun h' => absurd h' (by decide)) (fun _ => ?_)
    refine own_iloadN C d0_132 rfl ?_
    refine own_bipush C (7 : Int32) d0_133 rfl ?_
    refine own_icmpgt C d0_135 t0_135 (fun h' => absurd h' (by decide)) (fun _ => ?_)
    refine own_iconst C (1 : Int32) d0_138 rfl ?_
    refine own_goto C d0_139 t0_139 ?_
    refine own_istoreN C 3 d0_143 rfl rfl rfl ?_
    refine own_aloadN C d0_144 rfl rfl ?_
    refine own_iloadN C d0_145 rfl ?_
    refine own_ldA C d0_146 A rfl 4 (by decide) rfl rfl ?_
    refine own_callV C (own_isint_UNSIGNED_16 l Z a0 hw n0 _ _ _ (S_SIGNED_8.ext Y17) _ (S_UNSIGNED_8.ext Y17) _ (S_SIGNED_16.ext Y17) _ (S_UNSIGNED_16.ext Y17) _ (S_SIGNED_32.ext Y17) _ (S_UNSIGNED_32.ext Y17) _ (S_SIGNED_64.ext Y17) (ne_exa E_UNSIGNED_16 E_SIGNED_8 (by decide)) (ne_exa E_UNSIGNED_16 E_UNSIGNED_8 (by decide)) (ne_exa E_UNSIGNED_16 E_SIGNED_16 (by decide)) rfl) (E_UNSIGNED_16.ext Y17) d0_147 (hw _ (List.mem_of_getElem? (i := 55) rfl)) (hw _ (List.mem_of_getElem? (i := 56) rfl)) (hw _ (List.mem_of_getElem? (i := 76) rfl)) (own_nf (args := #[]) C.2.1 (hw _ (List.mem_of_getElem? (i := 76) rfl))) (hw _ (List.mem_of_getElem? (i := 57) rfl)) (hw _ (List.mem_of_getElem? (i := 59) rfl)) (hw _ (List.mem_of_getElem? (i := 3) rfl)) (by decide) pd1 rfl rfl rfl (by decide) (by decide) (by decide) (by decide) ?_
    rintro _ _ ⟨rfl, rfl⟩
    refine own_iloadN C d0_150 rfl ?_
    refine own_icmpne C d0_151 t0_151 (fun h' => absurd h' (by decide)) (fun _ => ?_)
    refine own_iconst C (1 : Int32) d0_154 rfl ?_
    refine own_goto C d0_155 t0_155 ?_
    exact own_retZ C d0_159 (Or.inr rfl) (by decide) (by decide) rfl
  · refine own_iloadN C d0_127 rfl ?_
    refine own_iconst C (1 : Int32) d0_128 rfl ?_
    refine own_icmplt C d0_129 t0_129 (fun h' => absurd h' (by decide)) (fun _ => ?_)
    refine own_iloadN C d0_132 rfl ?_
    refine own_bipush C (7 : Int32) d0_133 rfl ?_
    refine own_icmpgt C d0_135 t0_135 (fun h' => absurd h' (by decide)) (fun _ => ?_)
    refine own_iconst C (1 : Int32) d0_138 rfl ?_
    refine own_goto C d0_139 t0_139 ?_
    refine own_istoreN C 3 d0_143 rfl rfl rfl ?_
    refine own_aloadN C d0_144 rfl rfl ?_
    refine own_iloadN C d0_145 rfl ?_
    refine own_ldA C d0_146 A rfl 5 (by decide) rfl rfl ?_
    refine own_callV C (own_isint_SIGNED_32 l Z a0 hw n0 _ _ _ (S_SIGNED_8.ext Y17) _ (S_UNSIGNED_8.ext Y17) _ (S_SIGNED_16.ext Y17) _ (S_UNSIGNED_16.ext Y17) _ (S_SIGNED_32.ext Y17) _ (S_UNSIGNED_32.ext Y17) _ (S_SIGNED_64.ext Y17) (ne_exa E_SIGNED_32 E_SIGNED_8 (by decide)) (ne_exa E_SIGNED_32 E_UNSIGNED_8 (by decide)) (ne_exa E_SIGNED_32 E_SIGNED_16 (by decide)) (ne_exa E_SIGNED_32 E_UNSIGNED_16 (by decide)) rfl) (E_SIGNED_32.ext Y17) d0_147 (hw _ (List.mem_of_getElem? (i := 55) rfl)) (hw _ (List.mem_of_getElem? (i := 56) rfl)) (hw _ (List.mem_of_getElem? (i := 80) rfl)) (own_nf (args := #[]) C.2.1 (hw _ (List.mem_of_getElem? (i := 80) rfl))) (hw _ (List.mem_of_getElem? (i := 57) rfl)) (hw _ (List.mem_of_getElem? (i := 59) rfl)) (hw _ (List.mem_of_getElem? (i := 3) rfl)) (by decide) pd1 rfl rfl rfl (by decide) (by decide) (by decide) (by decide) ?_
    rintro _ _ ⟨rfl, rfl⟩
    refine own_iloadN C d0_150 rfl ?_
    refine own_icmpne C d0_151 t0_151 (fun h' => absurd h' (by decide)) (fun _ => ?_)
    refine own_iconst C (1 : Int32) d0_154 rfl ?_
    refine own_goto C d0_155 t0_155 ?_
    exact own_retZ C d0_159 (Or.inr rfl) (by decide) (by decide) rfl
  · refine own_iloadN C d0_127 rfl ?_
    refine own_iconst C (1 : Int32) d0_128 rfl ?_
    refine own_icmplt C d0_129 t0_129 (fun h' => absurd h' (by decide)) (fun _ => ?_)
    refine own_iloadN C d0_132 rfl ?_
    refine own_bipush C (7 : Int32) d0_133 rfl ?_
    refine own_icmpgt C d0_135 t0_135 (fun h' => absurd h' (by decide)) (fun _ => ?_)
    refine own_iconst C (1 : Int32) d0_138 rfl ?_
    refine own_goto C d0_139 t0_139 ?_
    refine own_istoreN C 3 d0_143 rfl rfl rfl ?_
    refine own_aloadN C d0_144 rfl rfl ?_
    refine own_iloadN C d0_145 rfl ?_
    refine own_ldA C d0_146 A rfl 6 (by decide) rfl rfl ?_
    refine own_callV C (own_isint_UNSIGNED_32 l Z a0 hw n0 _ _ _ (S_SIGNED_8.ext Y17) _ (S_UNSIGNED_8.ext Y17) _ (S_SIGNED_16.ext Y17) _ (S_UNSIGNED_16.ext Y17) _ (S_SIGNED_32.ext Y17) _ (S_UNSIGNED_32.ext Y17) _ (S_SIGNED_64.ext Y17) (ne_exa E_UNSIGNED_32 E_SIGNED_8 (by decide)) (ne_exa E_UNSIGNED_32 E_UNSIGNED_8 (by decide)) (ne_exa E_UNSIGNED_32 E_SIGNED_16 (by decide)) (ne_exa E_UNSIGNED_32 E_UNSIGNED_16 (by decide)) (ne_exa E_UNSIGNED_32 E_SIGNED_32 (by decide)) rfl) (E_UNSIGNED_32.ext Y17) d0_147 (hw _ (List.mem_of_getElem? (i := 55) rfl)) (hw _ (List.mem_of_getElem? (i := 56) rfl)) (hw _ (List.mem_of_getElem? (i := 70) rfl)) (own_nf (args := #[]) C.2.1 (hw _ (List.mem_of_getElem? (i := 70) rfl))) (hw _ (List.mem_of_getElem? (i := 57) rfl)) (hw _ (List.mem_of_getElem? (i := 59) rfl)) (hw _ (List.mem_of_getElem? (i := 3) rfl)) (by decide) pd1 rfl rfl rfl (by decide) (by decide) (by decide) (by decide) ?_
    rintro _ _ ⟨rfl, rfl⟩
    refine own_iloadN C d0_150 rfl ?_
    refine own_icmpne C d0_151 t0_151 (fun h' => absurd h' (by decide)) (fun _ => ?_)
    refine own_iconst C (1 : Int32) d0_154 rfl ?_
    refine own_goto C d0_155 t0_155 ?_
    exact own_retZ C d0_159 (Or.inr rfl) (by decide) (by decide) rfl
  · refine own_iloadN C d0_127 rfl ?_
    refine own_iconst C (1 : Int32) d0_128 rfl ?_
    refine own_icmplt C d0_129 t0_129 (fun h' => absurd h' (by decide)) (fun _ => ?_)
    refine own_iloadN C d0_132 rfl ?_
    refine own_bipush C (7 : Int32) d0_133 rfl ?_
    refine own_icmpgt C d0_135 t0_135 (fun h' => absurd h' (by decide)) (fun _ => ?_)
    refine own_iconst C (1 : Int32) d0_138 rfl ?_
    refine own_goto C d0_139 t0_139 ?_
    refine own_istoreN C 3 d0_143 rfl rfl rfl ?_
    refine own_aloadN C d0_144 rfl rfl ?_
    refine own_iloadN C d0_145 rfl ?_
    refine own_ldA C d0_146 A rfl 7 (by decide) rfl rfl ?_
    refine own_callV C (own_isint_SIGNED_64 l Z a0 hw n0 _ _ _ (S_SIGNED_8.ext Y17) _ (S_UNSIGNED_8.ext Y17) _ (S_SIGNED_16.ext Y17) _ (S_UNSIGNED_16.ext Y17) _ (S_SIGNED_32.ext Y17) _ (S_UNSIGNED_32.ext Y17) _ (S_SIGNED_64.ext Y17) (ne_exa E_SIGNED_64 E_SIGNED_8 (by decide)) (ne_exa E_SIGNED_64 E_UNSIGNED_8 (by decide)) (ne_exa E_SIGNED_64 E_SIGNED_16 (by decide)) (ne_exa E_SIGNED_64 E_UNSIGNED_16 (by decide)) (ne_exa E_SIGNED_64 E_SIGNED_32 (by decide)) (ne_exa E_SIGNED_64 E_UNSIGNED_32 (by decide)) rfl) (E_SIGNED_64.ext Y17) d0_147 (hw _ (List.mem_of_getElem? (i := 55) rfl)) (hw _ (List.mem_of_getElem? (i := 56) rfl)) (hw _ (List.mem_of_getElem? (i := 71) rfl)) (own_nf (args := #[]) C.2.1 (hw _ (List.mem_of_getElem? (i := 71) rfl))) (hw _ (List.mem_of_getElem? (i := 57) rfl)) (hw _ (List.mem_of_getElem? (i := 59) rfl)) (hw _ (List.mem_of_getElem? (i := 3) rfl)) (by decide) pd1 rfl rfl rfl (by decide) (by decide) (by decide) (by decide) ?_
    rintro _ _ ⟨rfl, rfl⟩
    refine own_iloadN C d0_150 rfl ?_
    refine own_icmpne C d0_151 t0_151 (fun h' => absurd h' (by decide)) (fun _ => ?_)
    refine own_iconst C (1 : Int32) d0_154 rfl ?_
    refine own_goto C d0_155 t0_155 ?_
    exact own_retZ C d0_159 (Or.inr rfl) (by decide) (by decide) rfl
  · refine own_iloadN C d0_127 rfl ?_
    refine own_iconst C (1 : Int32) d0_128 rfl ?_
    refine own_icmplt C d0_129 t0_129 (fun h' => absurd h' (by decide)) (fun _ => ?_)
    refine own_iloadN C d0_132 rfl ?_
    refine own_bipush C (7 : Int32) d0_133 rfl ?_
    refine own_icmpgt C d0_135 t0_135 (fun _ => ?_) (fun h' => absurd h' (by decide))
    refine own_iconst C (0 : Int32) d0_142 rfl ?_
    refine own_istoreN C 3 d0_143 rfl rfl rfl ?_
    refine own_aloadN C d0_144 rfl rfl ?_
    refine own_iloadN C d0_145 rfl ?_
    refine own_ldA C d0_146 A rfl 8 (by decide) rfl rfl ?_
    refine own_callV C (own_isint_no l Z a0 hw n0 _ _ _ (S_SIGNED_8.ext Y17) _ (S_UNSIGNED_8.ext Y17) _ (S_SIGNED_16.ext Y17) _ (S_UNSIGNED_16.ext Y17) _ (S_SIGNED_32.ext Y17) _ (S_UNSIGNED_32.ext Y17) _ (S_SIGNED_64.ext Y17) (ne_exa E_FLOAT E_SIGNED_8 (by decide)) (ne_exa E_FLOAT E_UNSIGNED_8 (by decide)) (ne_exa E_FLOAT E_SIGNED_16 (by decide)) (ne_exa E_FLOAT E_UNSIGNED_16 (by decide)) (ne_exa E_FLOAT E_SIGNED_32 (by decide)) (ne_exa E_FLOAT E_UNSIGNED_32 (by decide)) (ne_exa E_FLOAT E_SIGNED_64 (by decide))) (E_FLOAT.ext Y17) d0_147 (hw _ (List.mem_of_getElem? (i := 55) rfl)) (hw _ (List.mem_of_getElem? (i := 56) rfl)) (hw _ (List.mem_of_getElem? (i := 68) rfl)) (own_nf (args := #[]) C.2.1 (hw _ (List.mem_of_getElem? (i := 68) rfl))) (hw _ (List.mem_of_getElem? (i := 57) rfl)) (hw _ (List.mem_of_getElem? (i := 59) rfl)) (hw _ (List.mem_of_getElem? (i := 3) rfl)) (by decide) pd1 rfl rfl rfl (by decide) (by decide) (by decide) (by decide) ?_
    rintro _ _ ⟨rfl, rfl⟩
    refine own_iloadN C d0_150 rfl ?_
    refine own_icmpne C d0_151 t0_151 (fun h' => absurd h' (by decide)) (fun _ => ?_)
    refine own_iconst C (1 : Int32) d0_154 rfl ?_
    refine own_goto C d0_155 t0_155 ?_
    exact own_retZ C d0_159 (Or.inr rfl) (by decide) (by decide) rfl
  · refine own_iloadN C d0_127 rfl ?_
    refine own_iconst C (1 : Int32) d0_128 rfl ?_
    refine own_icmplt C d0_129 t0_129 (fun h' => absurd h' (by decide)) (fun _ => ?_)
    refine own_iloadN C d0_132 rfl ?_
    refine own_bipush C (7 : Int32) d0_133 rfl ?_
    refine own_icmpgt C d0_135 t0_135 (fun _ => ?_) (fun h' => absurd h' (by decide))
    refine own_iconst C (0 : Int32) d0_142 rfl ?_
    refine own_istoreN C 3 d0_143 rfl rfl rfl ?_
    refine own_aloadN C d0_144 rfl rfl ?_
    refine own_iloadN C d0_145 rfl ?_
    refine own_ldA C d0_146 A rfl 9 (by decide) rfl rfl ?_
    refine own_callV C (own_isint_no l Z a0 hw n0 _ _ _ (S_SIGNED_8.ext Y17) _ (S_UNSIGNED_8.ext Y17) _ (S_SIGNED_16.ext Y17) _ (S_UNSIGNED_16.ext Y17) _ (S_SIGNED_32.ext Y17) _ (S_UNSIGNED_32.ext Y17) _ (S_SIGNED_64.ext Y17) (ne_exa E_DOUBLE E_SIGNED_8 (by decide)) (ne_exa E_DOUBLE E_UNSIGNED_8 (by decide)) (ne_exa E_DOUBLE E_SIGNED_16 (by decide)) (ne_exa E_DOUBLE E_UNSIGNED_16 (by decide)) (ne_exa E_DOUBLE E_SIGNED_32 (by decide)) (ne_exa E_DOUBLE E_UNSIGNED_32 (by decide)) (ne_exa E_DOUBLE E_SIGNED_64 (by decide))) (E_DOUBLE.ext Y17) d0_147 (hw _ (List.mem_of_getElem? (i := 55) rfl)) (hw _ (List.mem_of_getElem? (i := 56) rfl)) (hw _ (List.mem_of_getElem? (i := 69) rfl)) (own_nf (args := #[]) C.2.1 (hw _ (List.mem_of_getElem? (i := 69) rfl))) (hw _ (List.mem_of_getElem? (i := 57) rfl)) (hw _ (List.mem_of_getElem? (i := 59) rfl)) (hw _ (List.mem_of_getElem? (i := 3) rfl)) (by decide) pd1 rfl rfl rfl (by decide) (by decide) (by decide) (by decide) ?_
    rintro _ _ ⟨rfl, rfl⟩
    refine own_iloadN C d0_150 rfl ?_
    refine own_icmpne C d0_151 t0_151 (fun h' => absurd h' (by decide)) (fun _ => ?_)
    refine own_iconst C (1 : Int32) d0_154 rfl ?_
    refine own_goto C d0_155 t0_155 ?_
    exact own_retZ C d0_159 (Or.inr rfl) (by decide) (by decide) rfl
  · refine own_iloadN C d0_127 rfl ?_
    refine own_iconst C (1 : Int32) d0_128 rfl ?_
    refine own_icmplt C d0_129 t0_129 (fun h' => absurd h' (by decide)) (fun _ => ?_)
    refine own_iloadN C d0_132 rfl ?_
    refine own_bipush C (7 : Int32) d0_133 rfl ?_
    refine own_icmpgt C d0_135 t0_135 (fun _ => ?_) (fun h' => absurd h' (by decide))
    refine own_iconst C (0 : Int32) d0_142 rfl ?_
    refine own_istoreN C 3 d0_143 rfl rfl rfl ?_
    refine own_aloadN C d0_144 rfl rfl ?_
    refine own_iloadN C d0_145 rfl ?_
    refine own_ldA C d0_146 A rfl 10 (by decide) rfl rfl ?_
    refine own_callV C (own_isint_no l Z a0 hw n0 _ _ _ (S_SIGNED_8.ext Y17) _ (S_UNSIGNED_8.ext Y17) _ (S_SIGNED_16.ext Y17) _ (S_UNSIGNED_16.ext Y17) _ (S_SIGNED_32.ext Y17) _ (S_UNSIGNED_32.ext Y17) _ (S_SIGNED_64.ext Y17) (ne_exa E_DECIMAL E_SIGNED_8 (by decide)) (ne_exa E_DECIMAL E_UNSIGNED_8 (by decide)) (ne_exa E_DECIMAL E_SIGNED_16 (by decide)) (ne_exa E_DECIMAL E_UNSIGNED_16 (by decide)) (ne_exa E_DECIMAL E_SIGNED_32 (by decide)) (ne_exa E_DECIMAL E_UNSIGNED_32 (by decide)) (ne_exa E_DECIMAL E_SIGNED_64 (by decide))) (E_DECIMAL.ext Y17) d0_147 (hw _ (List.mem_of_getElem? (i := 55) rfl)) (hw _ (List.mem_of_getElem? (i := 56) rfl)) (hw _ (List.mem_of_getElem? (i := 77) rfl)) (own_nf (args := #[]) C.2.1 (hw _ (List.mem_of_getElem? (i := 77) rfl))) (hw _ (List.mem_of_getElem? (i := 57) rfl)) (hw _ (List.mem_of_getElem? (i := 59) rfl)) (hw _ (List.mem_of_getElem? (i := 3) rfl)) (by decide) pd1 rfl rfl rfl (by decide) (by decide) (by decide) (by decide) ?_
    rintro _ _ ⟨rfl, rfl⟩
    refine own_iloadN C d0_150 rfl ?_
    refine own_icmpne C d0_151 t0_151 (fun h' => absurd h' (by decide)) (fun _ => ?_)
    refine own_iconst C (1 : Int32) d0_154 rfl ?_
    refine own_goto C d0_155 t0_155 ?_
    exact own_retZ C d0_159 (Or.inr rfl) (by decide) (by decide) rfl
  · refine own_iloadN C d0_127 rfl ?_
    refine own_iconst C (1 : Int32) d0_128 rfl ?_
    refine own_icmplt C d0_129 t0_129 (fun h' => absurd h' (by decide)) (fun _ => ?_)
    refine own_iloadN C d0_132 rfl ?_
    refine own_bipush C (7 : Int32) d0_133 rfl ?_
    refine own_icmpgt C d0_135 t0_135 (fun _ => ?_) (fun h' => absurd h' (by decide))
    refine own_iconst C (0 : Int32) d0_142 rfl ?_
    refine own_istoreN C 3 d0_143 rfl rfl rfl ?_
    refine own_aloadN C d0_144 rfl rfl ?_
    refine own_iloadN C d0_145 rfl ?_
    refine own_ldA C d0_146 A rfl 11 (by decide) rfl rfl ?_
    refine own_callV C (own_isint_no l Z a0 hw n0 _ _ _ (S_SIGNED_8.ext Y17) _ (S_UNSIGNED_8.ext Y17) _ (S_SIGNED_16.ext Y17) _ (S_UNSIGNED_16.ext Y17) _ (S_SIGNED_32.ext Y17) _ (S_UNSIGNED_32.ext Y17) _ (S_SIGNED_64.ext Y17) (ne_exa E_LONG_STRING E_SIGNED_8 (by decide)) (ne_exa E_LONG_STRING E_UNSIGNED_8 (by decide)) (ne_exa E_LONG_STRING E_SIGNED_16 (by decide)) (ne_exa E_LONG_STRING E_UNSIGNED_16 (by decide)) (ne_exa E_LONG_STRING E_SIGNED_32 (by decide)) (ne_exa E_LONG_STRING E_UNSIGNED_32 (by decide)) (ne_exa E_LONG_STRING E_SIGNED_64 (by decide))) (E_LONG_STRING.ext Y17) d0_147 (hw _ (List.mem_of_getElem? (i := 55) rfl)) (hw _ (List.mem_of_getElem? (i := 56) rfl)) (hw _ (List.mem_of_getElem? (i := 73) rfl)) (own_nf (args := #[]) C.2.1 (hw _ (List.mem_of_getElem? (i := 73) rfl))) (hw _ (List.mem_of_getElem? (i := 57) rfl)) (hw _ (List.mem_of_getElem? (i := 59) rfl)) (hw _ (List.mem_of_getElem? (i := 3) rfl)) (by decide) pd1 rfl rfl rfl (by decide) (by decide) (by decide) (by decide) ?_
    rintro _ _ ⟨rfl, rfl⟩
    refine own_iloadN C d0_150 rfl ?_
    refine own_icmpne C d0_151 t0_151 (fun h' => absurd h' (by decide)) (fun _ => ?_)
    refine own_iconst C (1 : Int32) d0_154 rfl ?_
    refine own_goto C d0_155 t0_155 ?_
    exact own_retZ C d0_159 (Or.inr rfl) (by decide) (by decide) rfl
  · refine own_iloadN C d0_127 rfl ?_
    refine own_iconst C (1 : Int32) d0_128 rfl ?_
    refine own_icmplt C d0_129 t0_129 (fun h' => absurd h' (by decide)) (fun _ => ?_)
    refine own_iloadN C d0_132 rfl ?_
    refine own_bipush C (7 : Int32) d0_133 rfl ?_
    refine own_icmpgt C d0_135 t0_135 (fun _ => ?_) (fun h' => absurd h' (by decide))
    refine own_iconst C (0 : Int32) d0_142 rfl ?_
    refine own_istoreN C 3 d0_143 rfl rfl rfl ?_
    refine own_aloadN C d0_144 rfl rfl ?_
    refine own_iloadN C d0_145 rfl ?_
    refine own_ldA C d0_146 A rfl 12 (by decide) rfl rfl ?_
    refine own_callV C (own_isint_no l Z a0 hw n0 _ _ _ (S_SIGNED_8.ext Y17) _ (S_UNSIGNED_8.ext Y17) _ (S_SIGNED_16.ext Y17) _ (S_UNSIGNED_16.ext Y17) _ (S_SIGNED_32.ext Y17) _ (S_UNSIGNED_32.ext Y17) _ (S_SIGNED_64.ext Y17) (ne_exa E_BYTES E_SIGNED_8 (by decide)) (ne_exa E_BYTES E_UNSIGNED_8 (by decide)) (ne_exa E_BYTES E_SIGNED_16 (by decide)) (ne_exa E_BYTES E_UNSIGNED_16 (by decide)) (ne_exa E_BYTES E_SIGNED_32 (by decide)) (ne_exa E_BYTES E_UNSIGNED_32 (by decide)) (ne_exa E_BYTES E_SIGNED_64 (by decide))) (E_BYTES.ext Y17) d0_147 (hw _ (List.mem_of_getElem? (i := 55) rfl)) (hw _ (List.mem_of_getElem? (i := 56) rfl)) (hw _ (List.mem_of_getElem? (i := 82) rfl)) (own_nf (args := #[]) C.2.1 (hw _ (List.mem_of_getElem? (i := 82) rfl))) (hw _ (List.mem_of_getElem? (i := 57) rfl)) (hw _ (List.mem_of_getElem? (i := 59) rfl)) (hw _ (List.mem_of_getElem? (i := 3) rfl)) (by decide) pd1 rfl rfl rfl (by decide) (by decide) (by decide) (by decide) ?_
    rintro _ _ ⟨rfl, rfl⟩
    refine own_iloadN C d0_150 rfl ?_
    refine own_icmpne C d0_151 t0_151 (fun h' => absurd h' (by decide)) (fun _ => ?_)
    refine own_iconst C (1 : Int32) d0_154 rfl ?_
    refine own_goto C d0_155 t0_155 ?_
    exact own_retZ C d0_159 (Or.inr rfl) (by decide) (by decide) rfl
  · refine own_iloadN C d0_127 rfl ?_
    refine own_iconst C (1 : Int32) d0_128 rfl ?_
    refine own_icmplt C d0_129 t0_129 (fun h' => absurd h' (by decide)) (fun _ => ?_)
    refine own_iloadN C d0_132 rfl ?_
    refine own_bipush C (7 : Int32) d0_133 rfl ?_
    refine own_icmpgt C d0_135 t0_135 (fun _ => ?_) (fun h' => absurd h' (by decide))
    refine own_iconst C (0 : Int32) d0_142 rfl ?_
    refine own_istoreN C 3 d0_143 rfl rfl rfl ?_
    refine own_aloadN C d0_144 rfl rfl ?_
    refine own_iloadN C d0_145 rfl ?_
    refine own_ldA C d0_146 A rfl 13 (by decide) rfl rfl ?_
    refine own_callV C (own_isint_no l Z a0 hw n0 _ _ _ (S_SIGNED_8.ext Y17) _ (S_UNSIGNED_8.ext Y17) _ (S_SIGNED_16.ext Y17) _ (S_UNSIGNED_16.ext Y17) _ (S_SIGNED_32.ext Y17) _ (S_UNSIGNED_32.ext Y17) _ (S_SIGNED_64.ext Y17) (ne_exa E_ARRAY E_SIGNED_8 (by decide)) (ne_exa E_ARRAY E_UNSIGNED_8 (by decide)) (ne_exa E_ARRAY E_SIGNED_16 (by decide)) (ne_exa E_ARRAY E_UNSIGNED_16 (by decide)) (ne_exa E_ARRAY E_SIGNED_32 (by decide)) (ne_exa E_ARRAY E_UNSIGNED_32 (by decide)) (ne_exa E_ARRAY E_SIGNED_64 (by decide))) (E_ARRAY.ext Y17) d0_147 (hw _ (List.mem_of_getElem? (i := 55) rfl)) (hw _ (List.mem_of_getElem? (i := 56) rfl)) (hw _ (List.mem_of_getElem? (i := 75) rfl)) (own_nf (args := #[]) C.2.1 (hw _ (List.mem_of_getElem? (i := 75) rfl))) (hw _ (List.mem_of_getElem? (i := 57) rfl)) (hw _ (List.mem_of_getElem? (i := 59) rfl)) (hw _ (List.mem_of_getElem? (i := 3) rfl)) (by decide) pd1 rfl rfl rfl (by decide) (by decide) (by decide) (by decide) ?_
    rintro _ _ ⟨rfl, rfl⟩
    refine own_iloadN C d0_150 rfl ?_
    refine own_icmpne C d0_151 t0_151 (fun h' => absurd h' (by decide)) (fun _ => ?_)
    refine own_iconst C (1 : Int32) d0_154 rfl ?_
    refine own_goto C d0_155 t0_155 ?_
    exact own_retZ C d0_159 (Or.inr rfl) (by decide) (by decide) rfl
  · refine own_iloadN C d0_127 rfl ?_
    refine own_iconst C (1 : Int32) d0_128 rfl ?_
    refine own_icmplt C d0_129 t0_129 (fun h' => absurd h' (by decide)) (fun _ => ?_)
    refine own_iloadN C d0_132 rfl ?_
    refine own_bipush C (7 : Int32) d0_133 rfl ?_
    refine own_icmpgt C d0_135 t0_135 (fun _ => ?_) (fun h' => absurd h' (by decide))
    refine own_iconst C (0 : Int32) d0_142 rfl ?_
    refine own_istoreN C 3 d0_143 rfl rfl rfl ?_
    refine own_aloadN C d0_144 rfl rfl ?_
    refine own_iloadN C d0_145 rfl ?_
    refine own_ldA C d0_146 A rfl 14 (by decide) rfl rfl ?_
    refine own_callV C (own_isint_no l Z a0 hw n0 _ _ _ (S_SIGNED_8.ext Y17) _ (S_UNSIGNED_8.ext Y17) _ (S_SIGNED_16.ext Y17) _ (S_UNSIGNED_16.ext Y17) _ (S_SIGNED_32.ext Y17) _ (S_UNSIGNED_32.ext Y17) _ (S_SIGNED_64.ext Y17) (ne_exa E_TIMESTAMP E_SIGNED_8 (by decide)) (ne_exa E_TIMESTAMP E_UNSIGNED_8 (by decide)) (ne_exa E_TIMESTAMP E_SIGNED_16 (by decide)) (ne_exa E_TIMESTAMP E_UNSIGNED_16 (by decide)) (ne_exa E_TIMESTAMP E_SIGNED_32 (by decide)) (ne_exa E_TIMESTAMP E_UNSIGNED_32 (by decide)) (ne_exa E_TIMESTAMP E_SIGNED_64 (by decide))) (E_TIMESTAMP.ext Y17) d0_147 (hw _ (List.mem_of_getElem? (i := 55) rfl)) (hw _ (List.mem_of_getElem? (i := 56) rfl)) (hw _ (List.mem_of_getElem? (i := 81) rfl)) (own_nf (args := #[]) C.2.1 (hw _ (List.mem_of_getElem? (i := 81) rfl))) (hw _ (List.mem_of_getElem? (i := 57) rfl)) (hw _ (List.mem_of_getElem? (i := 59) rfl)) (hw _ (List.mem_of_getElem? (i := 3) rfl)) (by decide) pd1 rfl rfl rfl (by decide) (by decide) (by decide) (by decide) ?_
    rintro _ _ ⟨rfl, rfl⟩
    refine own_iloadN C d0_150 rfl ?_
    refine own_icmpne C d0_151 t0_151 (fun h' => absurd h' (by decide)) (fun _ => ?_)
    refine own_iconst C (1 : Int32) d0_154 rfl ?_
    refine own_goto C d0_155 t0_155 ?_
    exact own_retZ C d0_159 (Or.inr rfl) (by decide) (by decide) rfl
  · refine own_iloadN C d0_127 rfl ?_
    refine own_iconst C (1 : Int32) d0_128 rfl ?_
    refine own_icmplt C d0_129 t0_129 (fun h' => absurd h' (by decide)) (fun _ => ?_)
    refine own_iloadN C d0_132 rfl ?_
    refine own_bipush C (7 : Int32) d0_133 rfl ?_
    refine own_icmpgt C d0_135 t0_135 (fun _ => ?_) (fun h' => absurd h' (by decide))
    refine own_iconst C (0 : Int32) d0_142 rfl ?_
    refine own_istoreN C 3 d0_143 rfl rfl rfl ?_
    refine own_aloadN C d0_144 rfl rfl ?_
    refine own_iloadN C d0_145 rfl ?_
    refine own_ldA C d0_146 A rfl 15 (by decide) rfl rfl ?_
    refine own_callV C (own_isint_no l Z a0 hw n0 _ _ _ (S_SIGNED_8.ext Y17) _ (S_UNSIGNED_8.ext Y17) _ (S_SIGNED_16.ext Y17) _ (S_UNSIGNED_16.ext Y17) _ (S_SIGNED_32.ext Y17) _ (S_UNSIGNED_32.ext Y17) _ (S_SIGNED_64.ext Y17) (ne_exa E_TABLE E_SIGNED_8 (by decide)) (ne_exa E_TABLE E_UNSIGNED_8 (by decide)) (ne_exa E_TABLE E_SIGNED_16 (by decide)) (ne_exa E_TABLE E_UNSIGNED_16 (by decide)) (ne_exa E_TABLE E_SIGNED_32 (by decide)) (ne_exa E_TABLE E_UNSIGNED_32 (by decide)) (ne_exa E_TABLE E_SIGNED_64 (by decide))) (E_TABLE.ext Y17) d0_147 (hw _ (List.mem_of_getElem? (i := 55) rfl)) (hw _ (List.mem_of_getElem? (i := 56) rfl)) (hw _ (List.mem_of_getElem? (i := 79) rfl)) (own_nf (args := #[]) C.2.1 (hw _ (List.mem_of_getElem? (i := 79) rfl))) (hw _ (List.mem_of_getElem? (i := 57) rfl)) (hw _ (List.mem_of_getElem? (i := 59) rfl)) (hw _ (List.mem_of_getElem? (i := 3) rfl)) (by decide) pd1 rfl rfl rfl (by decide) (by decide) (by decide) (by decide) ?_
    rintro _ _ ⟨rfl, rfl⟩
    refine own_iloadN C d0_150 rfl ?_
    refine own_icmpne C d0_151 t0_151 (fun h' => absurd h' (by decide)) (fun _ => ?_)
    refine own_iconst C (1 : Int32) d0_154 rfl ?_
    refine own_goto C d0_155 t0_155 ?_
    exact own_retZ C d0_159 (Or.inr rfl) (by decide) (by decide) rfl
  · refine own_iloadN C d0_127 rfl ?_
    refine own_iconst C (1 : Int32) d0_128 rfl ?_
    refine own_icmplt C d0_129 t0_129 (fun h' => absurd h' (by decide)) (fun _ => ?_)
    refine own_iloadN C d0_132 rfl ?_
    refine own_bipush C (7 : Int32) d0_133 rfl ?_
    refine own_icmpgt C d0_135 t0_135 (fun _ => ?_) (fun h' => absurd h' (by decide))
    refine own_iconst C (0 : Int32) d0_142 rfl ?_
    refine own_istoreN C 3 d0_143 rfl rfl rfl ?_
    refine own_aloadN C d0_144 rfl rfl ?_
    refine own_iloadN C d0_145 rfl ?_
    refine own_ldA C d0_146 A rfl 16 (by decide) rfl rfl ?_
    refine own_callV C (own_isint_no l Z a0 hw n0 _ _ _ (S_SIGNED_8.ext Y17) _ (S_UNSIGNED_8.ext Y17) _ (S_SIGNED_16.ext Y17) _ (S_UNSIGNED_16.ext Y17) _ (S_SIGNED_32.ext Y17) _ (S_UNSIGNED_32.ext Y17) _ (S_SIGNED_64.ext Y17) (ne_exa E_VOID E_SIGNED_8 (by decide)) (ne_exa E_VOID E_UNSIGNED_8 (by decide)) (ne_exa E_VOID E_SIGNED_16 (by decide)) (ne_exa E_VOID E_UNSIGNED_16 (by decide)) (ne_exa E_VOID E_SIGNED_32 (by decide)) (ne_exa E_VOID E_UNSIGNED_32 (by decide)) (ne_exa E_VOID E_SIGNED_64 (by decide))) (E_VOID.ext Y17) d0_147 (hw _ (List.mem_of_getElem? (i := 55) rfl)) (hw _ (List.mem_of_getElem? (i := 56) rfl)) (hw _ (List.mem_of_getElem? (i := 78) rfl)) (own_nf (args := #[]) C.2.1 (hw _ (List.mem_of_getElem? (i := 78) rfl))) (hw _ (List.mem_of_getElem? (i := 57) rfl)) (hw _ (List.mem_of_getElem? (i := 59) rfl)) (hw _ (List.mem_of_getElem? (i := 3) rfl)) (by decide) pd1 rfl rfl rfl (by decide) (by decide) (by decide) (by decide) ?_
    rintro _ _ ⟨rfl, rfl⟩
    refine own_iloadN C d0_150 rfl ?_
    refine own_icmpne C d0_151 t0_151 (fun h' => absurd h' (by decide)) (fun _ => ?_)
    refine own_iconst C (1 : Int32) d0_154 rfl ?_
    refine own_goto C d0_155 t0_155 ?_
    exact own_retZ C d0_159 (Or.inr rfl) (by decide) (by decide) rfl
set_option maxRecDepth 65536 in
set_option maxHeartbeats 40000000 in
theorem comes_1 {Post : Tables → Env → Array Value → State → Outcome → State → Prop} (hpost : ∀ tb e args s v u, (limb_1_1.after args s (.returned v) u = true ∧ limb_1_2.after args s (.returned v) u = true ∧ True) → FrameEnd s (.returned v) u (Jvm.fieldLocs frame_1_writes args s ++ Jvm.arrayLocs frame_1_arrays args s ++ Jvm.staticLocs frame_1_statics s) 16 128 → Post tb e args s (.returned v) u) :
    ArmFor flags0 classFile x code maxLocals ret World_1 tables_1 room_1 Calls_1 rest_1 Pre_1 Post := by
  intro l hfl _ _ p e ha hc hk s m args below hf hA hF happ hP
  obtain ⟨hcalls, hrest, hpre⟩ := hP
  obtain ⟨-, -, -, hnamed, -, -, -, hat⟩ := (Spec.applies_iff hf).mp happ
  obtain ⟨hg, hn⟩ := and_e (Cond.before_iff.mp (show (Jvm.Cond.and given_1 narrow_1).before args s = true from hpre))
  obtain ⟨hg0, hg1⟩ := and_e hg
  obtain ⟨w0, rfl⟩ : ∃ w0 : Value, args = #[w0] := by
    have hs : args.size = 1 := by simpa [Cond.value, given_1] using hg0
    obtain ⟨L⟩ := args
    match L, hs with
    | [w0], _ => exact ⟨w0, rfl⟩
  have hw := fun d (hd : d ∈ tables_1) => atoms_spec (ws := Jvm.Cond.code x code maxLocals ret :: tables_1) hat d (List.mem_cons_of_mem _ hd)
  have hfit : Fit s := fun {y c} hc i hi => by
    obtain ⟨ha, rfl⟩ := Array.getElem?_eq_some_iff.mp hc
    have q := List.all_eq_true.mp ((Array.all_eq_true_iff_forall_mem.mp hF) _ (Array.getElem_mem ha)) i (List.mem_range.mpr hi)
    simpa [Array.getElem?_eq_getElem hi] using q
  obtain ⟨i0, ea0⟩ := is_v hg1
  obtain rfl : w0 = (.int i0) := Option.some.inj ea0
  obtain ⟨hc0, hr0⟩ := and_e hn
  obtain ⟨hc1, hr1⟩ := and_e hr0
  obtain ⟨hc2, hr2⟩ := and_e hr1
  obtain ⟨hc3, hr3⟩ := and_e hr2
  obtain ⟨hc4, hr4⟩ := and_e hr3
  obtain ⟨hc5, hr5⟩ := and_e hr4
  obtain ⟨hc6, hr6⟩ := and_e hr5
  obtain ⟨hc7, hr7⟩ := and_e hr6
  obtain ⟨hc8, hr8⟩ := and_e hr7
  obtain ⟨hc9, hr9⟩ := and_e hr8
  obtain ⟨hc10, hr10⟩ := and_e hr9
  obtain ⟨hc11, hr11⟩ := and_e hr10
  obtain ⟨hc12, hr12⟩ := and_e hr11
  obtain ⟨hc13, hr13⟩ := and_e hr12
  obtain ⟨hc14, hr14⟩ := and_e hr13
  obtain ⟨hc15, hr15⟩ := and_e hr14
  obtain ⟨a_BOOLEAN, ev_BOOLEAN⟩ := exa_v hc0
  have S_BOOLEAN : Sta s s.heap "com/example/channel/channel/protocol/FieldType" "BOOLEAN" "Lcom/example/channel/channel/protocol/FieldType;" (.ref a_BOOLEAN) := Sta.start ev_BOOLEAN (Or.inr ⟨(hw _ (List.mem_of_getElem? (i := 3) rfl)), (hw _ (List.mem_of_getElem? (i := 4) rfl))⟩)
  have E_BOOLEAN : Exa s s.heap a_BOOLEAN "com/example/channel/channel/protocol/FieldType$1" := Exa.start ev_BOOLEAN hc0
  obtain ⟨a_SIGNED_8, ev_SIGNED_8⟩ := exa_v hc1
  have S_SIGNED_8 : Sta s s.heap "com/example/channel/channel/protocol/FieldType" "SIGNED_8" "Lcom/example/channel/channel/protocol/FieldType;" (.ref a_SIGNED_8) := Sta.start ev_SIGNED_8 (Or.inr ⟨(hw _ (List.mem_of_getElem? (i := 3) rfl)), (hw _ (List.mem_of_getElem? (i := 7) rfl))⟩)
  have E_SIGNED_8 : Exa s s.heap a_SIGNED_8 "com/example/channel/channel/protocol/FieldType$2" := Exa.start ev_SIGNED_8 hc1
  obtain ⟨a_UNSIGNED_8, ev_UNSIGNED_8⟩ := exa_v hc2
  have S_UNSIGNED_8 : Sta s s.heap "com/example/channel/channel/protocol/FieldType" "UNSIGNED_8" "Lcom/example/channel/channel/protocol/FieldType;" (.ref a_UNSIGNED_8) := Sta.start ev_UNSIGNED_8 (Or.inr ⟨(hw _ (List.mem_of_getElem? (i := 3) rfl)), (hw _ (List.mem_of_getElem? (i := 10) rfl))⟩)
  have E_UNSIGNED_8 : Exa s s.heap a_UNSIGNED_8 "com/example/channel/channel/protocol/FieldType$3" := Exa.start ev_UNSIGNED_8 hc2
  obtain ⟨a_SIGNED_16, ev_SIGNED_16⟩ := exa_v hc3
  have S_SIGNED_16 : Sta s s.heap "com/example/channel/channel/protocol/FieldType" "SIGNED_16" "Lcom/example/channel/channel/protocol/FieldType;" (.ref a_SIGNED_16) := Sta.start ev_SIGNED_16 (Or.inr ⟨(hw _ (List.mem_of_getElem? (i := 3) rfl)), (hw _ (List.mem_of_getElem? (i := 13) rfl))⟩)
  have E_SIGNED_16 : Exa s s.heap a_SIGNED_16 "com/example/channel/channel/protocol/FieldType$4" := Exa.start ev_SIGNED_16 hc3
  obtain ⟨a_UNSIGNED_16, ev_UNSIGNED_16⟩ := exa_v hc4
  have S_UNSIGNED_16 : Sta s s.heap "com/example/channel/channel/protocol/FieldType" "UNSIGNED_16" "Lcom/example/channel/channel/protocol/FieldType;" (.ref a_UNSIGNED_16) := Sta.start ev_UNSIGNED_16 (Or.inr ⟨(hw _ (List.mem_of_getElem? (i := 3) rfl)), (hw _ (List.mem_of_getElem? (i := 16) rfl))⟩)
  have E_UNSIGNED_16 : Exa s s.heap a_UNSIGNED_16 "com/example/channel/channel/protocol/FieldType$5" := Exa.start ev_UNSIGNED_16 hc4
  obtain ⟨a_SIGNED_32, ev_SIGNED_32⟩ := exa_v hc5
  have S_SIGNED_32 : Sta s s.heap "com/example/channel/channel/protocol/FieldType" "SIGNED_32" "Lcom/example/channel/channel/protocol/FieldType;" (.ref a_SIGNED_32) := Sta.start ev_SIGNED_32 (Or.inr ⟨(hw _ (List.mem_of_getElem? (i := 3) rfl)), (hw _ (List.mem_of_getElem? (i := 19) rfl))⟩)
  have E_SIGNED_32 : Exa s s.heap a_SIGNED_32 "com/example/channel/channel/protocol/FieldType$6" := Exa.start ev_SIGNED_32 hc5
  obtain ⟨a_UNSIGNED_32, ev_UNSIGNED_32⟩ := exa_v hc6
  have S_UNSIGNED_32 : Sta s s.heap "com/example/channel/channel/protocol/FieldType" "UNSIGNED_32" "Lcom/example/channel/channel/protocol/FieldType;" (.ref a_UNSIGNED_32) := Sta.start ev_UNSIGNED_32 (Or.inr ⟨(hw _ (List.mem_of_getElem? (i := 3) rfl)), (hw _ (List.mem_of_getElem? (i := 22) rfl))⟩)
  have E_UNSIGNED_32 : Exa s s.heap a_UNSIGNED_32 "com/example/channel/channel/protocol/FieldType$7" := Exa.start ev_UNSIGNED_32 hc6
  obtain ⟨a_SIGNED_64, ev_SIGNED_64⟩ := exa_v hc7
  have S_SIGNED_64 : Sta s s.heap "com/example/channel/channel/protocol/FieldType" "SIGNED_64" "Lcom/example/channel/channel/protocol/FieldType;" (.ref a_SIGNED_64) := Sta.start ev_SIGNED_64 (Or.inr ⟨(hw _ (List.mem_of_getElem? (i := 3) rfl)), (hw _ (List.mem_of_getElem? (i := 25) rfl))⟩)
  have E_SIGNED_64 : Exa s s.heap a_SIGNED_64 "com/example/channel/channel/protocol/FieldType$8" := Exa.start ev_SIGNED_64 hc7
  obtain ⟨a_FLOAT, ev_FLOAT⟩ := exa_v hc8
  have S_FLOAT : Sta s s.heap "com/example/channel/channel/protocol/FieldType" "FLOAT" "Lcom/example/channel/channel/protocol/FieldType;" (.ref a_FLOAT) := Sta.start ev_FLOAT (Or.inr ⟨(hw _ (List.mem_of_getElem? (i := 3) rfl)), (hw _ (List.mem_of_getElem? (i := 28) rfl))⟩)
  have E_FLOAT : Exa s s.heap a_FLOAT "com/example/channel/channel/protocol/FieldType$9" := Exa.start ev_FLOAT hc8
  obtain ⟨a_DOUBLE, ev_DOUBLE⟩ := exa_v hc9
  have S_DOUBLE : Sta s s.heap "com/example/channel/channel/protocol/FieldType" "DOUBLE" "Lcom/example/channel/channel/protocol/FieldType;" (.ref a_DOUBLE) := Sta.start ev_DOUBLE (Or.inr ⟨(hw _ (List.mem_of_getElem? (i := 3) rfl)), (hw _ (List.mem_of_getElem? (i := 31) rfl))⟩)
  have E_DOUBLE : Exa s s.heap a_DOUBLE "com/example/channel/channel/protocol/FieldType$10" := Exa.start ev_DOUBLE hc9
  obtain ⟨a_DECIMAL, ev_DECIMAL⟩ := exa_v hc10
  have S_DECIMAL : Sta s s.heap "com/example/channel/channel/protocol/FieldType" "DECIMAL" "Lcom/example/channel/channel/protocol/FieldType;" (.ref a_DECIMAL) := Sta.start ev_DECIMAL (Or.inr ⟨(hw _ (List.mem_of_getElem? (i := 3) rfl)), (hw _ (List.mem_of_getElem? (i := 34) rfl))⟩)
  have E_DECIMAL : Exa s s.heap a_DECIMAL "com/example/channel/channel/protocol/FieldType$11" := Exa.start ev_DECIMAL hc10
  obtain ⟨a_LONG_STRING, ev_LONG_STRING⟩ := exa_v hc11
  have S_LONG_STRING : Sta s s.heap "com/example/channel/channel/protocol/FieldType" "LONG_STRING" "Lcom/example/channel/channel/protocol/FieldType;" (.ref a_LONG_STRING) := Sta.start ev_LONG_STRING (Or.inr ⟨(hw _ (List.mem_of_getElem? (i := 3) rfl)), (hw _ (List.mem_of_getElem? (i := 37) rfl))⟩)
  have E_LONG_STRING : Exa s s.heap a_LONG_STRING "com/example/channel/channel/protocol/FieldType$12" := Exa.start ev_LONG_STRING hc11
  obtain ⟨a_BYTES, ev_BYTES⟩ := exa_v hc12
  have S_BYTES : Sta s s.heap "com/example/channel/channel/protocol/FieldType" "BYTES" "Lcom/example/channel/channel/protocol/FieldType;" (.ref a_BYTES) := Sta.start ev_BYTES (Or.inr ⟨(hw _ (List.mem_of_getElem? (i := 3) rfl)), (hw _ (List.mem_of_getElem? (i := 40) rfl))⟩)
  have E_BYTES : Exa s s.heap a_BYTES "com/example/channel/channel/protocol/FieldType$13" := Exa.start ev_BYTES hc12
  obtain ⟨a_ARRAY, ev_ARRAY⟩ := exa_v hc13
  have S_ARRAY : Sta s s.heap "com/example/channel/channel/protocol/FieldType" "ARRAY" "Lcom/example/channel/channel/protocol/FieldType;" (.ref a_ARRAY) := Sta.start ev_ARRAY (Or.inr ⟨(hw _ (List.mem_of_getElem? (i := 3) rfl)), (hw _ (List.mem_of_getElem? (i := 43) rfl))⟩)
  have E_ARRAY : Exa s s.heap a_ARRAY "com/example/channel/channel/protocol/FieldType$14" := Exa.start ev_ARRAY hc13
  obtain ⟨a_TIMESTAMP, ev_TIMESTAMP⟩ := exa_v hc14
  have S_TIMESTAMP : Sta s s.heap "com/example/channel/channel/protocol/FieldType" "TIMESTAMP" "Lcom/example/channel/channel/protocol/FieldType;" (.ref a_TIMESTAMP) := Sta.start ev_TIMESTAMP (Or.inr ⟨(hw _ (List.mem_of_getElem? (i := 3) rfl)), (hw _ (List.mem_of_getElem? (i := 46) rfl))⟩)
  have E_TIMESTAMP : Exa s s.heap a_TIMESTAMP "com/example/channel/channel/protocol/FieldType$15" := Exa.start ev_TIMESTAMP hc14
  obtain ⟨a_TABLE, ev_TABLE⟩ := exa_v hc15
  have S_TABLE : Sta s s.heap "com/example/channel/channel/protocol/FieldType" "TABLE" "Lcom/example/channel/channel/protocol/FieldType;" (.ref a_TABLE) := Sta.start ev_TABLE (Or.inr ⟨(hw _ (List.mem_of_getElem? (i := 3) rfl)), (hw _ (List.mem_of_getElem? (i := 49) rfl))⟩)
  have E_TABLE : Exa s s.heap a_TABLE "com/example/channel/channel/protocol/FieldType$16" := Exa.start ev_TABLE hc15
  obtain ⟨a_VOID, ev_VOID⟩ := exa_v hr15
  have S_VOID : Sta s s.heap "com/example/channel/channel/protocol/FieldType" "VOID" "Lcom/example/channel/channel/protocol/FieldType;" (.ref a_VOID) := Sta.start ev_VOID (Or.inr ⟨(hw _ (List.mem_of_getElem? (i := 3) rfl)), (hw _ (List.mem_of_getElem? (i := 52) rfl))⟩)
  have E_VOID : Exa s s.heap a_VOID "com/example/channel/channel/protocol/FieldType$17" := Exa.start ev_VOID hr15
  obtain ⟨n, o, h1, h2, h3, _, L, rfl, ⟨rfl, N⟩, hq⟩ := own_main (ws := tables_1) (own_law l s _ hw s.heap.size s.heap i0 (Nat.le_refl _) a_BOOLEAN S_BOOLEAN E_BOOLEAN a_SIGNED_8 S_SIGNED_8 E_SIGNED_8 a_UNSIGNED_8 S_UNSIGNED_8 E_UNSIGNED_8 a_SIGNED_16 S_SIGNED_16 E_SIGNED_16 a_UNSIGNED_16 S_UNSIGNED_16 E_UNSIGNED_16 a_SIGNED_32 S_SIGNED_32 E_SIGNED_32 a_UNSIGNED_32 S_UNSIGNED_32 E_UNSIGNED_32 a_SIGNED_64 S_SIGNED_64 E_SIGNED_64 a_FLOAT S_FLOAT E_FLOAT a_DOUBLE S_DOUBLE E_DOUBLE a_DECIMAL S_DECIMAL E_DECIMAL a_LONG_STRING S_LONG_STRING E_LONG_STRING a_BYTES S_BYTES E_BYTES a_ARRAY S_ARRAY E_ARRAY a_TIMESTAMP S_TIMESTAMP E_TIMESTAMP a_TABLE S_TABLE E_TABLE a_VOID S_VOID E_VOID) p e ha hc hk s m _ below hf ((Spec.applies_iff_loose hf).mp happ).1 ⟨rfl, State.Warmed39.refl s, rfl⟩ trivial
  refine ⟨n, _, h1, h2, h3, hpost _ _ _ _ _ _ ⟨Cond.after_iff.mpr rfl, Cond.after_iff.mpr (eq_i res_at (Term.int_eval (1)) rfl), trivial⟩ ⟨hq.1, hq.2.1, (hq.2.2.sift fun y hy => Or.inr (N y hy)).mono (by decide) (by decide)⟩⟩
theorem main_1_1 : Claimed_1_1 := comes_1 fun _ _ _ _ _ _ h hF => ⟨h.1, hF⟩
theorem main_1_2 : Claimed_1_2 := comes_1 fun _ _ _ _ _ _ h hF => ⟨h.2.1, hF⟩
end Jvm.Pilot.@@N@@
namespace Jvm.Pilot.@@N@@
open Jvm Jvm.ClassFile Sem Op Lib Jvm.Free Jvm.Stand Jvm.Pilot.@@N@@.Jvm.D
/-! MADE BY PROGRAM (witnessworld.py) out of the Statement's table words and the real class files: 30 classes; the members and pool entries that the words name. The judged class is class 1, her method 1. -/
namespace start1
open Jvm.ClassFile
def u (s : String) : CpInfo := .utf8 (stringToUtf16 s)
/-- a pool by its gaps: so many unusable entries, then the entry; so many at the end -/
def gap : Nat → List CpInfo → List CpInfo
  | 0, r => r
  | n + 1, r => .unusable :: gap n r
def poolList (es : List (Nat × CpInfo)) (last : Nat) : List CpInfo := es.foldr (fun e r => gap e.1 (e.2 :: r)) (gap last [])
def pool (es : List (Nat × CpInfo)) (last : Nat) : Array CpInfo := ⟨poolList es last⟩
def fileOf (pool : Array CpInfo) (this : Nat) (attrs : Array Attribute := #[]) (ms : Array MethodInfo := #[]) (fl : Nat := 33) (sup : Nat := 0) (ifs : Array Nat := #[]) (fds : Array FieldInfo := #[]) : ClassFile where
  minorVersion := 0
  majorVersion := 65
  constantPool := pool
  accessFlags := fl
  thisClass := this
  superClass := sup
  interfaces := ifs
  fields := fds
  methods := ms
  attributes := attrs
def plain (name : String) (sup : Option ClassId) : Class where
  name := name
  kind := .ordinary
  loader := none
  accessFlags := 33
  super := sup
  interfaces := #[]
  cf := none
  fields := #[]
  methods := #[]
  instanceTypes := #[]
  staticTypes := #[]
  resolved := #[]
  callSites := []
  init := .initialized
  statics := none
  mirror := none

def pool0 : Array CpInfo := pool [(5, u "<init>"), (0, u "()V"), (1, .class_ 10), (1, u "java/lang/Object")] 113

def k0m0 : Method := { name := "<init>", desc := "()V", sig := { parameters := [], returnType := none }, accessFlags := 1, code := none }
/-- java/lang/Object -/
def k0 : Class := { plain "java/lang/Object" none with
  accessFlags := 33
  interfaces := #[]
  cf := some (fileOf pool0 8 #[] #[{ accessFlags := 1, nameIndex := 5, descriptorIndex := 6, attributes := #[] }] 33 0 #[] #[])
  fields := #[]
  methods := #[k0m0]
  instanceTypes := #[]
  staticTypes := #[]
  resolved := Array.replicate 124 none
  statics := none }

def pool1 : Array CpInfo := pool [(2, .class_ 4), (1, u "java/lang/Object"), (0, u "<init>"), (0, u "()V"), (0, .class_ 8), (0, u "com/example/channel/channel/protocol/FieldType"), (0, .fieldref 7 10), (0, .nameAndType 11 12), (0, u "BOOLEAN"), (0, u "Lcom/example/channel/channel/protocol/FieldType;"), (0, .fieldref 7 14), (0, .nameAndType 15 12), (0, u "SIGNED_8"), (0, .fieldref 7 17), (0, .nameAndType 18 12), (0, u "UNSIGNED_8"), (0, .fieldref 7 20), (0, .nameAndType 21 12), (0, u "SIGNED_16"), (0, .fieldref 7 23), (0, .nameAndType 24 12), (0, u "UNSIGNED_16"), (0, .fieldref 7 26), (0, .nameAndType 27 12), (0, u "SIGNED_32"), (0, .fieldref 7 29), (0, .nameAndType 30 12), (0, u "UNSIGNED_32"), (0, .fieldref 7 32), (0, .nameAndType 33 12), (0, u "SIGNED_64"), (0, .fieldref 7 35), (0, .nameAndType 36 12), (0, u "FLOAT"), (0, .fieldref 7 38), (0, .nameAndType 39 12), (0, u "DOUBLE"), (0, .fieldref 7 41), (0, .nameAndType 42 12), (0, u "DECIMAL"), (0, .fieldref 7 44), (0, .nameAndType 45 12), (0, u "LONG_STRING"), (0, .fieldref 7 47), (0, .nameAndType 48 12), (0, u "BYTES"), (0, .fieldref 7 50), (0, .nameAndType 51 12), (0, u "ARRAY"), (0, .fieldref 7 53), (0, .nameAndType 54 12), (0, u "TIMESTAMP"), (0, .fieldref 7 56), (0, .nameAndType 57 12), (0, u "TABLE"), (0, .fieldref 7 59), (0, .nameAndType 60 12), (0, u "VOID"), (0, .integer 2147483647), (0, .methodref 7 63), (0, .nameAndType 64 65), (0, u "isInteger"), (0, u "()Z"), (0, .class_ 67), (0, u "com/example/channel/channel/protocol/FieldTypeIsIntegerPinLaw"), (2, u "law"), (0, u "(I)Z")] 5

def k1m0 : Method := { name := "<init>", desc := "()V", sig := { parameters := [], returnType := none }, accessFlags := 1, code := none }
def k1c1 : Code := { maxStack := 4, maxLocals := 4, code := code, exceptionTable := #[], attributes := #[] }
def k1m1 : Method := { name := "law", desc := "(I)Z", sig := { parameters := [.int], returnType := some .boolean }, accessFlags := 9, code := some k1c1 }
/-- com/example/channel/channel/protocol/FieldTypeIsIntegerPinLaw -/
def k1 : Class := { plain "com/example/channel/channel/protocol/FieldTypeIsIntegerPinLaw" (some 0) with
  accessFlags := 49
  interfaces := #[]
  cf := some (fileOf pool1 66 #[] #[{ accessFlags := 1, nameIndex := 5, descriptorIndex := 6, attributes := #[] }, { accessFlags := 9, nameIndex := 70, descriptorIndex := 71, attributes := #[] }] 49 2 #[] #[])
  fields := #[]
  methods := #[k1m0, k1m1]
  instanceTypes := #[]
  staticTypes := #[]
  resolved := Array.replicate 77 none
  statics := none }

def pool2 : Array CpInfo := pool [(1, .class_ 2), (0, u "java/lang/constant/Constable"), (0, .class_ 4), (0, u "java/lang/Object")] 6

/-- java/lang/constant/Constable -/
def k2 : Class := { plain "java/lang/constant/Constable" (some 0) with
  accessFlags := 1537
  interfaces := #[]
  cf := some (fileOf pool2 1 #[] #[] 1537 3 #[] #[])
  fields := #[]
  methods := #[]
  instanceTypes := #[]
  staticTypes := #[]
  resolved := Array.replicate 11 none
  statics := none }

def pool3 : Array CpInfo := pool [(1, .class_ 2), (0, u "java/lang/Comparable"), (0, .class_ 4), (0, u "java/lang/Object")] 7

/-- java/lang/Comparable -/
def k3 : Class := { plain "java/lang/Comparable" (some 0) with
  accessFlags := 1537
  interfaces := #[]
  cf := some (fileOf pool3 1 #[] #[] 1537 3 #[] #[])
  fields := #[]
  methods := #[]
  instanceTypes := #[]
  staticTypes := #[]
  resolved := Array.replicate 12 none
  statics := none }

def pool4 : Array CpInfo := pool [(1, .class_ 2), (0, u "java/io/Serializable"), (0, .class_ 4), (0, u "java/lang/Object")] 2

/-- java/io/Serializable -/
def k4 : Class := { plain "java/io/Serializable" (some 0) with
  accessFlags := 1537
  interfaces := #[]
  cf := some (fileOf pool4 1 #[] #[] 1537 3 #[] #[])
  fields := #[]
  methods := #[]
  instanceTypes := #[]
  staticTypes := #[]
  resolved := Array.replicate 7 none
  statics := none }

def pool5 : Array CpInfo := pool [(2, .class_ 4), (1, u "java/lang/Enum"), (0, u "name"), (0, u "Ljava/lang/String;"), (2, u "ordinal"), (0, u "I"), (1, .class_ 14), (1, u "java/lang/Object"), (4, u "hash"), (86, .class_ 108), (1, u "java/lang/Enum$EnumDesc"), (2, .class_ 112), (0, u "java/lang/constant/Constable"), (0, .class_ 114), (0, u "java/lang/Comparable"), (0, .class_ 116), (0, u "java/io/Serializable")] 87

/-- java/lang/Enum -/
def k5 : Class := { plain "java/lang/Enum" (some 0) with
  accessFlags := 1057
  interfaces := #[2, 3, 4]
  cf := some (fileOf pool5 2 #[.nestMembers #[106]] #[] 1057 12 #[111, 113, 115] #[{ accessFlags := 18, nameIndex := 5, descriptorIndex := 6, attributes := #[] }, { accessFlags := 18, nameIndex := 9, descriptorIndex := 10, attributes := #[] }, { accessFlags := 2, nameIndex := 19, descriptorIndex := 10, attributes := #[] }])
  fields := #[{ name := "name", type := (.object "java/lang/String"), accessFlags := 18, slot := 0, constantValue := 0 }, { name := "ordinal", type := .int, accessFlags := 18, slot := 1, constantValue := 0 }, { name := "hash", type := .int, accessFlags := 2, slot := 2, constantValue := 0 }]
  methods := #[]
  instanceTypes := #[(.object "java/lang/String"), .int, .int]
  staticTypes := #[]
  resolved := Array.replicate 204 none
  statics := none }

def pool6 : Array CpInfo := pool [(1, .class_ 2), (0, u "com/example/channel/channel/protocol/FieldType"), (2, u "BOOLEAN"), (0, u "Lcom/example/channel/channel/protocol/FieldType;"), (0, .fieldref 1 8), (0, .nameAndType 9 6), (0, u "SIGNED_8"), (0, .fieldref 1 11), (0, .nameAndType 12 6), (0, u "UNSIGNED_8"), (0, .fieldref 1 14), (0, .nameAndType 15 6), (0, u "SIGNED_16"), (0, .fieldref 1 17), (0, .nameAndType 18 6), (0, u "UNSIGNED_16"), (0, .fieldref 1 20), (0, .nameAndType 21 6), (0, u "SIGNED_32"), (0, .fieldref 1 23), (0, .nameAndType 24 6), (0, u "UNSIGNED_32"), (0, .fieldref 1 26), (0, .nameAndType 27 6), (0, u "SIGNED_64"), (2, u "FLOAT"), (2, u "DOUBLE"), (2, u "DECIMAL"), (2, u "LONG_STRING"), (2, u "BYTES"), (2, u "ARRAY"), (2, u "TIMESTAMP"), (2, u "TABLE"), (2, u "VOID"), (2, u "$VALUES"), (0, u "[Lcom/example/channel/channel/protocol/FieldType;"), (6, .class_ 67), (1, u "java/lang/Enum"), (8, u "tag"), (0, u "C"), (2, u "BY_TAG"), (0, .class_ 82), (0, u "com/example/channel/channel/protocol/FieldType$1"), (4, .class_ 88), (0, u "com/example/channel/channel/protocol/FieldType$2"), (2, .class_ 92), (0, u "com/example/channel/channel/protocol/FieldType$3"), (2, .class_ 96), (0, u "com/example/channel/channel/protocol/FieldType$4"), (2, .class_ 100), (0, u "com/example/channel/channel/protocol/FieldType$5"), (2, .class_ 104), (0, u "com/example/channel/channel/protocol/FieldType$6"), (2, .class_ 108), (0, u "com/example/channel/channel/protocol/FieldType$7"), (2, .class_ 112), (0, u "com/example/channel/channel/protocol/FieldType$8"), (2, .class_ 116), (0, u "com/example/channel/channel/protocol/FieldType$9"), (2, .class_ 120), (0, u "com/example/channel/channel/protocol/FieldType$10"), (2, .class_ 124), (0, u "com/example/channel/channel/protocol/FieldType$11"), (2, .class_ 128), (0, u "com/example/channel/channel/protocol/FieldType$12"), (2, .class_ 132), (0, u "com/example/channel/channel/protocol/FieldType$13"), (2, .class_ 136), (0, u "com/example/channel/channel/protocol/FieldType$14"), (2, .class_ 140), (0, u "com/example/channel/channel/protocol/FieldType$15"), (2, .class_ 144), (0, u "com/example/channel/channel/protocol/FieldType$16"), (2, .class_ 148), (0, u "com/example/channel/channel/protocol/FieldType$17"), (16, u "isInteger"), (0, u "()Z")] 22

def k6c0 : Code := { maxStack := 2, maxLocals := 1, code := prog_61_method_5_code, exceptionTable := #[], attributes := #[] }
def k6m0 : Method := { name := "isInteger", desc := "()Z", sig := { parameters := [], returnType := some .boolean }, accessFlags := 1, code := some k6c0 }
/-- com/example/channel/channel/protocol/FieldType -/
def k6 : Class := { plain "com/example/channel/channel/protocol/FieldType" (some 5) with
  accessFlags := 17441
  interfaces := #[]
  cf := some (fileOf pool6 1 #[.nestMembers #[147, 143, 139, 135, 131, 127, 123, 119, 115, 111, 107, 103, 99, 95, 91, 87, 81]] #[{ accessFlags := 1, nameIndex := 165, descriptorIndex := 166, attributes := #[] }] 17441 65 #[] #[{ accessFlags := 16409, nameIndex := 5, descriptorIndex := 6, attributes := #[] }, { accessFlags := 16409, nameIndex := 9, descriptorIndex := 6, attributes := #[] }, { accessFlags := 16409, nameIndex := 12, descriptorIndex := 6, attributes := #[] }, { accessFlags := 16409, nameIndex := 15, descriptorIndex := 6, attributes := #[] }, { accessFlags := 16409, nameIndex := 18, descriptorIndex := 6, attributes := #[] }, { accessFlags := 16409, nameIndex := 21, descriptorIndex := 6, attributes := #[] }, { accessFlags := 16409, nameIndex := 24, descriptorIndex := 6, attributes := #[] }, { accessFlags := 16409, nameIndex := 27, descriptorIndex := 6, attributes := #[] }, { accessFlags := 16409, nameIndex := 30, descriptorIndex := 6, attributes := #[] }, { accessFlags := 16409, nameIndex := 33, descriptorIndex := 6, attributes := #[] }, { accessFlags := 16409, nameIndex := 36, descriptorIndex := 6, attributes := #[] }, { accessFlags := 16409, nameIndex := 39, descriptorIndex := 6, attributes := #[] }, { accessFlags := 16409, nameIndex := 42, descriptorIndex := 6, attributes := #[] }, { accessFlags := 16409, nameIndex := 45, descriptorIndex := 6, attributes := #[] }, { accessFlags := 16409, nameIndex := 48, descriptorIndex := 6, attributes := #[] }, { accessFlags := 16409, nameIndex := 51, descriptorIndex := 6, attributes := #[] }, { accessFlags := 16409, nameIndex := 54, descriptorIndex := 6, attributes := #[] }, { accessFlags := 26, nameIndex := 80, descriptorIndex := 58, attributes := #[] }, { accessFlags := 18, nameIndex := 76, descriptorIndex := 77, attributes := #[] }, { accessFlags := 4122, nameIndex := 57, descriptorIndex := 58, attributes := #[] }])
  fields := #[{ name := "BOOLEAN", type := (.object "com/example/channel/channel/protocol/FieldType"), accessFlags := 16409, slot := 0, constantValue := 0 }, { name := "SIGNED_8", type := (.object "com/example/channel/channel/protocol/FieldType"), accessFlags := 16409, slot := 1, constantValue := 0 }, { name := "UNSIGNED_8", type := (.object "com/example/channel/channel/protocol/FieldType"), accessFlags := 16409, slot := 2, constantValue := 0 }, { name := "SIGNED_16", type := (.object "com/example/channel/channel/protocol/FieldType"), accessFlags := 16409, slot := 3, constantValue := 0 }, { name := "UNSIGNED_16", type := (.object "com/example/channel/channel/protocol/FieldType"), accessFlags := 16409, slot := 4, constantValue := 0 }, { name := "SIGNED_32", type := (.object "com/example/channel/channel/protocol/FieldType"), accessFlags := 16409, slot := 5, constantValue := 0 }, { name := "UNSIGNED_32", type := (.object "com/example/channel/channel/protocol/FieldType"), accessFlags := 16409, slot := 6, constantValue := 0 }, { name := "SIGNED_64", type := (.object "com/example/channel/channel/protocol/FieldType"), accessFlags := 16409, slot := 7, constantValue := 0 }, { name := "FLOAT", type := (.object "com/example/channel/channel/protocol/FieldType"), accessFlags := 16409, slot := 8, constantValue := 0 }, { name := "DOUBLE", type := (.object "com/example/channel/channel/protocol/FieldType"), accessFlags := 16409, slot := 9, constantValue := 0 }, { name := "DECIMAL", type := (.object "com/example/channel/channel/protocol/FieldType"), accessFlags := 16409, slot := 10, constantValue := 0 }, { name := "LONG_STRING", type := (.object "com/example/channel/channel/protocol/FieldType"), accessFlags := 16409, slot := 11, constantValue := 0 }, { name := "BYTES", type := (.object "com/example/channel/channel/protocol/FieldType"), accessFlags := 16409, slot := 12, constantValue := 0 }, { name := "ARRAY", type := (.object "com/example/channel/channel/protocol/FieldType"), accessFlags := 16409, slot := 13, constantValue := 0 }, { name := "TIMESTAMP", type := (.object "com/example/channel/channel/protocol/FieldType"), accessFlags := 16409, slot := 14, constantValue := 0 }, { name := "TABLE", type := (.object "com/example/channel/channel/protocol/FieldType"), accessFlags := 16409, slot := 15, constantValue := 0 }, { name := "VOID", type := (.object "com/example/channel/channel/protocol/FieldType"), accessFlags := 16409, slot := 16, constantValue := 0 }, { name := "BY_TAG", type := (.array (.object "com/example/channel/channel/protocol/FieldType")), accessFlags := 26, slot := 17, constantValue := 0 }, { name := "tag", type := .char, accessFlags := 18, slot := 3, constantValue := 0 }, { name := "$VALUES", type := (.array (.object "com/example/channel/channel/protocol/FieldType")), accessFlags := 4122, slot := 18, constantValue := 0 }]
  methods := #[k6m0]
  instanceTypes := #[(.object "java/lang/String"), .int, .int, .char]
  staticTypes := #[(.object "com/example/channel/channel/protocol/FieldType"), (.object "com/example/channel/channel/protocol/FieldType"), (.object "com/example/channel/channel/protocol/FieldType"), (.object "com/example/channel/channel/protocol/FieldType"), (.object "com/example/channel/channel/protocol/FieldType"), (.object "com/example/channel/channel/protocol/FieldType"), (.object "com/example/channel/channel/protocol/FieldType"), (.object "com/example/channel/channel/protocol/FieldType"), (.object "com/example/channel/channel/protocol/FieldType"), (.object "com/example/channel/channel/protocol/FieldType"), (.object "com/example/channel/channel/protocol/FieldType"), (.object "com/example/channel/channel/protocol/FieldType"), (.object "com/example/channel/channel/protocol/FieldType"), (.object "com/example/channel/channel/protocol/FieldType"), (.object "com/example/channel/channel/protocol/FieldType"), (.object "com/example/channel/channel/protocol/FieldType"), (.object "com/example/channel/channel/protocol/FieldType"), (.array (.object "com/example/channel/channel/protocol/FieldType")), (.array (.object "com/example/channel/channel/protocol/FieldType"))]
  resolved := Array.replicate 189 none
  statics := some 0 }

def pool7 : Array CpInfo := pool [(2, .class_ 4), (1, u "com/example/channel/channel/protocol/FieldType"), (22, .class_ 28), (0, u "com/example/channel/channel/protocol/FieldType$1")] 19

/-- com/example/channel/channel/protocol/FieldType$1 -/
def k7 : Class := { plain "com/example/channel/channel/protocol/FieldType$1" (some 6) with
  accessFlags := 16432
  interfaces := #[]
  cf := some (fileOf pool7 27 #[.nestHost 2] #[] 16432 2 #[] #[])
  fields := #[]
  methods := #[]
  instanceTypes := #[(.object "java/lang/String"), .int, .int, .char]
  staticTypes := #[]
  resolved := Array.replicate 48 none
  statics := none }

def pool8 : Array CpInfo := pool [(2, .class_ 4), (1, u "com/example/channel/channel/protocol/FieldType"), (21, .class_ 27), (0, u "com/example/channel/channel/protocol/FieldType$2")] 16

/-- com/example/channel/channel/protocol/FieldType$2 -/
def k8 : Class := { plain "com/example/channel/channel/protocol/FieldType$2" (some 6) with
  accessFlags := 16432
  interfaces := #[]
  cf := some (fileOf pool8 26 #[.nestHost 2] #[] 16432 2 #[] #[])
  fields := #[]
  methods := #[]
  instanceTypes := #[(.object "java/lang/String"), .int, .int, .char]
  staticTypes := #[]
  resolved := Array.replicate 44 none
  statics := none }

def pool9 : Array CpInfo := pool [(2, .class_ 4), (1, u "com/example/channel/channel/protocol/FieldType"), (28, .class_ 34), (0, u "com/example/channel/channel/protocol/FieldType$3")] 17

/-- com/example/channel/channel/protocol/FieldType$3 -/
def k9 : Class := { plain "com/example/channel/channel/protocol/FieldType$3" (some 6) with
  accessFlags := 16432
  interfaces := #[]
  cf := some (fileOf pool9 33 #[.nestHost 2] #[] 16432 2 #[] #[])
  fields := #[]
  methods := #[]
  instanceTypes := #[(.object "java/lang/String"), .int, .int, .char]
  staticTypes := #[]
  resolved := Array.replicate 52 none
  statics := none }

def pool10 : Array CpInfo := pool [(2, .class_ 4), (1, u "com/example/channel/channel/protocol/FieldType"), (21, .class_ 27), (0, u "com/example/channel/channel/protocol/FieldType$4")] 16

/-- com/example/channel/channel/protocol/FieldType$4 -/
def k10 : Class := { plain "com/example/channel/channel/protocol/FieldType$4" (some 6) with
  accessFlags := 16432
  interfaces := #[]
  cf := some (fileOf pool10 26 #[.nestHost 2] #[] 16432 2 #[] #[])
  fields := #[]
  methods := #[]
  instanceTypes := #[(.object "java/lang/String"), .int, .int, .char]
  staticTypes := #[]
  resolved := Array.replicate 44 none
  statics := none }

def pool11 : Array CpInfo := pool [(2, .class_ 4), (1, u "com/example/channel/channel/protocol/FieldType"), (29, .class_ 35), (0, u "com/example/channel/channel/protocol/FieldType$5")] 17

/-- com/example/channel/channel/protocol/FieldType$5 -/
def k11 : Class := { plain "com/example/channel/channel/protocol/FieldType$5" (some 6) with
  accessFlags := 16432
  interfaces := #[]
  cf := some (fileOf pool11 34 #[.nestHost 2] #[] 16432 2 #[] #[])
  fields := #[]
  methods := #[]
  instanceTypes := #[(.object "java/lang/String"), .int, .int, .char]
  staticTypes := #[]
  resolved := Array.replicate 53 none
  statics := none }

def pool12 : Array CpInfo := pool [(2, .class_ 4), (1, u "com/example/channel/channel/protocol/FieldType"), (21, .class_ 27), (0, u "com/example/channel/channel/protocol/FieldType$6")] 16

/-- com/example/channel/channel/protocol/FieldType$6 -/
def k12 : Class := { plain "com/example/channel/channel/protocol/FieldType$6" (some 6) with
  accessFlags := 16432
  interfaces := #[]
  cf := some (fileOf pool12 26 #[.nestHost 2] #[] 16432 2 #[] #[])
  fields := #[]
  methods := #[]
  instanceTypes := #[(.object "java/lang/String"), .int, .int, .char]
  staticTypes := #[]
  resolved := Array.replicate 44 none
  statics := none }

def pool13 : Array CpInfo := pool [(2, .class_ 4), (1, u "com/example/channel/channel/protocol/FieldType"), (30, .class_ 36), (0, u "com/example/channel/channel/protocol/FieldType$7")] 17

/-- com/example/channel/channel/protocol/FieldType$7 -/
def k13 : Class := { plain "com/example/channel/channel/protocol/FieldType$7" (some 6) with
  accessFlags := 16432
  interfaces := #[]
  cf := some (fileOf pool13 35 #[.nestHost 2] #[] 16432 2 #[] #[])
  fields := #[]
  methods := #[]
  instanceTypes := #[(.object "java/lang/String"), .int, .int, .char]
  staticTypes := #[]
  resolved := Array.replicate 54 none
  statics := none }

def pool14 : Array CpInfo := pool [(2, .class_ 4), (1, u "com/example/channel/channel/protocol/FieldType"), (21, .class_ 27), (0, u "com/example/channel/channel/protocol/FieldType$8")] 16

/-- com/example/channel/channel/protocol/FieldType$8 -/
def k14 : Class := { plain "com/example/channel/channel/protocol/FieldType$8" (some 6) with
  accessFlags := 16432
  interfaces := #[]
  cf := some (fileOf pool14 26 #[.nestHost 2] #[] 16432 2 #[] #[])
  fields := #[]
  methods := #[]
  instanceTypes := #[(.object "java/lang/String"), .int, .int, .char]
  staticTypes := #[]
  resolved := Array.replicate 44 none
  statics := none }

def pool15 : Array CpInfo := pool [(2, .class_ 4), (1, u "com/example/channel/channel/protocol/FieldType"), (21, .class_ 27), (0, u "com/example/channel/channel/protocol/FieldType$9")] 16

/-- com/example/channel/channel/protocol/FieldType$9 -/
def k15 : Class := { plain "com/example/channel/channel/protocol/FieldType$9" (some 6) with
  accessFlags := 16432
  interfaces := #[]
  cf := some (fileOf pool15 26 #[.nestHost 2] #[] 16432 2 #[] #[])
  fields := #[]
  methods := #[]
  instanceTypes := #[(.object "java/lang/String"), .int, .int, .char]
  staticTypes := #[]
  resolved := Array.replicate 44 none
  statics := none }

def pool16 : Array CpInfo := pool [(2, .class_ 4), (1, u "com/example/channel/channel/protocol/FieldType"), (21, .class_ 27), (0, u "com/example/channel/channel/protocol/FieldType$10")] 16

/-- com/example/channel/channel/protocol/FieldType$10 -/
def k16 : Class := { plain "com/example/channel/channel/protocol/FieldType$10" (some 6) with
  accessFlags := 16432
  interfaces := #[]
  cf := some (fileOf pool16 26 #[.nestHost 2] #[] 16432 2 #[] #[])
  fields := #[]
  methods := #[]
  instanceTypes := #[(.object "java/lang/String"), .int, .int, .char]
  staticTypes := #[]
  resolved := Array.replicate 44 none
  statics := none }

def pool17 : Array CpInfo := pool [(2, .class_ 4), (1, u "com/example/channel/channel/protocol/FieldType"), (45, .class_ 51), (0, u "com/example/channel/channel/protocol/FieldType$11")] 17

/-- com/example/channel/channel/protocol/FieldType$11 -/
def k17 : Class := { plain "com/example/channel/channel/protocol/FieldType$11" (some 6) with
  accessFlags := 16432
  interfaces := #[]
  cf := some (fileOf pool17 50 #[.nestHost 2] #[] 16432 2 #[] #[])
  fields := #[]
  methods := #[]
  instanceTypes := #[(.object "java/lang/String"), .int, .int, .char]
  staticTypes := #[]
  resolved := Array.replicate 69 none
  statics := none }

def pool18 : Array CpInfo := pool [(2, .class_ 4), (1, u "com/example/channel/channel/protocol/FieldType"), (14, .class_ 20), (0, u "com/example/channel/channel/protocol/FieldType$12")] 19

/-- com/example/channel/channel/protocol/FieldType$12 -/
def k18 : Class := { plain "com/example/channel/channel/protocol/FieldType$12" (some 6) with
  accessFlags := 16432
  interfaces := #[]
  cf := some (fileOf pool18 19 #[.nestHost 2] #[] 16432 2 #[] #[])
  fields := #[]
  methods := #[]
  instanceTypes := #[(.object "java/lang/String"), .int, .int, .char]
  staticTypes := #[]
  resolved := Array.replicate 40 none
  statics := none }

def pool19 : Array CpInfo := pool [(2, .class_ 4), (1, u "com/example/channel/channel/protocol/FieldType"), (14, .class_ 20), (0, u "com/example/channel/channel/protocol/FieldType$13")] 19

/-- com/example/channel/channel/protocol/FieldType$13 -/
def k19 : Class := { plain "com/example/channel/channel/protocol/FieldType$13" (some 6) with
  accessFlags := 16432
  interfaces := #[]
  cf := some (fileOf pool19 19 #[.nestHost 2] #[] 16432 2 #[] #[])
  fields := #[]
  methods := #[]
  instanceTypes := #[(.object "java/lang/String"), .int, .int, .char]
  staticTypes := #[]
  resolved := Array.replicate 40 none
  statics := none }

def pool20 : Array CpInfo := pool [(2, .class_ 4), (1, u "com/example/channel/channel/protocol/FieldType"), (53, .class_ 60), (1, u "com/example/channel/channel/protocol/FieldType$14")] 24

/-- com/example/channel/channel/protocol/FieldType$14 -/
def k20 : Class := { plain "com/example/channel/channel/protocol/FieldType$14" (some 6) with
  accessFlags := 16432
  interfaces := #[]
  cf := some (fileOf pool20 58 #[.nestHost 2] #[] 16432 2 #[] #[])
  fields := #[]
  methods := #[]
  instanceTypes := #[(.object "java/lang/String"), .int, .int, .char]
  staticTypes := #[]
  resolved := Array.replicate 85 none
  statics := none }

def pool21 : Array CpInfo := pool [(2, .class_ 4), (1, u "com/example/channel/channel/protocol/FieldType"), (21, .class_ 27), (0, u "com/example/channel/channel/protocol/FieldType$15")] 16

/-- com/example/channel/channel/protocol/FieldType$15 -/
def k21 : Class := { plain "com/example/channel/channel/protocol/FieldType$15" (some 6) with
  accessFlags := 16432
  interfaces := #[]
  cf := some (fileOf pool21 26 #[.nestHost 2] #[] 16432 2 #[] #[])
  fields := #[]
  methods := #[]
  instanceTypes := #[(.object "java/lang/String"), .int, .int, .char]
  staticTypes := #[]
  resolved := Array.replicate 44 none
  statics := none }

def pool22 : Array CpInfo := pool [(2, .class_ 4), (1, u "com/example/channel/channel/protocol/FieldType"), (16, .class_ 22), (0, u "com/example/channel/channel/protocol/FieldType$16")] 16

/-- com/example/channel/channel/protocol/FieldType$16 -/
def k22 : Class := { plain "com/example/channel/channel/protocol/FieldType$16" (some 6) with
  accessFlags := 16432
  interfaces := #[]
  cf := some (fileOf pool22 21 #[.nestHost 2] #[] 16432 2 #[] #[])
  fields := #[]
  methods := #[]
  instanceTypes := #[(.object "java/lang/String"), .int, .int, .char]
  staticTypes := #[]
  resolved := Array.replicate 39 none
  statics := none }

def pool23 : Array CpInfo := pool [(2, .class_ 4), (1, u "com/example/channel/channel/protocol/FieldType"), (2, .class_ 8), (0, u "com/example/channel/channel/protocol/FieldType$17")] 17

/-- com/example/channel/channel/protocol/FieldType$17 -/
def k23 : Class := { plain "com/example/channel/channel/protocol/FieldType$17" (some 6) with
  accessFlags := 16432
  interfaces := #[]
  cf := some (fileOf pool23 7 #[.nestHost 2] #[] 16432 2 #[] #[])
  fields := #[]
  methods := #[]
  instanceTypes := #[(.object "java/lang/String"), .int, .int, .char]
  staticTypes := #[]
  resolved := Array.replicate 26 none
  statics := none }

def pool24 : Array CpInfo := pool [(1, u "java/lang/Cloneable"), (0, .class_ 1), (0, u "java/lang/Object"), (0, .class_ 3)] 3

/-- java/lang/Cloneable -/
def k24 : Class := { plain "java/lang/Cloneable" (some 0) with
  accessFlags := 1537
  interfaces := #[]
  cf := some (fileOf pool24 2 #[] #[] 1537 4 #[] #[])
  fields := #[]
  methods := #[]
  instanceTypes := #[]
  staticTypes := #[]
  resolved := Array.replicate 8 none
  statics := none }

/-- the primitive byte -/
def k25 : Class := { plain "byte" none with kind := .primitive 'B', accessFlags := 0x411 }
/-- [B -/
def k26 : Class := { plain "[B" (some 0) with kind := .array 25 .byte, interfaces := #[24, 4], accessFlags := 1041 }

/-- the primitive int -/
def k27 : Class := { plain "int" none with kind := .primitive 'I', accessFlags := 0x411 }
/-- [I -/
def k28 : Class := { plain "[I" (some 0) with kind := .array 27 .int, interfaces := #[24, 4], accessFlags := 1041 }

/-- [Lcom/example/channel/channel/protocol/FieldType; -/
def k29 : Class := { plain "[Lcom/example/channel/channel/protocol/FieldType;" (some 0) with kind := .array 6 (.object "com/example/channel/channel/protocol/FieldType"), interfaces := #[24, 4], accessFlags := 1041 }

def heap : Heap := #[{ cls := 6, slots := #[.ref 1, .ref 2, .ref 3, .ref 4, .ref 5, .ref 6, .ref 7, .ref 8, .ref 9, .ref 10, .ref 11, .ref 12, .ref 13, .ref 14, .ref 15, .ref 16, .ref 17, .null, .null], vm := .statics 6 },
  { cls := 7, slots := #[.null, .int 0, .int 0, .int 65], vm := .none },
  { cls := 8, slots := #[.null, .int 1, .int 0, .int 65], vm := .none },
  { cls := 9, slots := #[.null, .int 2, .int 0, .int 65], vm := .none },
  { cls := 10, slots := #[.null, .int 3, .int 0, .int 65], vm := .none },
  { cls := 11, slots := #[.null, .int 4, .int 0, .int 65], vm := .none },
  { cls := 12, slots := #[.null, .int 5, .int 0, .int 65], vm := .none },
  { cls := 13, slots := #[.null, .int 6, .int 0, .int 65], vm := .none },
  { cls := 14, slots := #[.null, .int 7, .int 0, .int 65], vm := .none },
  { cls := 15, slots := #[.null, .int 8, .int 0, .int 65], vm := .none },
  { cls := 16, slots := #[.null, .int 9, .int 0, .int 65], vm := .none },
  { cls := 17, slots := #[.null, .int 10, .int 0, .int 65], vm := .none },
  { cls := 18, slots := #[.null, .int 11, .int 0, .int 65], vm := .none },
  { cls := 19, slots := #[.null, .int 12, .int 0, .int 65], vm := .none },
  { cls := 20, slots := #[.null, .int 13, .int 0, .int 65], vm := .none },
  { cls := 21, slots := #[.null, .int 14, .int 0, .int 65], vm := .none },
  { cls := 22, slots := #[.null, .int 15, .int 0, .int 65], vm := .none },
  { cls := 23, slots := #[.null, .int 16, .int 0, .int 65], vm := .none }]
def classes : Array Class := #[k0, k1, k2, k3, k4, k5, k6, k7, k8, k9, k10, k11, k12, k13, k14, k15, k16, k17, k18, k19, k20, k21, k22, k23, k24, k25, k26, k27, k28, k29]
def interned : List (Array UInt16 × Addr) := []
def slotsUsed : Nat := 87
def theMethod : MethodId := ⟨1, 1⟩
def args0 : Array Value := #[.int 5]
def aboutOver (below : List Frame) : State where
  vm := { classes := classes, interned := interned.toArray }
  heap := heap
  slotsUsed := slotsUsed
  threads := #[{ frames := .invoking theMethod args0 :: below }]
def below0 : List Frame := [.native { method := ⟨0, 0⟩, args := #[] }]
def about1 : State := aboutOver below0
def p0 : Program := .bare "" "" ""
def e0 : Env := launch0.env 0 0 0
theorem w_frames : about1.frames = Frame.invoking theMethod args0 :: below0 := rfl
set_option maxRecDepth 65536 in
theorem w_args : argsFit about1.vm theMethod args0 = true := by decide +kernel
set_option maxRecDepth 65536 in
theorem w_heap : heapFits about1 = true := by decide +kernel
set_option maxRecDepth 65536 in
theorem w_runnable : about1.curStatus? = some .runnable := by decide +kernel
set_option maxRecDepth 65536 in
theorem w_alone : about1.alone = true := by decide +kernel
set_option maxRecDepth 65536 in
theorem w_named : about1.methodNamed? x = some theMethod := by decide +kernel
set_option maxRecDepth 65536 in
theorem w_hears : about1.hears theMethod below0 = true := by decide +kernel
set_option maxRecDepth 65536 in
theorem w_ripe : about1.ripe theMethod args0 below0 = true := by decide +kernel
theorem w_running : about1.status = .running := rfl
set_option maxRecDepth 65536 in
theorem w_room : about1.hasRoom e0.platform room_1 = true :=
  launch0.hasRoom_least _ room_1 (by decide +kernel) (by decide +kernel) (by decide +kernel) (by decide +kernel) (by decide +kernel) (by decide +kernel)
theorem allAtoms_all (ts : List Jvm.Cond) (a : Array Jvm.Value) (st : Jvm.State) : (allAtoms ts).before a st = ts.all (fun c => c.before a st) := by
  induction ts with
  | nil => rfl
  | cons c t ih =>
    show (Jvm.Cond.and c (allAtoms t)).before a st = _
    rw [Jvm.Cond.before_and, ih, List.all_cons]
def words1 : List Jvm.Cond := Jvm.Cond.code x code maxLocals ret :: tables_1
/-- a 'code' word, met by the world's own term for the bytes: nothing is compared byte by byte -/
theorem code_word {y : MethodName} {bytes : ByteArray} {mx : Nat} {rt : Option FieldType} {a : Array Value} {s : State} {m : MethodId} {meth : Method} {c : Code} (h1 : s.methodNamed? y = some m) (h2 : s.vm.method? m = some meth) (h3 : meth.code = some c) (h4 : c.code = bytes)
    (h5 : (c.maxLocals == mx && c.exceptionTable.isEmpty && decide (c.maxStack ≤ mostOperands) && decide (meth.sig.returnType = rt) && !meth.locks && decide (parseMethodDescriptor y.desc = some meth.sig)) = true) : (Jvm.Cond.code y bytes mx rt).before a s = true := by
  simp only [Bool.and_eq_true, beq_iff_eq, Bool.not_eq_true', decide_eq_true_eq] at h5
  obtain ⟨⟨⟨⟨⟨g1, g2⟩, g3⟩, g4⟩, g5⟩, g6⟩ := h5
  simp [Cond.before, Cond.holds, Cond.value, h1, h2, h3, h4, g1, g2, g3, g4, g5, g6]
def isCode : Jvm.Cond → Bool
  | .code _ _ _ _ => true
  | _ => false
theorem all_split {L : List Jvm.Cond} {P : Jvm.Cond → Bool} (h1 : L.all (fun c => isCode c || P c) = true) (h2 : ∀ c ∈ L.filter isCode, P c = true) : L.all P = true := by
  refine List.all_eq_true.mpr fun c hc => ?_
  have h := List.all_eq_true.mp h1 c hc
  rcases Bool.eq_false_or_eq_true (isCode c) with hi | hi
  · exact h2 c (List.mem_filter.mpr ⟨hc, hi⟩)
  · simpa [hi] using h
set_option maxRecDepth 65536 in
theorem w_c0 : (Jvm.Cond.code x code maxLocals ret).before args0 about1 = true := code_word (m := ⟨1, 1⟩) (meth := k1m1) (c := k1c1) (by decide +kernel) rfl rfl rfl (by decide +kernel)
set_option maxRecDepth 65536 in
theorem w_c1 : (Jvm.Cond.code ({ cls := "com/example/channel/channel/protocol/FieldType", name := "isInteger", desc := "()Z" } : Jvm.MethodName) prog_61_method_5_code (1 : Nat) (Option.some Jvm.ClassFile.FieldType.boolean)).before args0 about1 = true := code_word (m := ⟨6, 0⟩) (meth := k6m0) (c := k6c0) (by decide +kernel) rfl rfl rfl (by decide +kernel)
def codes1 : List Jvm.Cond := [Jvm.Cond.code x code maxLocals ret, Jvm.Cond.code ({ cls := "com/example/channel/channel/protocol/FieldType", name := "isInteger", desc := "()Z" } : Jvm.MethodName) prog_61_method_5_code (1 : Nat) (Option.some Jvm.ClassFile.FieldType.boolean)]
set_option maxRecDepth 65536 in
theorem codes_eq : words1.filter isCode = codes1 := rfl
theorem w_codes : ∀ c ∈ words1.filter isCode, c.before args0 about1 = true := by
  rw [codes_eq]
  intro c hc
  simp only [codes1, List.mem_cons, List.not_mem_nil, or_false] at hc
  rcases hc with rfl | rfl
  · exact w_c0
  · exact w_c1
set_option maxRecDepth 65536 in
theorem w_t1 : (words1.take 24).all (fun c => isCode c || c.before args0 about1) = true := by decide +kernel
set_option maxRecDepth 65536 in
theorem w_t2 : ((words1.drop 24).take 24).all (fun c => isCode c || c.before args0 about1) = true := by decide +kernel
set_option maxRecDepth 65536 in
theorem w_t3 : (((words1.drop 24).drop 24).take 24).all (fun c => isCode c || c.before args0 about1) = true := by decide +kernel
set_option maxRecDepth 65536 in
theorem w_t4 : (((words1.drop 24).drop 24).drop 24).all (fun c => isCode c || c.before args0 about1) = true := by decide +kernel
theorem w_tables : (allAtoms (Jvm.Cond.code x code maxLocals ret :: tables_1)).before args0 about1 = true := by
  rw [allAtoms_all]
  show words1.all (fun c => c.before args0 about1) = true
  refine all_split ?_ w_codes
  rw [← List.take_append_drop 24 words1, List.all_append, w_t1, ← List.take_append_drop 24 (words1.drop 24), List.all_append, w_t2, ← List.take_append_drop 24 ((words1.drop 24).drop 24), List.all_append, w_t3, w_t4]
  rfl
set_option maxRecDepth 65536 in
theorem w_case : (Jvm.Cond.and given_1 narrow_1).before args0 about1 = true := by decide +kernel
theorem w_applies : (headSpec (Jvm.Cond.code x code maxLocals ret :: tables_1) room_1).applies x e0.platform about1 = true :=
  (Spec.applies_iff w_frames).mpr ⟨w_running, w_runnable, w_alone, w_named, w_hears, w_ripe, w_room, w_tables⟩
theorem atStart : AtStart classFile x code maxLocals ret World_1 tables_1 room_1 Calls_1 rest_1 Pre_1 launch0 p0 e0 about1 theMethod args0 below0 :=
  ⟨lists_1, trivial, launch0.admits_env _ _ _, launch0.least_env, fairChoices_fair.cas, fairChoices_fair.clock, w_frames, w_args, w_heap, w_applies, trivial, trivial, w_case⟩
end start1
theorem witness_1 : WitnessClaimed_1 := ⟨start1.p0, start1.e0, start1.about1, start1.theMethod, start1.args0, start1.below0, start1.atStart⟩
end Jvm.Pilot.@@N@@
