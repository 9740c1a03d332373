import JvmDerived
import JvmDerived.Pilot.@@N@@Statement
import JvmDerived.Pilot.@@N@@Code
set_option linter.unusedVariables false
set_option linter.unusedSimpArgs false
namespace Jvm.OwnKit
open Jvm Sem ClassFile Op Lib Jvm.Stand Jvm.Free Jvm.LawKit Jvm.RoadKit
/-- fresh since the law began, in the heap, booked by no table -/
def Mine (Z : State) (EL : List (String × Nat)) (vm : Vm) (h : Heap) (mine : List Addr) : Prop := ∀ x ∈ mine, Z.heap.size ≤ x ∧ x < h.size ∧ Safe Z EL vm h x
/-- the frame of an end: the wide one always, the narrow one where nothing may be interned -/
def Fin2 (w : Bool) (s : State) (o : Outcome) (t : State) (L : List Loc) (k n : Nat) : Prop := ReturnedEndW s o t L k n ∧ (w = false → FrameEnd s o t L k n)
/-- what the end of a body says -/
def EndQ (w : Bool) (Z : State) (EL : List (String × Nat)) (Q : Option Value → Heap → List Addr → Prop) (R : Room) (s : State) (o : Outcome) (t : State) : Prop :=
  ∃ (v : Option Value) (L : List Loc) (out : List Addr), o = .returned v ∧ Q v t.heap out ∧ Fr Z.heap.size L ∧ Mine Z EL t.vm t.heap out ∧ CHr Z EL s.vm s.heap t.vm t.heap ∧ Ext Z.heap t.heap ∧ Fin2 w s o t L R.cells R.slots
/-- what is known of the body -/
def Ctx (Z : State) (EL : List (String × Nat)) (nm : String) (code : ByteArray) (ml : Nat) (ret : Option FieldType) (p : Program) (meth : Method) (c : Code) : Prop :=
  p.tables.exec = Jvm.exec ∧ c.code = code ∧ c.maxLocals = ml ∧ meth.sig.returnType = ret ∧ meth.locks = false ∧ meth.name = nm ∧ ∃ a0 : Array Value, EW Z a0 EL
/-- where the walk stands, its frame apart -/
def Cfg (l : Launch) (w : Bool) (Z : State) (EL : List (String × Nat)) (own : String) (R : Room) (h : Heap) (mine : List Addr) (kc kn : Nat) (p : Program) (e : Env) (s : State) (m : MethodId) (args : Array Value) (below : List Frame) (meth : Method) (c : Code) (T : State) : Prop :=
  ∃ (vm0 : Vm) (k0 : Nat) (locs : List Loc), Stand p l e R (s.setVm vm0) m args below meth c T locs kc kn ∧ T.heap = h ∧ s.Since vm0 k0 ∧ k0 ≤ h.size ∧ Z.Warmed39 vm0 ∧ vm0.findClass own = some m.cls ∧ CHr Z EL s.vm s.heap vm0 h ∧ Fr Z.heap.size locs ∧ Ext Z.heap h ∧ Mine Z EL vm0 h mine ∧ (w = false → vm0 = s.vm)
/-- from here the body comes to its end -/
def Go (l : Launch) (w : Bool) (Z : State) (EL : List (String × Nat)) (own nm : String) (code : ByteArray) (ml : Nat) (ret : Option FieldType) (R : Room) (Q : Option Value → Heap → List Addr → Prop) (h : Heap) (mine : List Addr) (kc kn pc : Nat) (Ls : Array Slot) (st : List Value) : Prop :=
  ∀ (p : Program) (e : Env) (s : State) (m : MethodId) (args : Array Value) (below : List Frame) (meth : Method) (c : Code) (T : State), Ctx Z EL nm code ml ret p meth c → Cfg l w Z EL own R h mine kc kn p e s m args below meth c T →
    ∃ (t : State) (o : Outcome), Steps p.tables e below (T.setTop (mkF m pc Ls st)) t ∧ t.status = .running ∧ Ended t below o ∧ EndQ w Z EL Q R s o t
/-- a contract -/
def Con (l : Launch) (w : Bool) (Z : State) (EL : List (String × Nat)) (y : MethodName) (code : ByteArray) (ml : Nat) (ret : Option FieldType) (ws : List Jvm.Cond) (R : Room) (as' : Array Value) (h : Heap) (mine : List Addr) (Q : Option Value → Heap → List Addr → Prop) : Prop :=
  MetFree l y (head1 (Jvm.Cond.code y code ml ret :: ws) R) (fun a U => a = as' ∧ Z.Warmed39 U.vm ∧ U.heap = h ∧ CHv Z EL U.vm h ∧ Mine Z EL U.vm h mine) (fun _ _ _ _ _ => True) (fun _ U o U' => EndQ w Z EL Q R U o U')
/-- who pays a call that interns nothing -/
def Pay (l : Launch) (R : Room) (Z : State) (y : MethodName) (len W : Nat) (as' : Array Value) (h : Heap) (dc dn : Nat) (P : Option Value → Heap → List Loc → Prop) : Prop :=
  ∀ (p : Program) (e : Env) (below : List Frame) (s : State) (args : Array Value), Z.Warmed39 s.vm → Back l R p e below s args y len W (fun A a => a = as' ∧ A.U.heap = h ∧ A.cells + dc ≤ R.cells ∧ A.slots + dn ≤ R.slots) (fun A _ v B => ∃ L, P v B.U.heap L ∧ B.locs = A.locs ++ L ∧ B.cells = A.cells + dc ∧ B.slots = A.slots + dn)
section Small
variable {Z : State} {EL : List (String × Nat)} {vm vm1 : Vm} {h h' h0 h1 h2 : Heap} {mine ws : List Addr}
theorem ext_refl (h : Heap) : Ext h h := ⟨Nat.le_refl _, fun _ _ q => q⟩
theorem ext_tr (A : Ext h0 h1) (B : Ext h1 h2) : Ext h0 h2 := ⟨Nat.le_trans A.1 B.1, fun a c q => B.2 _ _ (A.2 _ _ q)⟩
theorem ext_keep (E : Ext h0 h) (K : Keep h h' ws) (hq : ∀ x ∈ ws, h0.size ≤ x) : Ext h0 h' := ⟨Nat.le_trans E.1 K.1, fun a c q => K.2.1 a c (E.2 _ _ q) fun hm => absurd (Array.getElem?_eq_some_iff.mp q).1 (Nat.not_lt.mpr (hq a hm))⟩
theorem ext_wr {a : Addr} {sl : Nat} {v : Value} (E : Ext h0 h) (W : Wr h h' a sl v) (hq : h0.size ≤ a) : Ext h0 h' := ext_keep E (Keep.of_wr W) (allS hq all0)
theorem keep_ext (E : Ext h h') (ws : List Addr) : Keep h h' ws := (Keep.refl h ws).ext E
theorem Mine.nil : Mine Z EL vm h [] := fun _ q => nomatch q
theorem Mine.ext (E : Ext h h') (H : CHv Z EL vm h) (M : Mine Z EL vm h mine) : Mine Z EL vm h' mine := fun x hx => ⟨(M x hx).1, Nat.lt_of_lt_of_le (M x hx).2.1 E.1, (M x hx).2.2.ext E H⟩
theorem Mine.keep (K : Keep h h' ws) (hs : ∀ x ∈ ws, x ∈ mine) (H : CHv Z EL vm h) (M : Mine Z EL vm h mine) : Mine Z EL vm h' mine := fun x hx => ⟨(M x hx).1, Nat.lt_of_lt_of_le (M x hx).2.1 K.1, (M x hx).2.2.keep K (fun y hy => (M y (hs y hy)).2.2) H⟩
theorem Mine.new {out : List Addr} (K : Keep h h' ws) (hs : ∀ x ∈ ws, x ∈ mine) (H : CHv Z EL vm h) (M : Mine Z EL vm h mine) (E0 : Ext Z.heap h) (ho : ∀ x ∈ out, h.size ≤ x ∧ x < h'.size) : Mine Z EL vm h' (out ++ mine) := fun x hx => by
  rcases List.mem_append.mp hx with hx | hx
  · exact ⟨Nat.le_trans E0.1 (ho x hx).1, (ho x hx).2, (Safe.new (ho x hx).1).keep K (fun y hy => (M y (hs y hy)).2.2) H⟩
  · exact M.keep K hs H x hx
theorem Mine.later (A : CHr Z EL vm h vm1 h') (M : Mine Z EL vm h mine) : Mine Z EL vm1 h' mine := fun x hx => ⟨(M x hx).1, Nat.lt_of_lt_of_le (M x hx).2.1 A.2.1, A.safe (M x hx).2.1 (M x hx).2.2⟩
theorem Mine.sub {m2 : List Addr} (M : Mine Z EL vm h mine) (q : ∀ x ∈ m2, x ∈ mine) : Mine Z EL vm h m2 := fun x hx => M x (q x hx)
theorem Mine.app {m2 : List Addr} (M : Mine Z EL vm h mine) (M' : Mine Z EL vm h m2) : Mine Z EL vm h (mine ++ m2) := fun x hx => (List.mem_append.mp hx).elim (M x) (M' x)
theorem CHv.none : CHv Z [] vm h := fun _ hp => by cases hp
theorem Safe.none {x : Addr} : Safe Z [] vm h x := fun B => by obtain ⟨p, hp, -⟩ := B; cases hp
theorem EW.none : ∃ a0 : Array Value, EW Z a0 [] := ⟨#[], EW.nil⟩
end Small
section Plain
variable {l : Launch} {w : Bool} {Z : State} {EL : List (String × Nat)} {own nm : String} {code : ByteArray} {ml : Nat} {ret : Option FieldType} {R : Room} {Q : Option Value → Heap → List Addr → Prop} {h : Heap} {mine : List Addr} {kc kn pc q : Nat} {Ls : Array Slot} {st : List Value} {a0 : Array Value}
theorem go_pl {Ls' : Array Slot} {st' : List Value} (hs : ∀ (p : Program) (e : Env) (below : List Frame) (m : MethodId) (c : Code) (T target : State), p.tables.exec = Jvm.exec → c.code = code → At T m c below → Steps p.tables e below (T.setTop (mkF m q Ls' st')) target → Steps p.tables e below (T.setTop (mkF m pc Ls st)) target)
    (k : Go l w Z EL own nm code ml ret R Q h mine kc kn q Ls' st') : Go l w Z EL own nm code ml ret R Q h mine kc kn pc Ls st := by
  intro p e s m args below meth c T hC hc
  obtain ⟨t, o, r1, r2⟩ := k p e s m args below meth c T hC hc
  obtain ⟨vm0, k0, locs, X, -⟩ := hc
  exact ⟨t, o, hs p e below m c T t hC.1 hC.2.1 X.here r1, r2⟩
theorem go_aloadN {k : Fin 4} {v : Value} (hd : decode code pc = .ok (.aload_n k, 1)) (hq : pc + 1 = q) (hl : Ls[k.val]? = some (.val v)) (hv : v.isRef = true) (k : Go l w Z EL own nm code ml ret R Q h mine kc kn q Ls (v :: st)) : Go l w Z EL own nm code ml ret R Q h mine kc kn pc Ls st := by
  subst hq
  exact go_pl (fun p e below m c T target hx hby hA kk => XS.aloadN hA hx rfl (hb hby hd) hl hv kk) k
theorem go_aload {k : Nat} {v : Value} (hd : decode code pc = .ok (.aload k, 2)) (hq : pc + 2 = q) (hl : Ls[k]? = some (.val v)) (hv : v.isRef = true) (k : Go l w Z EL own nm code ml ret R Q h mine kc kn q Ls (v :: st)) : Go l w Z EL own nm code ml ret R Q h mine kc kn pc Ls st := by
  subst hq
  exact go_pl (fun p e below m c T target hx hby hA kk => XS.aload hA hx rfl (hb hby hd) hl hv kk) k
theorem go_iloadN {k : Fin 4} {v : Int32} (hd : decode code pc = .ok (.iload_n k, 1)) (hq : pc + 1 = q) (hl : Ls[k.val]? = some (.val (.int v))) (k : Go l w Z EL own nm code ml ret R Q h mine kc kn q Ls (.int v :: st)) : Go l w Z EL own nm code ml ret R Q h mine kc kn pc Ls st := by
  subst hq
  exact go_pl (fun p e below m c T target hx hby hA kk => XS.iloadN hA hx rfl (hb hby hd) hl kk) k
theorem go_iload {k : Nat} {v : Int32} (hd : decode code pc = .ok (.iload k, 2)) (hq : pc + 2 = q) (hl : Ls[k]? = some (.val (.int v))) (k : Go l w Z EL own nm code ml ret R Q h mine kc kn q Ls (.int v :: st)) : Go l w Z EL own nm code ml ret R Q h mine kc kn pc Ls st := by
  subst hq
  exact go_pl (fun p e below m c T target hx hby hA kk => XS.iload hA hx rfl (hb hby hd) hl kk) k
theorem go_lloadN {k : Fin 4} {v : Int64} (hd : decode code pc = .ok (.lload_n k, 1)) (hq : pc + 1 = q) (hl : Ls[k.val]? = some (.val (.long v))) (k : Go l w Z EL own nm code ml ret R Q h mine kc kn q Ls (.long v :: st)) : Go l w Z EL own nm code ml ret R Q h mine kc kn pc Ls st := by
  subst hq
  exact go_pl (fun p e below m c T target hx hby hA kk => XT.lloadN hA hx rfl (hb hby hd) hl kk) k
theorem go_iconst {i : Int} {z : Int32} (hd : decode code pc = .ok (.iconst i, 1)) (hq : pc + 1 = q) (hz : Int32.ofInt i = z) (k : Go l w Z EL own nm code ml ret R Q h mine kc kn q Ls (.int z :: st)) : Go l w Z EL own nm code ml ret R Q h mine kc kn pc Ls st := by
  subst hq hz
  exact go_pl (fun p e below m c T target hx hby hA kk => XS.iconst hA hx rfl (hb hby hd) kk) k
theorem go_bipush {i : Int} {z : Int32} (hd : decode code pc = .ok (.bipush i, 2)) (hq : pc + 2 = q) (hz : (Int8.ofInt i).toInt32 = z) (k : Go l w Z EL own nm code ml ret R Q h mine kc kn q Ls (.int z :: st)) : Go l w Z EL own nm code ml ret R Q h mine kc kn pc Ls st := by
  subst hq hz
  exact go_pl (fun p e below m c T target hx hby hA kk => XS.bipush hA hx rfl (hb hby hd) kk) k
theorem go_sipush {i : Int} {z : Int32} (hd : decode code pc = .ok (.sipush i, 3)) (hq : pc + 3 = q) (hz : (Int16.ofInt i).toInt32 = z) (k : Go l w Z EL own nm code ml ret R Q h mine kc kn q Ls (.int z :: st)) : Go l w Z EL own nm code ml ret R Q h mine kc kn pc Ls st := by
  subst hq hz
  exact go_pl (fun p e below m c T target hx hby hA kk => XS.sipush hA hx rfl (hb hby hd) kk) k
theorem go_lconst {k : Fin 2} {z : Int64} (hd : decode code pc = .ok (.lconst k, 1)) (hq : pc + 1 = q) (hz : Int64.ofNat k = z) (kk : Go l w Z EL own nm code ml ret R Q h mine kc kn q Ls (.long z :: st)) : Go l w Z EL own nm code ml ret R Q h mine kc kn pc Ls st := by
  subst hq hz
  exact go_pl (fun p e below m c T target hx hby hA kk => XT.lconst hA hx rfl (hb hby hd) kk) kk
theorem go_null  (hd : decode code pc = .ok (.aconst_null, 1)) (hq : pc + 1 = q)  (k : Go l w Z EL own nm code ml ret R Q h mine kc kn q Ls (.null :: st)) : Go l w Z EL own nm code ml ret R Q h mine kc kn pc Ls st := by
  subst hq
  exact go_pl (fun p e below m c T target hx hby hA kk => XS.aconstNull hA hx rfl (hb hby hd) kk) k
theorem go_iadd {x y : Int32} (hd : decode code pc = .ok (.iadd, 1)) (hq : pc + 1 = q)  (k : Go l w Z EL own nm code ml ret R Q h mine kc kn q Ls (.int (x + y) :: st)) : Go l w Z EL own nm code ml ret R Q h mine kc kn pc Ls (.int y :: .int x :: st) := by
  subst hq
  exact go_pl (fun p e below m c T target hx hby hA kk => XS.iadd hA hx rfl (hb hby hd) rfl kk) k
theorem go_isub {x y : Int32} (hd : decode code pc = .ok (.isub, 1)) (hq : pc + 1 = q)  (k : Go l w Z EL own nm code ml ret R Q h mine kc kn q Ls (.int (x - y) :: st)) : Go l w Z EL own nm code ml ret R Q h mine kc kn pc Ls (.int y :: .int x :: st) := by
  subst hq
  exact go_pl (fun p e below m c T target hx hby hA kk => XS.isub hA hx rfl (hb hby hd) rfl kk) k
theorem go_imul {x y : Int32} (hd : decode code pc = .ok (.imul, 1)) (hq : pc + 1 = q)  (k : Go l w Z EL own nm code ml ret R Q h mine kc kn q Ls (.int (x * y) :: st)) : Go l w Z EL own nm code ml ret R Q h mine kc kn pc Ls (.int y :: .int x :: st) := by
  subst hq
  exact go_pl (fun p e below m c T target hx hby hA kk => XS.imul hA hx rfl (hb hby hd) rfl kk) k
theorem go_iand {x y : Int32} (hd : decode code pc = .ok (.iand, 1)) (hq : pc + 1 = q)  (k : Go l w Z EL own nm code ml ret R Q h mine kc kn q Ls (.int (x &&& y) :: st)) : Go l w Z EL own nm code ml ret R Q h mine kc kn pc Ls (.int y :: .int x :: st) := by
  subst hq
  exact go_pl (fun p e below m c T target hx hby hA kk => XS.iand hA hx rfl (hb hby hd) rfl kk) k
theorem go_ior {x y : Int32} (hd : decode code pc = .ok (.ior, 1)) (hq : pc + 1 = q)  (k : Go l w Z EL own nm code ml ret R Q h mine kc kn q Ls (.int (x ||| y) :: st)) : Go l w Z EL own nm code ml ret R Q h mine kc kn pc Ls (.int y :: .int x :: st) := by
  subst hq
  exact go_pl (fun p e below m c T target hx hby hA kk => XT.ior hA hx rfl (hb hby hd) rfl kk) k
theorem go_ixor {x y : Int32} (hd : decode code pc = .ok (.ixor, 1)) (hq : pc + 1 = q)  (k : Go l w Z EL own nm code ml ret R Q h mine kc kn q Ls (.int (x ^^^ y) :: st)) : Go l w Z EL own nm code ml ret R Q h mine kc kn pc Ls (.int y :: .int x :: st) := by
  subst hq
  exact go_pl (fun p e below m c T target hx hby hA kk => XT.ixor hA hx rfl (hb hby hd) rfl kk) k
theorem go_ishl {x y : Int32} (hd : decode code pc = .ok (.ishl, 1)) (hq : pc + 1 = q)  (k : Go l w Z EL own nm code ml ret R Q h mine kc kn q Ls (.int (x <<< (y &&& 31)) :: st)) : Go l w Z EL own nm code ml ret R Q h mine kc kn pc Ls (.int y :: .int x :: st) := by
  subst hq
  exact go_pl (fun p e below m c T target hx hby hA kk => XT.ishl hA hx rfl (hb hby hd) rfl kk) k
theorem go_ishr {x y : Int32} (hd : decode code pc = .ok (.ishr, 1)) (hq : pc + 1 = q)  (k : Go l w Z EL own nm code ml ret R Q h mine kc kn q Ls (.int (x >>> (y &&& 31)) :: st)) : Go l w Z EL own nm code ml ret R Q h mine kc kn pc Ls (.int y :: .int x :: st) := by
  subst hq
  exact go_pl (fun p e below m c T target hx hby hA kk => XT.ishr hA hx rfl (hb hby hd) rfl kk) k
theorem go_iushr {x y : Int32} (hd : decode code pc = .ok (.iushr, 1)) (hq : pc + 1 = q)  (k : Go l w Z EL own nm code ml ret R Q h mine kc kn q Ls (.int (XT.ushr x y) :: st)) : Go l w Z EL own nm code ml ret R Q h mine kc kn pc Ls (.int y :: .int x :: st) := by
  subst hq
  exact go_pl (fun p e below m c T target hx hby hA kk => XT.iushr hA hx rfl (hb hby hd) rfl kk) k
theorem go_irem {x y : Int32} (hd : decode code pc = .ok (.irem, 1)) (hq : pc + 1 = q) (hy : y ≠ 0) (k : Go l w Z EL own nm code ml ret R Q h mine kc kn q Ls (.int (x % y) :: st)) : Go l w Z EL own nm code ml ret R Q h mine kc kn pc Ls (.int y :: .int x :: st) := by
  subst hq
  have er : x - x / y * y = x % y := irem_eq_mod x y
  exact go_pl (fun p e below m c T target hx hby hA kk => XS.irem hA hx rfl (hb hby hd) rfl hy (by rw [er]; exact kk)) k
theorem go_i2c {x : Int32} (hd : decode code pc = .ok (.i2c, 1)) (hq : pc + 1 = q)  (k : Go l w Z EL own nm code ml ret R Q h mine kc kn q Ls (.int (x.toUInt32.toUInt16.toUInt32.toInt32) :: st)) : Go l w Z EL own nm code ml ret R Q h mine kc kn pc Ls (.int x :: st) := by
  subst hq
  exact go_pl (fun p e below m c T target hx hby hA kk => XT.i2c hA hx rfl (hb hby hd) rfl kk) k
theorem go_i2b {x : Int32} (hd : decode code pc = .ok (.i2b, 1)) (hq : pc + 1 = q)  (k : Go l w Z EL own nm code ml ret R Q h mine kc kn q Ls (.int (x.toInt8.toInt32) :: st)) : Go l w Z EL own nm code ml ret R Q h mine kc kn pc Ls (.int x :: st) := by
  subst hq
  exact go_pl (fun p e below m c T target hx hby hA kk => XT.i2b hA hx rfl (hb hby hd) rfl kk) k
theorem go_ineg {x : Int32} (hd : decode code pc = .ok (.ineg, 1)) (hq : pc + 1 = q)  (k : Go l w Z EL own nm code ml ret R Q h mine kc kn q Ls (.int (-x) :: st)) : Go l w Z EL own nm code ml ret R Q h mine kc kn pc Ls (.int x :: st) := by
  subst hq
  exact go_pl (fun p e below m c T target hx hby hA kk => XS.ineg hA hx rfl (hb hby hd) rfl kk) k
theorem go_dup {x : Value} (hd : decode code pc = .ok (.dup, 1)) (hq : pc + 1 = q) (hc : x.category = 1) (k : Go l w Z EL own nm code ml ret R Q h mine kc kn q Ls (x :: x :: st)) : Go l w Z EL own nm code ml ret R Q h mine kc kn pc Ls (x :: st) := by
  subst hq
  exact go_pl (fun p e below m c T target hx hby hA kk => XS.dup hA hx rfl (hb hby hd) rfl hc kk) k
theorem go_pop {x : Value} (hd : decode code pc = .ok (.pop, 1)) (hq : pc + 1 = q) (hc : x.category = 1) (k : Go l w Z EL own nm code ml ret R Q h mine kc kn q Ls st) : Go l w Z EL own nm code ml ret R Q h mine kc kn pc Ls (x :: st) := by
  subst hq
  exact go_pl (fun p e below m c T target hx hby hA kk => XT.pop hA hx rfl (hb hby hd) rfl hc kk) k
theorem go_dupX1 {x y : Value} (hd : decode code pc = .ok (.dup_x1, 1)) (hq : pc + 1 = q) (hc : x.category = 1) (hc' : y.category = 1) (k : Go l w Z EL own nm code ml ret R Q h mine kc kn q Ls (x :: y :: x :: st)) : Go l w Z EL own nm code ml ret R Q h mine kc kn pc Ls (x :: y :: st) := by
  subst hq
  exact go_pl (fun p e below m c T target hx hby hA kk => XT.dupX1 hA hx rfl (hb hby hd) rfl hc hc' kk) k
theorem go_istoreN {k : Fin 4} {x : Int32} {l' : Array Slot} (hd : decode code pc = .ok (.istore_n k, 1)) (hq : pc + 1 = q) (hl : storeLocals Ls k.val (.int x) = some l') (k : Go l w Z EL own nm code ml ret R Q h mine kc kn q l' st) : Go l w Z EL own nm code ml ret R Q h mine kc kn pc Ls (.int x :: st) := by
  subst hq
  exact go_pl (fun p e below m c T target hx hby hA kk => XS.istoreN hA hx rfl (hb hby hd) rfl hl kk) k
theorem go_istore {k : Nat} {x : Int32} {l' : Array Slot} (hd : decode code pc = .ok (.istore k, 2)) (hq : pc + 2 = q) (hl : storeLocals Ls k (.int x) = some l') (k : Go l w Z EL own nm code ml ret R Q h mine kc kn q l' st) : Go l w Z EL own nm code ml ret R Q h mine kc kn pc Ls (.int x :: st) := by
  subst hq
  exact go_pl (fun p e below m c T target hx hby hA kk => XS.istore hA hx rfl (hb hby hd) rfl hl kk) k
theorem go_astoreN {k : Fin 4} {x : Value} {l' : Array Slot} (hd : decode code pc = .ok (.astore_n k, 1)) (hq : pc + 1 = q) (hv : x.isRef = true) (hl : storeLocals Ls k.val x = some l') (k : Go l w Z EL own nm code ml ret R Q h mine kc kn q l' st) : Go l w Z EL own nm code ml ret R Q h mine kc kn pc Ls (x :: st) := by
  subst hq
  exact go_pl (fun p e below m c T target hx hby hA kk => XS.astoreN hA hx rfl (hb hby hd) rfl hv hl kk) k
theorem go_astore {k : Nat} {x : Value} {l' : Array Slot} (hd : decode code pc = .ok (.astore k, 2)) (hq : pc + 2 = q) (hv : x.isRef = true) (hl : storeLocals Ls k x = some l') (k : Go l w Z EL own nm code ml ret R Q h mine kc kn q l' st) : Go l w Z EL own nm code ml ret R Q h mine kc kn pc Ls (x :: st) := by
  subst hq
  exact go_pl (fun p e below m c T target hx hby hA kk => XS.astore hA hx rfl (hb hby hd) rfl hv hl kk) k
theorem go_iinc {k : Nat} {cst : Int} {x : Int32} {l' : Array Slot} (hd : decode code pc = .ok (.iinc k cst, 3)) (hq : pc + 3 = q) (hl : Ls[k]? = some (.val (.int x))) (hl' : storeLocals Ls k (.int (x + Int32.ofInt cst)) = some l') (k : Go l w Z EL own nm code ml ret R Q h mine kc kn q l' st) : Go l w Z EL own nm code ml ret R Q h mine kc kn pc Ls st := by
  subst hq
  exact go_pl (fun p e below m c T target hx hby hA kk => XS.iinc hA hx rfl (hb hby hd) hl hl' kk) k
theorem go_goto {o : Int} (hd : decode code pc = .ok (.goto o, 3)) (ho : 0 ≤ (pc : Int) + o) (hp : ((pc : Int) + o).toNat = q) (k : Go l w Z EL own nm code ml ret R Q h mine kc kn q Ls st) : Go l w Z EL own nm code ml ret R Q h mine kc kn pc Ls st :=
  go_pl (fun p e below m c T target hx hby hA kk => XS.goto hA hx rfl (pc0 := pc) (pc' := q) rfl (hb hby hd) ho hp kk) k
theorem go_if {o : Int} {q2 : Nat} {cd : ClassFile.Cond} {x : Int32} (hd : decode code pc = .ok (.ifCond cd o, 3)) (ho : 0 ≤ (pc : Int) + o) (hp : ((pc : Int) + o).toNat = q) (hq : pc + 3 = q2)  (k1 : ifCond.holds cd x = true → Go l w Z EL own nm code ml ret R Q h mine kc kn q Ls st) (k2 : ifCond.holds cd x = false → Go l w Z EL own nm code ml ret R Q h mine kc kn q2 Ls st) : Go l w Z EL own nm code ml ret R Q h mine kc kn pc Ls (.int x :: st) := by
  subst hq
  cases hc : ifCond.holds cd x
  · exact go_pl (fun p e below m c T target hx hby hA kk => XS.ifNo hA hx rfl (hb hby hd) rfl hc kk) (k2 hc)
  · exact go_pl (fun p e below m c T target hx hby hA kk => XS.ifYes hA hx rfl (pc0 := pc) (pc' := q) rfl (hb hby hd) rfl hc ho hp kk) (k1 hc)
theorem go_icmp {o : Int} {q2 : Nat} {cd : ClassFile.Cond} {x y : Int32} (hd : decode code pc = .ok (.if_icmp cd o, 3)) (ho : 0 ≤ (pc : Int) + o) (hp : ((pc : Int) + o).toNat = q) (hq : pc + 3 = q2)  (k1 : if_icmp.holds cd x y = true → Go l w Z EL own nm code ml ret R Q h mine kc kn q Ls st) (k2 : if_icmp.holds cd x y = false → Go l w Z EL own nm code ml ret R Q h mine kc kn q2 Ls st) : Go l w Z EL own nm code ml ret R Q h mine kc kn pc Ls (.int y :: .int x :: st) := by
  subst hq
  cases hc : if_icmp.holds cd x y
  · exact go_pl (fun p e below m c T target hx hby hA kk => XS.icmpNo hA hx rfl (hb hby hd) rfl hc kk) (k2 hc)
  · exact go_pl (fun p e below m c T target hx hby hA kk => XS.icmpYes hA hx rfl (pc0 := pc) (pc' := q) rfl (hb hby hd) rfl hc ho hp kk) (k1 hc)
theorem go_acmp {o : Int} {q2 : Nat} {cd : ClassFile.ACond} {x y : Value} (hd : decode code pc = .ok (.if_acmp cd o, 3)) (ho : 0 ≤ (pc : Int) + o) (hp : ((pc : Int) + o).toNat = q) (hq : pc + 3 = q2) (hx1 : x.isRef = true) (hy1 : y.isRef = true) (k1 : XT.acmp cd x y = true → Go l w Z EL own nm code ml ret R Q h mine kc kn q Ls st) (k2 : XT.acmp cd x y = false → Go l w Z EL own nm code ml ret R Q h mine kc kn q2 Ls st) : Go l w Z EL own nm code ml ret R Q h mine kc kn pc Ls (y :: x :: st) := by
  subst hq
  cases hc : XT.acmp cd x y
  · exact go_pl (fun p e below m c T target hx hby hA kk => XT.acmpNo hA hx rfl (hb hby hd) rfl hx1 hy1 hc kk) (k2 hc)
  · exact go_pl (fun p e below m c T target hx hby hA kk => XT.acmpYes hA hx rfl (pc0 := pc) (pc' := q) rfl (hb hby hd) rfl hx1 hy1 hc ho hp kk) (k1 hc)
theorem go_ifnullY {o : Int} (hd : decode code pc = .ok (.ifnull o, 3)) (ho : 0 ≤ (pc : Int) + o) (hp : ((pc : Int) + o).toNat = q) (k : Go l w Z EL own nm code ml ret R Q h mine kc kn q Ls st) : Go l w Z EL own nm code ml ret R Q h mine kc kn pc Ls (.null :: st) :=
  go_pl (fun p e below m c T target hx hby hA kk => XS.ifnullYes hA hx rfl (pc0 := pc) (pc' := q) rfl (hb hby hd) rfl ho hp kk) k
theorem go_ifnullN {o : Int} {b : Addr} (hd : decode code pc = .ok (.ifnull o, 3)) (hq : pc + 3 = q) (k : Go l w Z EL own nm code ml ret R Q h mine kc kn q Ls st) : Go l w Z EL own nm code ml ret R Q h mine kc kn pc Ls (.ref b :: st) := by
  subst hq
  exact go_pl (fun p e below m c T target hx hby hA kk => XS.ifnullNo hA hx rfl (hb hby hd) rfl kk) k
theorem go_ifnonnullY {o : Int} {b : Addr} (hd : decode code pc = .ok (.ifnonnull o, 3)) (ho : 0 ≤ (pc : Int) + o) (hp : ((pc : Int) + o).toNat = q) (k : Go l w Z EL own nm code ml ret R Q h mine kc kn q Ls st) : Go l w Z EL own nm code ml ret R Q h mine kc kn pc Ls (.ref b :: st) :=
  go_pl (fun p e below m c T target hx hby hA kk => XT.ifnonnullYes hA hx rfl (pc0 := pc) (pc' := q) rfl (hb hby hd) rfl ho hp kk) k
theorem go_ifnonnullN {o : Int} (hd : decode code pc = .ok (.ifnonnull o, 3)) (hq : pc + 3 = q) (k : Go l w Z EL own nm code ml ret R Q h mine kc kn q Ls st) : Go l w Z EL own nm code ml ret R Q h mine kc kn pc Ls (.null :: st) := by
  subst hq
  exact go_pl (fun p e below m c T target hx hby hA kk => XT.ifnonnullNo hA hx rfl (hb hby hd) rfl kk) k
theorem go_old (k : Ext Z.heap h → Go l w Z EL own nm code ml ret R Q h mine kc kn pc Ls st) : Go l w Z EL own nm code ml ret R Q h mine kc kn pc Ls st := by
  intro p e s m args below meth c T hC hc
  obtain ⟨vm0, k0, locs, X, eT, hS, hk, hZ, hown, hR, N, E0, hM, hw⟩ := id hc
  exact k E0 p e s m args below meth c T hC hc
theorem go_mine (k : (∀ x ∈ mine, Z.heap.size ≤ x ∧ x < h.size) → Go l w Z EL own nm code ml ret R Q h mine kc kn pc Ls st) : Go l w Z EL own nm code ml ret R Q h mine kc kn pc Ls st := by
  intro p e s m args below meth c T hC hc
  obtain ⟨vm0, k0, locs, X, eT, hS, hk, hZ, hown, hR, N, E0, hM, hw⟩ := id hc
  exact k (fun x hx => ⟨(hM x hx).1, (hM x hx).2.1⟩) p e s m args below meth c T hC hc
theorem go_drop {mine2 : List Addr} (q : ∀ x ∈ mine2, x ∈ mine) (k : Go l w Z EL own nm code ml ret R Q h mine2 kc kn pc Ls st) : Go l w Z EL own nm code ml ret R Q h mine kc kn pc Ls st := by
  intro p e s m args below meth c T hC ⟨vm0, k0, locs, X, eT, hS, hk, hZ, hown, hR, N, E0, hM, hw⟩
  exact k p e s m args below meth c T hC ⟨vm0, k0, locs, X, eT, hS, hk, hZ, hown, hR, N, E0, hM.sub q, hw⟩
theorem go_more {kc2 kn2 : Nat} (h1 : kc ≤ kc2) (h2 : kn ≤ kn2) (k : Go l w Z EL own nm code ml ret R Q h mine kc2 kn2 pc Ls st) : Go l w Z EL own nm code ml ret R Q h mine kc kn pc Ls st := by
  intro p e s m args below meth c T hC ⟨vm0, k0, locs, X, eT, hS, hk, hZ, hown, hR, N, E0, hM, hw⟩
  exact k p e s m args below meth c T hC ⟨vm0, k0, locs, X.more h1 h2, eT, hS, hk, hZ, hown, hR, N, E0, hM, hw⟩
theorem go_ldcI {index : Nat} {v : Int32} (hd : decode code pc = .ok (.ldc index, 2)) (hq : pc + 2 = q) (w1 : (Cond.constant own index v).before a0 Z = true) (k : Go l w Z EL own nm code ml ret R Q h mine kc kn q Ls (.int v :: st)) : Go l w Z EL own nm code ml ret R Q h mine kc kn pc Ls st := by
  subst hq
  intro p e s m args below meth c T hC ⟨vm0, k0, locs, X, eT, hS, hk, hZ, hown, hR, N, E0, hM, hw⟩
  obtain ⟨t, o, r1, r2⟩ := k p e s m args below meth c T hC ⟨vm0, k0, locs, X, eT, hS, hk, hZ, hown, hR, N, E0, hM, hw⟩
  exact ⟨t, o, X.ldcInt hC.1 hown (mvT hZ w1) (g := mkF m pc Ls st) rfl (hb hC.2.1 hd) _ r1, r2⟩
theorem go_getstatic {index : Nat} {R0 O n d : String} {v : Value} (hd : decode code pc = .ok (.getstatic index, 3)) (hq : pc + 3 = q) (w1 : (Cond.fieldLink own index R0 n d).before a0 Z = true) (via : Via Z R0 O n d) (F : Sta Z Z.heap O n d v) (k : Go l w Z EL own nm code ml ret R Q h mine kc kn q Ls (v :: st)) : Go l w Z EL own nm code ml ret R Q h mine kc kn pc Ls st := by
  subst hq
  intro p e s m args below meth c T hC ⟨vm0, k0, locs, X, eT, hS, hk, hZ, hown, hR, N, E0, hM, hw⟩
  obtain ⟨T', X', e', stp⟩ := getS (host := "") X hC.1 hZ hown w1 via eT (F.ext E0) (g := mkF m pc Ls st) rfl (hb hC.2.1 hd)
  obtain ⟨t, o, r1, r2⟩ := k p e s m args below meth c T' hC ⟨vm0, k0, locs, X', e', hS, hk, hZ, hown, hR, N, E0, hM, hw⟩
  exact ⟨t, o, stp _ r1, r2⟩
theorem go_getfield {index : Nat} {R0 O n d : String} {v : Value} {a : Addr} (hd : decode code pc = .ok (.getfield index, 3)) (hq : pc + 3 = q) (w1 : (Cond.fieldLink own index R0 n d).before a0 Z = true) (via : Via Z R0 O n d) (F : Fld Z h a O n d v) (k : Go l w Z EL own nm code ml ret R Q h mine kc kn q Ls (v :: st)) : Go l w Z EL own nm code ml ret R Q h mine kc kn pc Ls (.ref a :: st) := by
  subst hq
  intro p e s m args below meth c T hC ⟨vm0, k0, locs, X, eT, hS, hk, hZ, hown, hR, N, E0, hM, hw⟩
  obtain ⟨T', X', e', stp⟩ := getF X hC.1 hZ hown (host := "") (Or.inl w1) via eT F (g := mkF m pc Ls (.ref a :: st)) rfl rfl (hb hC.2.1 hd)
  obtain ⟨t, o, r1, r2⟩ := k p e s m args below meth c T' hC ⟨vm0, k0, locs, X', e', hS, hk, hZ, hown, hR, N, E0, hM, hw⟩
  exact ⟨t, o, stp _ r1, r2⟩
theorem go_getfieldNest {index : Nat} {R0 O n d host : String} {v : Value} {a : Addr} (hd : decode code pc = .ok (.getfield index, 3)) (hq : pc + 3 = q) (w1 : (Cond.fieldLinkNest own index R0 n d host).before a0 Z = true) (via : Via Z R0 O n d) (F : Fld Z h a O n d v) (k : Go l w Z EL own nm code ml ret R Q h mine kc kn q Ls (v :: st)) : Go l w Z EL own nm code ml ret R Q h mine kc kn pc Ls (.ref a :: st) := by
  subst hq
  intro p e s m args below meth c T hC ⟨vm0, k0, locs, X, eT, hS, hk, hZ, hown, hR, N, E0, hM, hw⟩
  obtain ⟨T', X', e', stp⟩ := getF X hC.1 hZ hown (host := host) (Or.inr w1) via eT F (g := mkF m pc Ls (.ref a :: st)) rfl rfl (hb hC.2.1 hd)
  obtain ⟨t, o, r1, r2⟩ := k p e s m args below meth c T' hC ⟨vm0, k0, locs, X', e', hS, hk, hZ, hown, hR, N, E0, hM, hw⟩
  exact ⟨t, o, stp _ r1, r2⟩
theorem go_checkcast {index : Nat} {K : String} {a : Addr} (hd : decode code pc = .ok (.checkcast index, 3)) (hq : pc + 3 = q) (w1 : (Cond.classLink own index K).before a0 Z = true) (F : Ins Z h a K true) (k : Go l w Z EL own nm code ml ret R Q h mine kc kn q Ls (.ref a :: st)) : Go l w Z EL own nm code ml ret R Q h mine kc kn pc Ls (.ref a :: st) := by
  subst hq
  intro p e s m args below meth c T hC ⟨vm0, k0, locs, X, eT, hS, hk, hZ, hown, hR, N, E0, hM, hw⟩
  obtain ⟨T', X', e', stp⟩ := castY X hC.1 hZ hown w1 eT F (g := mkF m pc Ls (.ref a :: st)) rfl rfl (hb hC.2.1 hd)
  obtain ⟨t, o, r1, r2⟩ := k p e s m args below meth c T' hC ⟨vm0, k0, locs, X', e', hS, hk, hZ, hown, hR, N, E0, hM, hw⟩
  exact ⟨t, o, stp _ r1, r2⟩
theorem go_instNull {index : Nat} (hd : decode code pc = .ok (.instanceof index, 3)) (hq : pc + 3 = q) (k : Go l w Z EL own nm code ml ret R Q h mine kc kn q Ls (.int 0 :: st)) : Go l w Z EL own nm code ml ret R Q h mine kc kn pc Ls (.null :: st) := by
  subst hq
  intro p e s m args below meth c T hC ⟨vm0, k0, locs, X, eT, hS, hk, hZ, hown, hR, N, E0, hM, hw⟩
  obtain ⟨t, o, r1, r2⟩ := k p e s m args below meth c T hC ⟨vm0, k0, locs, X, eT, hS, hk, hZ, hown, hR, N, E0, hM, hw⟩
  exact ⟨t, o, Jvm.Stand.instanceofNull X hC.1 (g := mkF m pc Ls (.null :: st)) rfl (rest := st) rfl (hb hC.2.1 hd) _ r1, r2⟩
theorem go_castNull {index : Nat} (hd : decode code pc = .ok (.checkcast index, 3)) (hq : pc + 3 = q) (k : Go l w Z EL own nm code ml ret R Q h mine kc kn q Ls (.null :: st)) : Go l w Z EL own nm code ml ret R Q h mine kc kn pc Ls (.null :: st) := by
  subst hq
  intro p e s m args below meth c T hC ⟨vm0, k0, locs, X, eT, hS, hk, hZ, hown, hR, N, E0, hM, hw⟩
  obtain ⟨t, o, r1, r2⟩ := k p e s m args below meth c T hC ⟨vm0, k0, locs, X, eT, hS, hk, hZ, hown, hR, N, E0, hM, hw⟩
  exact ⟨t, o, Jvm.Stand.checkcastNull X hC.1 (g := mkF m pc Ls (.null :: st)) rfl (rest := st) rfl (hb hC.2.1 hd) _ r1, r2⟩
theorem go_instY {index : Nat} {K : String} {a : Addr} (hd : decode code pc = .ok (.instanceof index, 3)) (hq : pc + 3 = q) (w1 : (Cond.classLink own index K).before a0 Z = true) (F : Ins Z h a K true) (k : Go l w Z EL own nm code ml ret R Q h mine kc kn q Ls (.int 1 :: st)) : Go l w Z EL own nm code ml ret R Q h mine kc kn pc Ls (.ref a :: st) := by
  subst hq
  intro p e s m args below meth c T hC ⟨vm0, k0, locs, X, eT, hS, hk, hZ, hown, hR, N, E0, hM, hw⟩
  obtain ⟨T', X', e', stp⟩ := instY X hC.1 hZ hown w1 eT F (g := mkF m pc Ls (.ref a :: st)) rfl rfl (hb hC.2.1 hd)
  obtain ⟨t, o, r1, r2⟩ := k p e s m args below meth c T' hC ⟨vm0, k0, locs, X', e', hS, hk, hZ, hown, hR, N, E0, hM, hw⟩
  exact ⟨t, o, stp _ r1, r2⟩
theorem go_putfield {index kk : Nat} {R0 O n d C : String} {v old : Value} {a : Addr} {ty : FieldType} (hd : decode code pc = .ok (.putfield index, 3)) (hq : pc + 3 = q) (w1 : (Cond.fieldLink own index R0 n d).before a0 Z = true) (via : Via Z R0 O n d) (F : Fld Z h a O n d old) (A : Exa Z h a C) (L : (Cond.lays C O n d).before a0 Z = true ∨ ((Cond.laysFinal C O n d).before a0 Z = true ∧ own = O ∧ nm = "<init>")) (wi : (Cond.instantiable C kk).before a0 Z = true)
    (hty : parseFieldDescriptor d = some ty) (hn : narrow ty v = v) (hf : fits ty v = true) (hmem : a ∈ mine) (k : ∀ h', Wr h h' a (RoadKit.slotOf Z O n d) v → Go l w Z EL own nm code ml ret R Q h' mine kc kn q Ls st) : Go l w Z EL own nm code ml ret R Q h mine kc kn pc Ls (v :: .ref a :: st) := by
  subst hq
  intro p e s m args below meth c T hC ⟨vm0, k0, locs, X, eT, hS, hk, hZ, hown, hR, N, E0, hM, hw⟩
  obtain ⟨T', h', X', e', W, stp⟩ := putF X hC.1 hZ hown (host := "") (Or.inl w1) via eT F A (L.imp id fun z => ⟨z.1, z.2.1, hC.2.2.2.2.2.1.trans z.2.2⟩) wi hty hn hf (g := mkF m pc Ls (v :: .ref a :: st)) rfl rfl (hb hC.2.1 hd)
  have K := Keep.of_wr W
  have hs : ∀ x ∈ [a], x ∈ mine := allS hmem all0
  obtain ⟨t, o, r1, r2⟩ := k h' W p e s m args below meth c T' hC ⟨vm0, k0, _, X', e', hS, Nat.le_trans hk K.1, hZ, hown, hR.trans (CHr.keep K (fun x hx => (hM x (hs x hx)).2.2) hR.1), Fr.snoc X' N (hM a hmem).1, ext_keep E0 K (fun x hx => (hM x (hs x hx)).1), hM.keep K hs hR.1, hw⟩
  exact ⟨t, o, stp _ r1, r2⟩
theorem go_new {index kk : Nat} {C : String} (hd : decode code pc = .ok (.new index, 3)) (hq : pc + 3 = q) (w1 : (Cond.classLink own index C).before a0 Z = true) (w2 : (Cond.instantiable C kk).before a0 Z = true) (w3 : (Cond.initialized C).before a0 Z = true) (hc : kc + 1 ≤ R.cells) (hl : kn + kk ≤ R.slots)
    (k : ∀ (h' : Heap) (a : Addr), a = h.size → Ext h h' → Exa Z h' a C → (∀ {O nm d : String} {ty : FieldType}, Laid Z a0 C O nm d → parseFieldDescriptor d = some ty → Fld Z h' a O nm d (defaultValue ty)) → Go l w Z EL own nm code ml ret R Q h' (a :: mine) (kc + 1) (kn + kk) q Ls (.ref a :: st)) : Go l w Z EL own nm code ml ret R Q h mine kc kn pc Ls st := by
  subst hq
  intro p e s m args below meth c T hC ⟨vm0, k0, locs, X, eT, hS, hk, hZ, hown, hR, N, E0, hM, hw⟩
  obtain ⟨T', h', X', e', E, A, D, -, stp⟩ := newO X hC.1 hZ hown w1 w2 w3 eT (g := mkF m pc Ls st) rfl (hb hC.2.1 hd) hc hl
  obtain ⟨t, o, r1, r2⟩ := k h' _ rfl E A D p e s m args below meth c T' hC ⟨vm0, k0, locs, X', e', hS, Nat.le_trans hk E.1, hZ, hown, hR.trans (CHr.ext E hR.1), N, ext_tr E0 E, Mine.new (out := [h.size]) (keep_ext E []) all0 hR.1 hM E0 (allS ⟨Nat.le_refl _, A.lt⟩ all0), hw⟩
  exact ⟨t, o, stp _ r1, r2⟩
theorem go_newarray {aty : ArrayType} {n : Int32} {cap : Nat} {ad : String} (hd : decode code pc = .ok (.newarray aty, 2)) (hq : pc + 2 = q) (w1 : (Cond.arrayClass (newarray.typeOf aty)).before a0 Z = true) (hn : ¬ n < 0) (hcap : n.toNatClampNeg ≤ cap) (hb8 : cap * 8 ≤ 536870912) (hc : kc + 1 ≤ R.cells) (hl : kn + cap ≤ R.slots) (had : "[" ++ (newarray.typeOf aty).toString = ad)
    (k : ∀ (h' : Heap) (a : Addr) (cA : ClassId), a = h.size → Ext h h' → Arv Z h' a cA (newarray.typeOf aty) n [] (defaultValue (newarray.typeOf aty)) → Exa Z h' a ad → Go l w Z EL own nm code ml ret R Q h' (a :: mine) (kc + 1) (kn + cap) q Ls (.ref a :: st)) : Go l w Z EL own nm code ml ret R Q h mine kc kn pc Ls (.int n :: st) := by
  subst hq
  intro p e s m args below meth c T hC ⟨vm0, k0, locs, X, eT, hS, hk, hZ, hown, hR, N, E0, hM, hw⟩
  obtain ⟨T', h', cA, X', e', E, A, A2, stp⟩ := newPE X hC.1 hZ w1 eT (g := mkF m pc Ls (.int n :: st)) rfl (hb hC.2.1 hd) rfl hn hcap hb8 hc hl had
  obtain ⟨t, o, r1, r2⟩ := k h' _ cA rfl E (Arv.new A hn) A2 p e s m args below meth c T' hC ⟨vm0, k0, locs, X', e', hS, Nat.le_trans hk E.1, hZ, hown, hR.trans (CHr.ext E hR.1), N, ext_tr E0 E, Mine.new (out := [h.size]) (keep_ext E []) all0 hR.1 hM E0 (allS ⟨Nat.le_refl _, A.lt⟩ all0), hw⟩
  exact ⟨t, o, stp _ r1, r2⟩
theorem go_arraylength {a : Addr} {kA : ClassId} {ty : FieldType} {z : Int32} {vs : List Value} {dv : Value} (hd : decode code pc = .ok (.arraylength, 1)) (hq : pc + 1 = q) (F : Arv Z h a kA ty z vs dv) (k : Go l w Z EL own nm code ml ret R Q h mine kc kn q Ls (.int z :: st)) : Go l w Z EL own nm code ml ret R Q h mine kc kn pc Ls (.ref a :: st) := by
  subst hq
  intro p e s m args below meth c T hC ⟨vm0, k0, locs, X, eT, hS, hk, hZ, hown, hR, N, E0, hM, hw⟩
  obtain ⟨cl, A, q1, S, q3, H, Gf⟩ := F
  obtain ⟨t, o, r1, r2⟩ := k p e s m args below meth c T hC ⟨vm0, k0, locs, X, eT, hS, hk, hZ, hown, hR, N, E0, hM, hw⟩
  have el : cl.slots.size.toInt32 = z := len_of S q3
  exact ⟨t, o, X.arraylength hC.1 (by rw [eT]; exact A.1) (State.isArrayOf_alike (T := s.setVm vm0) hZ.alike A.2.1) (g := mkF m pc Ls (.ref a :: st)) rfl rfl (hb hC.2.1 hd) _ (by rw [el]; exact r1), r2⟩
theorem go_caload {a : Addr} {kA : ClassId} {z j : Int32} {vs : List Value} {dv v : Value} (hd : decode code pc = .ok (.caload, 1)) (hq : pc + 1 = q) (F : Arv Z h a kA .char z vs dv) (hj : ¬ j < 0 ∧ j < z) (hv : vs.getD j.toNatClampNeg dv = v) (k : Go l w Z EL own nm code ml ret R Q h mine kc kn q Ls (v :: st)) : Go l w Z EL own nm code ml ret R Q h mine kc kn pc Ls (.int j :: .ref a :: st) := by
  subst hq
  intro p e s m args below meth c T hC ⟨vm0, k0, locs, X, eT, hS, hk, hZ, hown, hR, N, E0, hM, hw⟩
  obtain ⟨cl, A, q1, S, q3, H, Gf⟩ := F
  obtain ⟨t, o, r1, r2⟩ := k p e s m args below meth c T hC ⟨vm0, k0, locs, X, eT, hS, hk, hZ, hown, hR, N, E0, hM, hw⟩
  have hin := inb_of S hj
  exact ⟨t, o, X.caload hC.1 (by rw [eT]; exact A.1) (State.isArrayOf_alike (T := s.setVm vm0) hZ.alike A.2.1) A.2.2 hin (H.at hin hv) (g := mkF m pc Ls (.int j :: .ref a :: st)) rfl rfl (hb hC.2.1 hd) _ r1, r2⟩
theorem go_baload {a : Addr} {kA : ClassId} {z j : Int32} {vs : List Value} {dv v : Value} (hd : decode code pc = .ok (.baload, 1)) (hq : pc + 1 = q) (F : Arv Z h a kA .byte z vs dv) (hj : ¬ j < 0 ∧ j < z) (hv : vs.getD j.toNatClampNeg dv = v) (k : Go l w Z EL own nm code ml ret R Q h mine kc kn q Ls (v :: st)) : Go l w Z EL own nm code ml ret R Q h mine kc kn pc Ls (.int j :: .ref a :: st) := by
  subst hq
  intro p e s m args below meth c T hC ⟨vm0, k0, locs, X, eT, hS, hk, hZ, hown, hR, N, E0, hM, hw⟩
  obtain ⟨cl, A, q1, S, q3, H, Gf⟩ := F
  obtain ⟨t, o, r1, r2⟩ := k p e s m args below meth c T hC ⟨vm0, k0, locs, X, eT, hS, hk, hZ, hown, hR, N, E0, hM, hw⟩
  have hin := inb_of S hj
  exact ⟨t, o, X.baloadBytes hC.1 (by rw [eT]; exact A.1) (State.isArrayOf_alike (T := s.setVm vm0) hZ.alike A.2.1) A.2.2 hin (H.at hin hv) (g := mkF m pc Ls (.int j :: .ref a :: st)) rfl rfl (hb hC.2.1 hd) _ r1, r2⟩
theorem go_iaload {a : Addr} {kA : ClassId} {z j : Int32} {vs : List Value} {dv v : Value} (hd : decode code pc = .ok (.iaload, 1)) (hq : pc + 1 = q) (F : Arv Z h a kA .int z vs dv) (hj : ¬ j < 0 ∧ j < z) (hv : vs.getD j.toNatClampNeg dv = v) (k : Go l w Z EL own nm code ml ret R Q h mine kc kn q Ls (v :: st)) : Go l w Z EL own nm code ml ret R Q h mine kc kn pc Ls (.int j :: .ref a :: st) := by
  subst hq
  intro p e s m args below meth c T hC ⟨vm0, k0, locs, X, eT, hS, hk, hZ, hown, hR, N, E0, hM, hw⟩
  obtain ⟨cl, A, q1, S, q3, H, Gf⟩ := F
  obtain ⟨t, o, r1, r2⟩ := k p e s m args below meth c T hC ⟨vm0, k0, locs, X, eT, hS, hk, hZ, hown, hR, N, E0, hM, hw⟩
  have hin := inb_of S hj
  exact ⟨t, o, X.iaload hC.1 (by rw [eT]; exact A.1) (State.isArrayOf_alike (T := s.setVm vm0) hZ.alike A.2.1) A.2.2 hin (H.at hin hv) (g := mkF m pc Ls (.int j :: .ref a :: st)) rfl rfl (hb hC.2.1 hd) _ r1, r2⟩
theorem go_aaload {a : Addr} {kA : ClassId} {ty : FieldType} {z j : Int32} {vs : List Value} {dv v : Value} (hd : decode code pc = .ok (.aaload, 1)) (hq : pc + 1 = q) (F : Arv Z h a kA ty z vs dv) (ht : ty.isReference = true) (hj : ¬ j < 0 ∧ j < z) (hv : vs.getD j.toNatClampNeg dv = v) (k : Go l w Z EL own nm code ml ret R Q h mine kc kn q Ls (v :: st)) : Go l w Z EL own nm code ml ret R Q h mine kc kn pc Ls (.int j :: .ref a :: st) := by
  subst hq
  intro p e s m args below meth c T hC ⟨vm0, k0, locs, X, eT, hS, hk, hZ, hown, hR, N, E0, hM, hw⟩
  obtain ⟨cl, A, q1, S, q3, H, Gf⟩ := F
  obtain ⟨t, o, r1, r2⟩ := k p e s m args below meth c T hC ⟨vm0, k0, locs, X, eT, hS, hk, hZ, hown, hR, N, E0, hM, hw⟩
  have hin := inb_of S hj
  exact ⟨t, o, X.aaload hC.1 (by rw [eT]; exact A.1) (State.isArrayOf_alike (T := s.setVm vm0) hZ.alike A.2.1) ht A.2.2 hin (H.at hin hv) (g := mkF m pc Ls (.int j :: .ref a :: st)) rfl rfl (hb hC.2.1 hd) _ r1, r2⟩
/-- castore: the place i of the known components -/
theorem go_castore {a : Addr} {kA : ClassId} {z j x : Int32} {vs : List Value} {dv : Value} {i : Nat} (hd : decode code pc = .ok (.castore, 1)) (hq : pc + 1 = q) (F : Arv Z h a kA .char z vs dv) (hj : ¬ j < 0 ∧ j < z) (hi : j.toNatClampNeg = i) (hvs : i < vs.length) (hmem : a ∈ mine)
    (k : ∀ h', Keep h h' [a] → Arv Z h' a kA .char z (vs.set i (.int (nar .char x))) dv → Go l w Z EL own nm code ml ret R Q h' mine kc kn q Ls st) : Go l w Z EL own nm code ml ret R Q h mine kc kn pc Ls (.int x :: .int j :: .ref a :: st) := by
  subst hq
  intro p e s m args below meth c T hC ⟨vm0, k0, locs, X, eT, hS, hk, hZ, hown, hR, N, E0, hM, hw⟩
  obtain ⟨cl, A, q1, S, q3, H, Gf⟩ := F
  have hin := inb_of S hj
  obtain ⟨T', h', X', e', W, stp⟩ := stC X hC.1 hZ eT A hin (g := mkF m pc Ls (.int x :: .int j :: .ref a :: st)) rfl rfl (hb hC.2.1 hd)
  have K := Keep.of_wr W
  have hs : ∀ x ∈ [a], x ∈ mine := allS hmem all0
  obtain ⟨t, o, r1, r2⟩ := k h' K (Arv.set A q1 S q3 H Gf (fits_nar_char x) W i hi hvs) p e s m args below meth c T' hC ⟨vm0, k0, _, X', e', hS, Nat.le_trans hk K.1, hZ, hown, hR.trans (CHr.keep K (fun x hx => (hM x (hs x hx)).2.2) hR.1), Fr.snoc X' N (hM a hmem).1, ext_keep E0 K (fun x hx => (hM x (hs x hx)).1), hM.keep K hs hR.1, hw⟩
  exact ⟨t, o, stp _ r1, r2⟩
theorem go_ldc2L {index : Nat} {v : Int64} (hd : decode code pc = .ok (.ldc2_w index, 3)) (hq : pc + 3 = q) (w1 : (Cond.constantLong own index v).before a0 Z = true) (k : Go l w Z EL own nm code ml ret R Q h mine kc kn q Ls (.long v :: st)) : Go l w Z EL own nm code ml ret R Q h mine kc kn pc Ls st := by
  subst hq
  intro p e s m args below meth c T hC ⟨vm0, k0, locs, X, eT, hS, hk, hZ, hown, hR, N, E0, hM, hw⟩
  obtain ⟨t, o, r1, r2⟩ := k p e s m args below meth c T hC ⟨vm0, k0, locs, X, eT, hS, hk, hZ, hown, hR, N, E0, hM, hw⟩
  exact ⟨t, o, X.ldc2Long hC.1 hown (mvT hZ w1) (g := mkF m pc Ls st) rfl (hb hC.2.1 hd) _ r1, r2⟩
theorem go_aastore {a y : Addr} {kA : ClassId} {ty : FieldType} {z j : Int32} {vs : List Value} {dv : Value} {i : Nat} {C : String} (hd : decode code pc = .ok (.aastore, 1)) (hq : pc + 1 = q) (F : Arv Z h a kA ty z vs dv) (ht : ty.isReference = true) (O : Ovr Z kA C) (I : Ins Z h y C true) (hfit : fits ty (.ref y) = true) (hj : ¬ j < 0 ∧ j < z) (hi : j.toNatClampNeg = i) (hvs : i < vs.length) (hmem : a ∈ mine)
    (k : ∀ h', Keep h h' [a] → Arv Z h' a kA ty z (vs.set i (.ref y)) dv → Go l w Z EL own nm code ml ret R Q h' mine kc kn q Ls st) : Go l w Z EL own nm code ml ret R Q h mine kc kn pc Ls (.ref y :: .int j :: .ref a :: st) := by
  subst hq
  intro p e s m args below meth c T hC ⟨vm0, k0, locs, X, eT, hS, hk, hZ, hown, hR, N, E0, hM, hw⟩
  obtain ⟨cl, A, q1, S, q3, H, Gf⟩ := F
  have hin := inb_of S hj
  obtain ⟨T', h', X', e', W, stp⟩ := stR X hC.1 hZ eT A hin ht (Sto.ofV A q1 O I) (g := mkF m pc Ls (.ref y :: .int j :: .ref a :: st)) rfl rfl (hb hC.2.1 hd)
  have K := Keep.of_wr W
  have hs : ∀ x ∈ [a], x ∈ mine := allS hmem all0
  obtain ⟨t, o, r1, r2⟩ := k h' K (Arv.set A q1 S q3 H Gf hfit W i hi hvs) p e s m args below meth c T' hC ⟨vm0, k0, _, X', e', hS, Nat.le_trans hk K.1, hZ, hown, hR.trans (CHr.keep K (fun x hx => (hM x (hs x hx)).2.2) hR.1), Fr.snoc X' N (hM a hmem).1, ext_keep E0 K (fun x hx => (hM x (hs x hx)).1), hM.keep K hs hR.1, hw⟩
  exact ⟨t, o, stp _ r1, r2⟩
theorem go_anewarray {index cap : Nat} {n : Int32} {C ad : String} (hd : decode code pc = .ok (.anewarray index, 3)) (hq : pc + 3 = q) (w1 : (Cond.classLink own index C).before a0 Z = true) (w2 : (Cond.arrayOver (.object C)).before a0 Z = true) (hn : ¬ n < 0) (hcap : n.toNatClampNeg ≤ cap) (hb8 : cap * 8 ≤ 536870912) (hc : kc + 1 ≤ R.cells) (hl : kn + cap ≤ R.slots) (had : "[" ++ (FieldType.object C).toString = ad)
    (k : ∀ (h' : Heap) (a : Addr) (cA : ClassId), a = h.size → Ext h h' → Arv Z h' a cA (.object C) n [] .null → Exa Z h' a ad → Ovr Z cA C → Go l w Z EL own nm code ml ret R Q h' (a :: mine) (kc + 1) (kn + cap) q Ls (.ref a :: st)) : Go l w Z EL own nm code ml ret R Q h mine kc kn pc Ls (.int n :: st) := by
  subst hq
  intro p e s m args below meth c T hC ⟨vm0, k0, locs, X, eT, hS, hk, hZ, hown, hR, N, E0, hM, hw⟩
  obtain ⟨T', h', cA, X', e', E, A, A2, O, stp⟩ := newRE X hC.1 hZ hown w1 w2 eT (g := mkF m pc Ls (.int n :: st)) rfl (hb hC.2.1 hd) rfl hn hcap hb8 hc hl had
  obtain ⟨t, o, r1, r2⟩ := k h' _ cA rfl E (Arv.new A hn) A2 O p e s m args below meth c T' hC ⟨vm0, k0, locs, X', e', hS, Nat.le_trans hk E.1, hZ, hown, hR.trans (CHr.ext E hR.1), N, ext_tr E0 E, Mine.new (out := [h.size]) (keep_ext E []) all0 hR.1 hM E0 (allS ⟨Nat.le_refl _, A.lt⟩ all0), hw⟩
  exact ⟨t, o, stp _ r1, r2⟩
theorem go_bastore {a : Addr} {kA : ClassId} {z j x : Int32} {vs : List Value} {dv : Value} {i : Nat} (hd : decode code pc = .ok (.bastore, 1)) (hq : pc + 1 = q) (F : Arv Z h a kA .byte z vs dv) (hj : ¬ j < 0 ∧ j < z) (hi : j.toNatClampNeg = i) (hvs : i < vs.length) (hmem : a ∈ mine)
    (k : ∀ h', Keep h h' [a] → Arv Z h' a kA .byte z (vs.set i (.int x.toInt8.toInt32)) dv → Go l w Z EL own nm code ml ret R Q h' mine kc kn q Ls st) : Go l w Z EL own nm code ml ret R Q h mine kc kn pc Ls (.int x :: .int j :: .ref a :: st) := by
  subst hq
  intro p e s m args below meth c T hC ⟨vm0, k0, locs, X, eT, hS, hk, hZ, hown, hR, N, E0, hM, hw⟩
  obtain ⟨cl, A, q1, S, q3, H, Gf⟩ := F
  have hin := inb_of S hj
  obtain ⟨T', h', X', e', W, stp⟩ := stB X hC.1 hZ eT A hin (g := mkF m pc Ls (.int x :: .int j :: .ref a :: st)) rfl rfl (hb hC.2.1 hd)
  have K := Keep.of_wr W
  have hs : ∀ x ∈ [a], x ∈ mine := allS hmem all0
  obtain ⟨t, o, r1, r2⟩ := k h' K (Arv.set A q1 S q3 H Gf (fits_nar_byte x) W i hi hvs) p e s m args below meth c T' hC ⟨vm0, k0, _, X', e', hS, Nat.le_trans hk K.1, hZ, hown, hR.trans (CHr.keep K (fun x hx => (hM x (hs x hx)).2.2) hR.1), Fr.snoc X' N (hM a hmem).1, ext_keep E0 K (fun x hx => (hM x (hs x hx)).1), hM.keep K hs hR.1, hw⟩
  exact ⟨t, o, stp _ r1, r2⟩
theorem go_copyB {index W o n qq : Nat} {a b : Addr} {kA kB : ClassId} {za zb jo jq jn : Int32} {vs vs2 : List Value} {dv dv2 : Value} (hd : decode code pc = .ok (.invokestatic index, 3)) (hq : pc + 3 = q) (w1 : (Cond.methodLink own index acN).before a0 Z = true) (w2 : (Cond.native acN).before a0 Z = true) (w3 : (Cond.static acN).before a0 Z = true) (w4 : (Cond.initialized "java/lang/System").before a0 Z = true)
    (F : Arv Z h a kA .byte za vs dv) (F2 : Arv Z h b kB .byte zb vs2 dv2) (ho : jo = Int32.ofNat o) (hqq : jq = Int32.ofNat qq) (hn : jn = Int32.ofNat n) (h4 : o + n ≤ za.toNatClampNeg) (h5 : qq + n ≤ zb.toNatClampNeg) (hml : Ls.size = ml) (hf : 1 ≤ R.frames) (hW : (st.map fun v => v.category).sum ≤ W) (hlo : W + 40 ≤ R.locals) (hmem : b ∈ mine)
    (k : ∀ h', Keep h h' [b] → (∃ vs' : List Value, vs'.length = zb.toNatClampNeg ∧ Arv Z h' b kB .byte zb vs' (.int 0)) → Go l w Z EL own nm code ml ret R Q h' mine kc kn q Ls st) : Go l w Z EL own nm code ml ret R Q h mine kc kn pc Ls (.int jn :: .int jq :: .ref b :: .int jo :: .ref a :: st) := by
  subst hq
  intro p e s m args below meth c T hC ⟨vm0, k0, locs, X, eT, hS, hk, hZ, hown, hR, N, E0, hM, hw⟩
  obtain ⟨ca, A, qa1, Sa, qa3, Ha, Ga⟩ := F
  obtain ⟨cb, B, qb1, Sb, qb3, Hb, Gb⟩ := F2
  have al := hZ.alike.trans X.warmed.alike
  have sa : ca.slots.size < 2 ^ 31 := by rw [Sa]; have := za.toInt_lt; simp only [Int32.toNatClampNeg]; omega
  have sb : cb.slots.size < 2 ^ 31 := by rw [Sb]; have := zb.toInt_lt; simp only [Int32.toNatClampNeg]; omega
  have XA : Jvm.Free.XT.Arr .byte a ca T := ⟨by rw [eT]; exact A.1, State.isArrayOf_alike al A.2.1, A.2.2, sa⟩
  have XB : Jvm.Free.XT.Arr .byte b cb T := ⟨by rw [eT]; exact B.1, State.isArrayOf_alike al B.2.1, B.2.2, sb⟩
  have gtA : ∀ i, i < ca.slots.size → fits .byte (ca.slots.getD i .null) = true := fun i hi => by
    have e : ca.slots[i]? = some (vs.getD i dv) := Ha i hi
    rw [Array.getD_eq_getD_getElem?, e]; exact Ga i hi
  obtain ⟨T', B', X', P1, e1, e2, e3, e4, stp⟩ := X.acopy hC.1 hown (fun d hd => by
      simp only [Jvm.Free.XT.acW, List.mem_cons, List.not_mem_nil, or_false] at hd
      rcases hd with rfl | rfl | rfl | rfl
      · exact mvT hZ w1
      · exact mvT hZ w2
      · exact mvT hZ w3
      · exact mvT hZ w4) XA XB rfl ho hqq hn (by rw [Sa]; exact h4) (by rw [Sb]; exact h5) (fun i hi => ⟨gtA _ (by omega), fun z => by cases z⟩)
    (g := mkF m pc Ls (.int jn :: .int jq :: .ref b :: .int jo :: .ref a :: st)) rfl (by rw [hC.2.2.1]; exact hml) (rest := st) rfl (hb hC.2.1 hd) (W := W) (by show 2 * 0 + _ ≤ _; omega) hf hlo
  have hbh : h[b]? = some cb := B.1
  have K : Keep h T'.heap [b] := ⟨by rw [P1.2.2, eT]; exact Nat.le_refl _, fun x c hx hn => by rw [P1.2.1 x (fun e => hn (by rw [e]; exact List.mem_cons_self ..)), eT]; exact hx, fun x c hx => by
    by_cases e : x = b
    · subst e; cases hbh.symm.trans hx; exact ⟨B', P1.1, e1, e2, e3⟩
    · exact ⟨c, by rw [P1.2.1 x e, eT]; exact hx, rfl, rfl, rfl⟩⟩
  have gv : ∀ i, i < B'.slots.size → ∃ v, B'.slots[i]? = some v ∧ fits .byte v = true := fun i hi => by
    rw [e4 i]
    split
    · next hc => exact ⟨_, rfl, gtA _ (by omega)⟩
    · rw [e3] at hi
      exact ⟨_, Hb i hi, Gb i hi⟩
  have NA : ∃ vs' : List Value, vs'.length = zb.toNatClampNeg ∧ Arv Z T'.heap b kB .byte zb vs' (.int 0) := by
    refine ⟨B'.slots.toList, by rw [Array.length_toList, e3, Sb], B', ⟨P1.1, ?_, by rw [e2]; exact B.2.2⟩, by rw [e1]; exact qb1, by rw [e3]; exact Sb, qb3, fun i hi => ?_, fun i hi => ?_⟩
    · obtain ⟨z1, kk, z2, z3⟩ := B.2.1
      exact ⟨by rw [e2]; exact z1, kk, by rw [e1]; exact z2, z3⟩
    · obtain ⟨v, hv, -⟩ := gv i hi
      rw [List.getD_eq_getElem?_getD, Array.getElem?_toList, hv]; rfl
    · obtain ⟨v, hv, hf⟩ := gv i hi
      rw [List.getD_eq_getElem?_getD, Array.getElem?_toList, hv]; exact hf
  have hs : ∀ x ∈ [b], x ∈ mine := allS hmem all0
  obtain ⟨t, o', r1, r2⟩ := k T'.heap K NA p e s m args below meth c T' hC ⟨vm0, k0, _, X', rfl, hS, Nat.le_trans hk K.1, hZ, hown, hR.trans (CHr.keep K (fun x hx => (hM x (hs x hx)).2.2) hR.1), N.app (fun y hy => by rw [copyLocs_base hy]; exact (hM b hmem).1), ext_keep E0 K (fun x hx => (hM x (hs x hx)).1), hM.keep K hs hR.1, hw⟩
  exact ⟨t, o', stp _ r1, r2⟩
theorem go_clone {index cap W : Nat} {ad : String} {a : Addr} {kA : ClassId} {ty : FieldType} {z : Int32} {vs : List Value} {dv : Value} (hd : decode code pc = .ok (.invokevirtual index, 3)) (hq : pc + 3 = q)
    (w1 : (Cond.methodLink own index ⟨ad, "clone", "()Ljava/lang/Object;"⟩).before a0 Z = true) (w2 : (Cond.sameMethod ad "java/lang/Object" "clone" "()Ljava/lang/Object;").before a0 Z = true) (w3 : (Cond.native ⟨"java/lang/Object", "clone", "()Ljava/lang/Object;"⟩).before a0 Z = true)
    (w4 : (Cond.instanceMethod ⟨"java/lang/Object", "clone", "()Ljava/lang/Object;"⟩).before a0 Z = true) (w5 : (Cond.selects ad ⟨ad, "clone", "()Ljava/lang/Object;"⟩ ⟨"java/lang/Object", "clone", "()Ljava/lang/Object;"⟩).before a0 Z = true) (w6 : (Cond.castable ad "java/lang/Cloneable").before a0 Z = true)
    (F : Arv Z h a kA ty z vs dv) (E1 : Exa Z h a ad) (hml : Ls.size = ml) (hf : 1 ≤ R.frames) (hW : (st.map fun v => v.category).sum ≤ W) (hl : W + 14 ≤ R.locals) (hcap : z.toNatClampNeg ≤ cap) (hc : kc + 1 ≤ R.cells) (hsl : kn + cap ≤ R.slots)
    (k : ∀ (h' : Heap) (b : Addr), b = h.size → Ext h h' → Arv Z h' b kA ty z vs dv → Exa Z h' b ad → Go l w Z EL own nm code ml ret R Q h' (b :: mine) (kc + 1) (kn + cap) q Ls (.ref b :: st)) : Go l w Z EL own nm code ml ret R Q h mine kc kn pc Ls (.ref a :: st) := by
  subst hq
  intro p e s m args below meth c T hC ⟨vm0, k0, locs, X, eT, hS, hk, hZ, hown, hR, N, E0, hM, hw⟩
  obtain ⟨T', h', X', e', E, A, A2, stp⟩ := cloneH X hC.1 hZ hown w1 w2 w3 w4 w5 w6 eT F.arh E1 (g := mkF m pc Ls (.ref a :: st)) rfl (by rw [hC.2.2.1]; exact hml) (rest := st) rfl (hb hC.2.1 hd) hf (W := W) (by show 2 * 0 + _ ≤ _; omega) hl hcap hc hsl
  obtain ⟨t, o, r1, r2⟩ := k h' _ rfl E A A2 p e s m args below meth c T' hC ⟨vm0, k0, locs, X', e', hS, Nat.le_trans hk E.1, hZ, hown, hR.trans (CHr.ext E hR.1), N, ext_tr E0 E, Mine.new (out := [h.size]) (keep_ext E []) all0 hR.1 hM E0 (allS ⟨Nat.le_refl _, A2.lt⟩ all0), hw⟩
  exact ⟨t, o, stp _ r1, r2⟩
theorem go_initObj {idx W : Nat} {a : Addr} (hd : decode code pc = .ok (.invokespecial idx, 3)) (hq : pc + 3 = q) (w1 : (Cond.methodLink own idx Lib.objectInit).before a0 Z = true) (w2 : (Cond.instanceMethod Lib.objectInit).before a0 Z = true) (w3 : (Cond.code Lib.objectInit ⟨#[0xb1]⟩ 1 none).before a0 Z = true) (hml : Ls.size = ml) (hf : 1 ≤ R.frames) (hW : (st.map fun v => v.category).sum ≤ W) (hl : W + 12 ≤ R.locals)
    (k : Go l w Z EL own nm code ml ret R Q h mine kc kn q Ls st) : Go l w Z EL own nm code ml ret R Q h mine kc kn pc Ls (.ref a :: st) := by
  subst hq
  intro p e s m args below meth c T hC ⟨vm0, k0, locs, X, eT, hS, hk, hZ, hown, hR, N, E0, hM, hw⟩
  obtain ⟨T', X', e', stp⟩ := initO X hC.1 hZ hown w1 w2 w3 eT (g := mkF m pc Ls (.ref a :: st)) rfl (by rw [hC.2.2.1]; exact hml) (rest := st) rfl (hb hC.2.1 hd) hf (W := W) (by show 2 * 0 + _ ≤ _; omega) hl
  obtain ⟨t, o, r1, r2⟩ := k p e s m args below meth c T' hC ⟨vm0, k0, locs, X', e', hS, hk, hZ, hown, hR, N, E0, hM, hw⟩
  exact ⟨t, o, stp _ r1, r2⟩
theorem go_ldcS {index n : Nat} {text : String} {vs : List Value} {z : Int32} (hd : decode code pc = .ok (.ldc index, 2)) (hq : pc + 2 = q) (hw1 : w = true) (w1 : (Cond.stringLink own index text).before a0 Z = true) (wS : ∀ a ∈ Bundle.stringAtoms, a.before a0 Z = true) (hEL : EW Z a0 EL) (hmem : (own, index) ∈ EL)
    (ht : (∀ c ∈ text.toList, c.toNat < 256) ∧ text.toList.map (fun c => Value.int (Jvm.Lit.byteI c.toNat.toUInt16)) = vs) (hz : ¬ z < 0) (hl : z.toNatClampNeg = vs.length) (hn : 4 * text.toList.length ≤ n) (hbig : n ≤ 536870912) (hc : kc + 2 ≤ R.cells) (hl' : kn + (n + 4) ≤ R.slots)
    (k : ∀ (h' : Heap) (a b : Addr) (kb : ClassId), Ext h h' → Exa Z h' a "java/lang/String" → Fld Z h' a "java/lang/String" "coder" "B" (.int 0) → Fld Z h' a "java/lang/String" "value" "[B" (.ref b) → Arv Z h' b kb .byte z vs (.int 0) → (∀ x ∈ mine, x ≠ a ∧ x ≠ b) → Go l w Z EL own nm code ml ret R Q h' mine (kc + 2) (kn + (n + 4)) q Ls (.ref a :: st)) : Go l w Z EL own nm code ml ret R Q h mine kc kn pc Ls st := by
  subst hq hw1
  intro p e s m args below meth c T hC ⟨vm0, k0, locs, X, eT, hS, hk, hZ, hown, hR, N, E0, hM, hw⟩
  obtain ⟨a, T', h', k1, b, kb, X', e', E, hS', hk', hZ', hown', f1, f2, f3, f4, f5, f6, hC', hL, hne, stp⟩ := ldcCH X hC.1 hZ hown w1 wS eT hS hk hEL hmem hR.1 ht hz hl (g := mkF m pc Ls st) rfl (hb hC.2.1 hd) hn hbig hc hl'
  have hM' : Mine Z EL T'.vm h' mine := hM.later hC'
  obtain ⟨t, o, r1, r2⟩ := k h' a b kb E f1 f2 f3 f4 (fun x hx => hne x (hM' x hx).2.2) p e s m args below meth c T' hC ⟨T'.vm, k1, locs, X', e', hS', hk', hZ', hown', hR.trans hC', N, ext_tr E0 E, hM', fun q => nomatch q⟩
  exact ⟨t, o, stp _ r1, r2⟩
end Plain
section Leave
variable {l : Launch} {w : Bool} {Z : State} {EL : List (String × Nat)} {own nm : String} {code : ByteArray} {ml : Nat} {ret : Option FieldType} {R : Room} {Q : Option Value → Heap → List Addr → Prop} {h : Heap} {mine : List Addr} {kc kn pc q : Nat} {Ls : Array Slot} {st : List Value} {a0 : Array Value}
theorem go_leave {v : Option Value} {out : List Addr} (hv : ret = none → v = none)
    (hstep : ∀ (p : Program) (e : Env) (s : State) (m : MethodId) (args : Array Value) (below : List Frame) (meth : Method) (c : Code) (T : State) (locs : List Loc) (fs : List Frame), Stand p l e R s m args below meth c T locs kc kn → Ctx Z EL nm code ml ret p meth c → (∀ (f : JFrame) (acts : List Action), f.method = m → f.locked = none → f.entered = [] → (doReturn e (T.setTop f) acts v).1 = T.setFrames fs) → Steps p.tables e below (T.setTop (mkF m pc Ls st)) (T.setFrames fs))
    (hQ : Q v h out) (ho : ∀ x ∈ out, x ∈ mine) (hc : kc ≤ R.cells) (hn : kn ≤ R.slots) : Go l w Z EL own nm code ml ret R Q h mine kc kn pc Ls st := by
  intro p e s m args below meth c T hC ⟨vm0, k0, locs, X, eT, hS, hk, hZ, hown, hR, N, E0, hM, hw⟩
  obtain ⟨fs, h1, h2, h3, hW, hs⟩ := X.leave (v := v) (fun z => hv (hC.2.2.2.1.symm.trans z)) hC.2.2.2.2.1
  obtain ⟨ra, rb, rc⟩ := hS.ended (U := T.setFrames fs) hW (by show k0 ≤ T.heap.size; rw [eT]; exact hk) hs
  obtain ⟨a1, hEL⟩ := hC.2.2.2.2.2.2
  have A := CHv.at X hZ hEL hR.1
  subst eT
  refine ⟨_, _, hstep p e _ m args below meth c T locs fs X hC h1, h2, h3, v, locs, out, rfl, hQ, N, (hM.sub ho).later A, hR.trans A, E0, ⟨⟨v, rfl⟩, ra, rb, rc.mono hc hn⟩, fun q => ?_⟩
  cases hw q
  exact ⟨⟨v, rfl⟩, hW, hs.mono hc hn⟩
theorem go_return {out : List Addr} (hret : ret = none) (hd : decode code pc = .ok (.return_, 1)) (hQ : Q none h out) (ho : ∀ x ∈ out, x ∈ mine) (hc : kc ≤ R.cells) (hn : kn ≤ R.slots) : Go l w Z EL own nm code ml ret R Q h mine kc kn pc Ls [] :=
  go_leave (fun _ => rfl) (fun p e s m args below meth c T locs fs X hC h1 => X.returnOut hC.1 (hC.2.2.2.1.trans hret) (hb hC.2.1 hd) h1) hQ ho hc hn
theorem go_retV {t : FieldType} {i : Instr} {v : Value} {out : List Addr} (hret : ret = some t) (hnr : narrow t v = v)
    (hi : (i = .ireturn ∧ (t = .int ∨ t = .boolean ∨ t = .byte ∨ t = .char ∨ t = .short) ∧ ∃ z, v = .int z) ∨ (i = .lreturn ∧ t = .long ∧ ∃ z, v = .long z) ∨ (i = .dreturn ∧ t = .double ∧ ∃ z, v = .double z) ∨ (i = .freturn ∧ t = .float ∧ ∃ z, v = .float z) ∨ (i = .areturn ∧ t.isReference = true ∧ v.isRef = true))
    (hd : decode code pc = .ok (i, 1)) (hQ : Q (some v) h out) (ho : ∀ x ∈ out, x ∈ mine) (hc : kc ≤ R.cells) (hn : kn ≤ R.slots) : Go l w Z EL own nm code ml ret R Q h mine kc kn pc Ls (v :: st) :=
  go_leave (fun z => by rw [hret] at z; cases z) (fun p e s m args below meth c T locs fs X hC h1 => retOut X hC.1 (hC.2.2.2.1.trans hret) hnr hi (hb hC.2.1 hd) h1) hQ ho hc hn
theorem go_ireturn {t : FieldType} {z : Int32} {out : List Addr} (hret : ret = some t) (ht : t = .int ∨ t = .boolean ∨ t = .byte ∨ t = .char ∨ t = .short) (hnr : narrow t (.int z) = .int z) (hd : decode code pc = .ok (.ireturn, 1)) (hQ : Q (some (.int z)) h out) (ho : ∀ x ∈ out, x ∈ mine) (hc : kc ≤ R.cells) (hn : kn ≤ R.slots) : Go l w Z EL own nm code ml ret R Q h mine kc kn pc Ls (.int z :: st) :=
  go_retV hret hnr (Or.inl ⟨rfl, ht, z, rfl⟩) hd hQ ho hc hn
theorem go_areturn {t : FieldType} {v : Value} {out : List Addr} (hret : ret = some t) (hnr : narrow t v = v) (ht : t.isReference = true) (hv : v.isRef = true) (hd : decode code pc = .ok (.areturn, 1)) (hQ : Q (some v) h out) (ho : ∀ x ∈ out, x ∈ mine) (hc : kc ≤ R.cells) (hn : kn ≤ R.slots) : Go l w Z EL own nm code ml ret R Q h mine kc kn pc Ls (v :: st) :=
  go_retV hret hnr (Or.inr (Or.inr (Or.inr (Or.inr ⟨rfl, ht, hv⟩)))) hd hQ ho hc hn
end Leave
section Contracts
variable {l : Launch} {w : Bool} {Z : State} {EL : List (String × Nat)} {own nm : String} {code : ByteArray} {ml : Nat} {ret : Option FieldType} {R : Room} {Q : Option Value → Heap → List Addr → Prop} {h : Heap} {mine : List Addr} {kc kn pc q : Nat} {Ls : Array Slot} {st : List Value} {a0 : Array Value}
theorem con_of_goF {y : MethodName} {as' : Array Value} {Ls0 : Array Slot} {ws : List Jvm.Cond} (hpl : plainFor y = true) (hef : ∀ m, entryFrame m as' ml = mkF m 0 Ls0 []) (E0 : Ext Z.heap h) (hEL : ∃ a0 : Array Value, EW Z a0 EL)
    (hg : Go l w Z EL y.cls y.name code ml ret R Q h mine 0 0 0 Ls0 []) : Con l w Z EL y code ml ret ws R as' h mine Q := by
  refine MetFree.of_bodySF hpl hisR ?_
  intro p e s m args below meth c s₁ Bd hml0 hP hK
  obtain ⟨ha, hZ, hh, hCv, hM⟩ := hP
  subst ha
  have X0 : Stand p l e R s m args below meth c s₁ [] 0 0 := Stand.of_body Bd
  have e0 : s₁.heap = h := by rw [← hh, Bd.state]; rfl
  obtain ⟨t, o, r1, r2, r3, r4⟩ := hg p e s m args below meth c s₁ ⟨Bd.exec, Bd.bytes, hml0, Bd.returns, Bd.notSynchronized, (name_of_methodNamed Bd.named Bd.method).1, hEL⟩
    ⟨s.vm, 0, [], X0, e0, (State.WarmedH.refl s).since 0, Nat.zero_le _, hZ, findClass_of_methodNamed Bd.named, by rw [hh]; exact CHr.refl hCv, Fr.nil _, E0, hM, fun _ => rfl⟩
  exact ⟨t, o, castTop (hef m) r1, r2, r3, r4⟩
theorem con_of_go {y : MethodName} {as' : Array Value} {Ls0 : Array Slot} {ws : List Jvm.Cond} (hpl : plainName y.cls = true) (hef : ∀ m, entryFrame m as' ml = mkF m 0 Ls0 []) (E0 : Ext Z.heap h) (hEL : ∃ a0 : Array Value, EW Z a0 EL)
    (hg : Go l w Z EL y.cls y.name code ml ret R Q h mine 0 0 0 Ls0 []) : Con l w Z EL y code ml ret ws R as' h mine Q := con_of_goF (plainFor_of_name hpl) hef E0 hEL hg
/-- a contract that interns nothing, as a payment -/
theorem con_pay {y : MethodName} {as' : Array Value} {R' : Room} {len W : Nat} {P' : Option Value → Heap → List Addr → Prop} (hc : Con l false Z [] y code ml ret [] R' as' h mine P') (hm : ∀ x ∈ mine, Z.heap.size ≤ x ∧ x < h.size) (wc : (Cond.code y code ml ret).before a0 Z = true) (wz : (Cond.initialized y.cls).before a0 Z = true) (hf : R'.frames + 1 ≤ R.frames) (hl : W + (ml + 11) + R'.locals ≤ R.locals) :
    Pay l R Z y len W as' h R'.cells R'.slots (fun v h' L => ∃ out, P' v h' out ∧ Fr Z.heap.size L ∧ Ext Z.heap h' ∧ ∀ x ∈ out, Z.heap.size ≤ x ∧ x < h'.size) := fun p e below s args hZ => by
  refine backOf (rm := R') (bytes := code) (maxL := ml) (ret := ret) (Q := fun v h' L => ∃ out, P' v h' out ∧ Fr Z.heap.size L ∧ Ext Z.heap h' ∧ ∀ x ∈ out, Z.heap.size ≤ x ∧ x < h'.size) ?_ hZ wc wz hf hl
  intro p e ha hcas hclk s m args below hfr happ hP hK
  obtain ⟨n, o, h1, h2, h3, v, L, out, h4, h5, h6, h7, h8, h9, h10⟩ := hc p e ha hcas hclk s m args below hfr happ ⟨hP.1, hP.2.1, hP.2.2, CHv.none, fun x hx => ⟨(hm x hx).1, (hm x hx).2, Safe.none⟩⟩ hK
  exact ⟨n, o, h1, h2, h3, v, L, h4, ⟨out, h5, h6, h9, fun x hx => ⟨(h7 x hx).1, (h7 x hx).2.1⟩⟩, h10.2 rfl⟩
/-- a contract that may intern, as a payment -/
theorem con_backS {y : MethodName} {as' : Array Value} {R' : Room} {len W : Nat} {P' : Option Value → Heap → List Addr → Prop} {p : Program} {e : Env} {below : List Frame} {s : State} {args : Array Value} {vm0 : Vm} (hc : Con l w Z EL y code ml ret [] R' as' h mine P') (hZ : Z.Warmed39 vm0) (wc : (Cond.code y code ml ret).before a0 Z = true) (wz : (Cond.initialized y.cls).before a0 Z = true) (hf : R'.frames + 1 ≤ R.frames) (hl : W + (ml + 11) + R'.locals ≤ R.locals) {a1 : Array Value} (hEL : EW Z a1 EL) (H : CHv Z EL vm0 h) (M : Mine Z EL vm0 h mine) :
    BackS l R p e below (s.setVm vm0) args y len W (fun A a => a = as' ∧ A.U.heap = h ∧ A.cells + R'.cells ≤ R.cells ∧ A.slots + R'.slots ≤ R.slots)
      (fun A _ v B => ∃ L, (∃ out, P' v B.U.heap out ∧ Fr Z.heap.size L ∧ Mine Z EL B.U.vm B.U.heap out ∧ Ext Z.heap B.U.heap) ∧ B.locs = A.locs ++ L ∧ B.cells = A.cells + R'.cells ∧ B.slots = A.slots + R'.slots ∧ CHr Z EL vm0 h B.U.vm B.U.heap) :=
  BackS.of_freeW (bytes := code) (maxL := ml) (ret := ret) (E := fun _ first o t L k n => k = R'.cells ∧ n = R'.slots ∧ (∃ v, o = .returned v ∧ ∃ out, P' v t.heap out ∧ Fr Z.heap.size L ∧ Mine Z EL t.vm t.heap out ∧ Ext Z.heap t.heap) ∧ CHr Z EL first.vm first.heap t.vm t.heap) hc hf hl
    (fun m meth c A a Y hp => have hU : Z.Warmed39 A.U.vm := wtrans (s := s.setVm vm0) hZ Y.warmed
      ⟨by show (Cond.and _ .tt).before a A.U = true; rw [Cond.before_and, mv hU wc]; rfl, mv hU wc, mv hU wz, hp.2.2.1, hp.2.2.2⟩)
    (fun m meth c A a g mk Y hp => ⟨hp.1, wtrans (s := s.setVm vm0) hZ Y.warmed, hp.2.1, (CHv.at Y hZ hEL H).1, M.later (vm1 := A.U.vm) (CHv.at Y hZ hEL H)⟩) (fun _ _ _ _ _ _ _ _ _ => trivial)
    (fun _ _ _ _ ⟨v, L, out, h1, h2, h3, h4, h5, h6, h7⟩ => ⟨L, _, _, h7.1, rfl, rfl, ⟨v, h1, out, h2, h3, h4, h6⟩, h5⟩)
    (fun m meth c A a g mk v t L k n Y hp _ _ ⟨e1, e2, ⟨v', e3, e4⟩, e5⟩ => by
      cases e3; subst e1 e2
      refine ⟨L, e4, rfl, rfl, rfl, (CHv.at Y hZ hEL H).trans ?_⟩
      rw [← hp.2.1]; exact e5)
end Contracts
section Calls
variable {l : Launch} {w : Bool} {Z : State} {EL : List (String × Nat)} {own nm : String} {code : ByteArray} {ml : Nat} {ret : Option FieldType} {R : Room} {Q : Option Value → Heap → List Addr → Prop} {h : Heap} {mine : List Addr} {kc kn pc q : Nat} {Ls : Array Slot} {st : List Value} {a0 : Array Value}
theorem go_callS {index : Nat} {y : MethodName} {bytes : ByteArray} {maxL : Nat} {ret' : Option FieldType} {W : Nat} {argsL rest : List Value} {dc dn : Nat} {ws : List Addr} {P : Option Value → Heap → List Loc → Prop} (hd : decode code pc = .ok (.invokestatic index, 3)) (hq : pc + 3 = q) (w1 : (Cond.methodLink own index y).before a0 Z = true) (w2 : (Cond.static y).before a0 Z = true) (w3 : (Cond.initialized y.cls).before a0 Z = true) (w4 : (Cond.code y bytes maxL ret').before a0 Z = true) (hy : y.cls ≠ "java/lang/invoke/MethodHandle" ∧ y.cls ≠ "java/lang/invoke/VarHandle") (hK : Pay l R Z y 3 W argsL.toArray h dc dn P) (hst : st = argsL.reverse ++ rest) (hml : Ls.size = ml) (hlen : ∀ sig, parseMethodDescriptor y.desc = some sig → argsL.length = sig.parameters.length) (hW : (rest.map fun v => v.category).sum ≤ W) (hdc : kc + dc ≤ R.cells) (hdn : kn + dn ≤ R.slots)
    (hP : ∀ v h' L, P v h' L → Fr Z.heap.size L ∧ Keep h h' ws) (hws : ∀ x ∈ ws, x ∈ mine)
    (k : ∀ v h' L, P v h' L → ∃ out, (∀ x ∈ out, h.size ≤ x ∧ x < h'.size) ∧ Go l w Z EL own nm code ml ret R Q h' (out ++ mine) (kc + dc) (kn + dn) q Ls (v.toList ++ rest)) : Go l w Z EL own nm code ml ret R Q h mine kc kn pc Ls st := by
  subst hq hst
  intro p e s m args below meth c T hC ⟨vm0, k0, locs, X, eT, hS, hk, hZ, hown, hR, N, E0, hM, hw⟩
  obtain ⟨v, vm1, ⟨T', L', k', n'⟩, -, X', ⟨Lc, hQ, l1, y1, z1⟩, stp⟩ := Jvm.LawKit.callS X hC.1 (y := y) hown (mvT hZ w1) (mvT hZ w2) (mvT hZ w3) (mvT hZ w4) hy (hK p e below _ args hZ)  (g := mkF m pc Ls (argsL.reverse ++ rest)) rfl (by rw [hC.2.2.1]; exact hml)  (argsL := argsL) (rest := rest) hlen rfl (by show 2 * 0 + _ ≤ _; omega) (hb hC.2.1 hd) (fun _ _ => ⟨rfl, eT, hdc, hdn⟩)
  dsimp only [Pt.U, Pt.locs, Pt.cells, Pt.slots] at X' l1 y1 z1 stp hQ
  subst l1 y1 z1
  obtain ⟨out, ho, g0⟩ := k v T'.heap Lc hQ
  obtain ⟨N1, K⟩ := hP v T'.heap Lc hQ
  obtain ⟨t, o, r1, r2⟩ := g0 p e s m args below meth c T' hC ⟨vm0, k0, _, X', rfl, hS, Nat.le_trans hk K.1, hZ, hown, hR.trans (CHr.keep K (fun x hx => (hM x (hws x hx)).2.2) hR.1), N.app N1, ext_keep E0 K (fun x hx => (hM x (hws x hx)).1), Mine.new K hws hR.1 hM E0 ho, hw⟩
  exact ⟨t, o, stp _ r1, r2⟩
theorem go_callSW {index : Nat} {y : MethodName} {bytes : ByteArray} {maxL : Nat} {ret' : Option FieldType} {W : Nat} {argsL rest : List Value} {R' : Room} {m2 : List Addr} {P' : Option Value → Heap → List Addr → Prop} (hd : decode code pc = .ok (.invokestatic index, 3)) (hq : pc + 3 = q) (hw1 : w = true) (w1 : (Cond.methodLink own index y).before a0 Z = true) (w2 : (Cond.static y).before a0 Z = true) (w3 : (Cond.initialized y.cls).before a0 Z = true) (w4 : (Cond.code y bytes maxL ret').before a0 Z = true) (hy : y.cls ≠ "java/lang/invoke/MethodHandle" ∧ y.cls ≠ "java/lang/invoke/VarHandle") (hK : Con l true Z EL y bytes maxL ret' [] R' argsL.toArray h m2 P') (hm2 : ∀ x ∈ m2, x ∈ mine) (hst : st = argsL.reverse ++ rest) (hml : Ls.size = ml) (hlen : ∀ sig, parseMethodDescriptor y.desc = some sig → argsL.length = sig.parameters.length) (hW : (rest.map fun v => v.category).sum ≤ W) (hf : R'.frames + 1 ≤ R.frames) (hlo : W + (maxL + 11) + R'.locals ≤ R.locals) (hdc : kc + R'.cells ≤ R.cells) (hdn : kn + R'.slots ≤ R.slots)
    (k : ∀ v h' out, P' v h' out → h.size ≤ h'.size → Go l w Z EL own nm code ml ret R Q h' (out ++ mine) (kc + R'.cells) (kn + R'.slots) q Ls (v.toList ++ rest)) : Go l w Z EL own nm code ml ret R Q h mine kc kn pc Ls st := by
  subst hq hst hw1
  intro p e s m args below meth c T hC ⟨vm0, k0, locs, X, eT, hS, hk, hZ, hown, hR, N, E0, hM, hw⟩
  obtain ⟨a1, hEL⟩ := hC.2.2.2.2.2.2
  obtain ⟨v, vm1, ⟨T', L', k', n'⟩, -, X', hS', hgr, ⟨Lc, ⟨out, hQ, N1, M1, E1⟩, l1, y1, z1, hR'⟩, stp⟩ := callSS X hC.1 (y := y) hown (mvT hZ w1) (mvT hZ w2) (mvT hZ w3) (mvT hZ w4) hy (con_backS (s := s) hK hZ w4 w3 hf hlo hEL hR.1 (hM.sub hm2))  (g := mkF m pc Ls (argsL.reverse ++ rest)) rfl (by rw [hC.2.2.1]; exact hml)  (argsL := argsL) (rest := rest) hlen rfl (by show 2 * 0 + _ ≤ _; omega) (hb hC.2.1 hd) (fun _ _ => ⟨rfl, eT, hdc, hdn⟩)
  dsimp only [Pt.U, Pt.locs, Pt.cells, Pt.slots] at X' l1 y1 z1 stp hQ hS' hgr hR' M1 E1
  subst l1 y1 z1
  subst eT
  obtain ⟨t, o, r1, r2⟩ := k v T'.heap out hQ hgr p e s m args below meth c T' hC ⟨T'.vm, _, _, X', rfl, hS.trans hS' (Nat.le_trans hk hgr), Nat.le_refl _, State.Warmed39.trans (t := s.setVm vm0) hZ hS'.1, (hS'.1.alike.findClass _ _).trans hown, hR.trans hR', N.app N1, E1, M1.app (hM.later hR'), fun q => nomatch q⟩
  exact ⟨t, o, stp.trans r1, r2⟩
theorem go_callI {index : Nat} {y : MethodName} {bytes : ByteArray} {maxL : Nat} {W : Nat} {a : Addr} {argsL rest : List Value} {dc dn : Nat} {ws : List Addr} {P : Option Value → Heap → List Loc → Prop} (hd : decode code pc = .ok (.invokespecial index, 3)) (hq : pc + 3 = q) (hi : y.name = "<init>") (w1 : (Cond.methodLink own index y).before a0 Z = true) (w2 : (Cond.instanceMethod y).before a0 Z = true) (w4 : (Cond.code y bytes maxL none).before a0 Z = true) (hy : y.cls ≠ "java/lang/invoke/MethodHandle" ∧ y.cls ≠ "java/lang/invoke/VarHandle") (hK : Pay l R Z y 3 W (.ref a :: argsL).toArray h dc dn P) (hst : st = argsL.reverse ++ .ref a :: rest) (hml : Ls.size = ml) (hlen : ∀ sig, parseMethodDescriptor y.desc = some sig → argsL.length = sig.parameters.length) (hW : (rest.map fun v => v.category).sum ≤ W) (hdc : kc + dc ≤ R.cells) (hdn : kn + dn ≤ R.slots)
    (hP : ∀ v h' L, P v h' L → Fr Z.heap.size L ∧ Keep h h' ws) (hws : ∀ x ∈ ws, x ∈ mine)
    (k : ∀ v h' L, P v h' L → ∃ out, (∀ x ∈ out, h.size ≤ x ∧ x < h'.size) ∧ Go l w Z EL own nm code ml ret R Q h' (out ++ mine) (kc + dc) (kn + dn) q Ls (v.toList ++ rest)) : Go l w Z EL own nm code ml ret R Q h mine kc kn pc Ls st := by
  subst hq hst
  intro p e s m args below meth c T hC ⟨vm0, k0, locs, X, eT, hS, hk, hZ, hown, hR, N, E0, hM, hw⟩
  obtain ⟨v, vm1, ⟨T', L', k', n'⟩, -, X', ⟨Lc, hQ, l1, y1, z1⟩, stp⟩ := X.specialBack hC.1 (y := y) hi hown (mvT hZ w1) (mvT hZ w2) (mvT hZ w4) hy (hK p e below _ args hZ)  (g := mkF m pc Ls (argsL.reverse ++ .ref a :: rest)) rfl (by rw [hC.2.2.1]; exact hml) (Steps.refl _) (a := a) (argsL := argsL) (rest := rest) hlen rfl (by show 2 * 0 + _ ≤ _; omega) (hb hC.2.1 hd) (fun _ _ => ⟨rfl, eT, hdc, hdn⟩)
  dsimp only [Pt.U, Pt.locs, Pt.cells, Pt.slots] at X' l1 y1 z1 stp hQ
  subst l1 y1 z1
  obtain ⟨out, ho, g0⟩ := k v T'.heap Lc hQ
  obtain ⟨N1, K⟩ := hP v T'.heap Lc hQ
  obtain ⟨t, o, r1, r2⟩ := g0 p e s m args below meth c T' hC ⟨vm0, k0, _, X', rfl, hS, Nat.le_trans hk K.1, hZ, hown, hR.trans (CHr.keep K (fun x hx => (hM x (hws x hx)).2.2) hR.1), N.app N1, ext_keep E0 K (fun x hx => (hM x (hws x hx)).1), Mine.new K hws hR.1 hM E0 ho, hw⟩
  exact ⟨t, o, stp.trans r1, r2⟩
theorem go_callIW {index : Nat} {y : MethodName} {bytes : ByteArray} {maxL : Nat} {W : Nat} {a : Addr} {argsL rest : List Value} {R' : Room} {m2 : List Addr} {P' : Option Value → Heap → List Addr → Prop} (hd : decode code pc = .ok (.invokespecial index, 3)) (hq : pc + 3 = q) (hw1 : w = true) (hi : y.name = "<init>") (w1 : (Cond.methodLink own index y).before a0 Z = true) (w2 : (Cond.instanceMethod y).before a0 Z = true) (w4 : (Cond.code y bytes maxL none).before a0 Z = true) (w3 : (Cond.initialized y.cls).before a0 Z = true) (hy : y.cls ≠ "java/lang/invoke/MethodHandle" ∧ y.cls ≠ "java/lang/invoke/VarHandle") (hK : Con l true Z EL y bytes maxL none [] R' (.ref a :: argsL).toArray h m2 P') (hm2 : ∀ x ∈ m2, x ∈ mine) (hst : st = argsL.reverse ++ .ref a :: rest) (hml : Ls.size = ml) (hlen : ∀ sig, parseMethodDescriptor y.desc = some sig → argsL.length = sig.parameters.length) (hW : (rest.map fun v => v.category).sum ≤ W) (hf : R'.frames + 1 ≤ R.frames) (hlo : W + (maxL + 11) + R'.locals ≤ R.locals) (hdc : kc + R'.cells ≤ R.cells) (hdn : kn + R'.slots ≤ R.slots)
    (k : ∀ v h' out, P' v h' out → h.size ≤ h'.size → Go l w Z EL own nm code ml ret R Q h' (out ++ mine) (kc + R'.cells) (kn + R'.slots) q Ls (v.toList ++ rest)) : Go l w Z EL own nm code ml ret R Q h mine kc kn pc Ls st := by
  subst hq hst hw1
  intro p e s m args below meth c T hC ⟨vm0, k0, locs, X, eT, hS, hk, hZ, hown, hR, N, E0, hM, hw⟩
  obtain ⟨a1, hEL⟩ := hC.2.2.2.2.2.2
  obtain ⟨v, vm1, ⟨T', L', k', n'⟩, -, X', hS', hgr, ⟨Lc, ⟨out, hQ, N1, M1, E1⟩, l1, y1, z1, hR'⟩, stp⟩ := X.specialBackS hC.1 (y := y) hi hown (mvT hZ w1) (mvT hZ w2) (mvT hZ w4) hy (con_backS (s := s) hK hZ w4 w3 hf hlo hEL hR.1 (hM.sub hm2))  (g := mkF m pc Ls (argsL.reverse ++ .ref a :: rest)) rfl (by rw [hC.2.2.1]; exact hml) (Steps.refl _) (a := a) (argsL := argsL) (rest := rest) hlen rfl (by show 2 * 0 + _ ≤ _; omega) (hb hC.2.1 hd) (fun _ _ => ⟨rfl, eT, hdc, hdn⟩)
  dsimp only [Pt.U, Pt.locs, Pt.cells, Pt.slots] at X' l1 y1 z1 stp hQ hS' hgr hR' M1 E1
  subst l1 y1 z1
  subst eT
  obtain ⟨t, o, r1, r2⟩ := k v T'.heap out hQ hgr p e s m args below meth c T' hC ⟨T'.vm, _, _, X', rfl, hS.trans hS' (Nat.le_trans hk hgr), Nat.le_refl _, State.Warmed39.trans (t := s.setVm vm0) hZ hS'.1, (hS'.1.alike.findClass _ _).trans hown, hR.trans hR', N.app N1, E1, M1.app (hM.later hR'), fun q => nomatch q⟩
  exact ⟨t, o, stp.trans r1, r2⟩
theorem go_callV {index : Nat} {y z : MethodName} {C : String} {W : Nat} {a : Addr} {argsL rest : List Value} {dc dn : Nat} {ws : List Addr} {P : Option Value → Heap → List Loc → Prop} (hd : decode code pc = .ok (.invokevirtual index, 3)) (hq : pc + 3 = q) (w1 : (Cond.methodLink own index y).before a0 Z = true) (w2 : (Cond.declares y).before a0 Z = true) (hnf : ∀ s : State, Z.Warmed39 s.vm → NotFace s y) (w3 : (Cond.selects C y z).before a0 Z = true) (w4 : (Cond.instanceMethod z).before a0 Z = true) (A : Exa Z h a C) (hy : y.cls ≠ "java/lang/invoke/MethodHandle" ∧ y.cls ≠ "java/lang/invoke/VarHandle") (hK : Pay l R Z z 3 W (.ref a :: argsL).toArray h dc dn P) (hst : st = argsL.reverse ++ .ref a :: rest) (hml : Ls.size = ml) (hlen : ∀ sig, parseMethodDescriptor y.desc = some sig → argsL.length = sig.parameters.length) (hW : (rest.map fun v => v.category).sum ≤ W) (hdc : kc + dc ≤ R.cells) (hdn : kn + dn ≤ R.slots)
    (hP : ∀ v h' L, P v h' L → Fr Z.heap.size L ∧ Keep h h' ws) (hws : ∀ x ∈ ws, x ∈ mine)
    (k : ∀ v h' L, P v h' L → ∃ out, (∀ x ∈ out, h.size ≤ x ∧ x < h'.size) ∧ Go l w Z EL own nm code ml ret R Q h' (out ++ mine) (kc + dc) (kn + dn) q Ls (v.toList ++ rest)) : Go l w Z EL own nm code ml ret R Q h mine kc kn pc Ls st := by
  subst hq hst
  intro p e s m args below meth c T hC ⟨vm0, k0, locs, X, eT, hS, hk, hZ, hown, hR, N, E0, hM, hw⟩
  obtain ⟨cB, kB, qa, qb, qc⟩ := isOf (s := s.setVm vm0) hZ eT A
  obtain ⟨v, vm1, ⟨T', L', k', n'⟩, -, X', ⟨Lc, hQ, l1, y1, z1⟩, stp⟩ := X.virtualBack hC.1 (y := y) (z := z) hown (mvT hZ w1) (mvT hZ w2) (hnf _ hZ) (mvT hZ w3) (mvT hZ w4) hy (hK p e below _ args hZ) qa qc (g := mkF m pc Ls (argsL.reverse ++ .ref a :: rest)) rfl (by rw [hC.2.2.1]; exact hml) (Steps.refl _) (argsL := argsL) (rest := rest) hlen rfl (by show 2 * 0 + _ ≤ _; omega) (hb hC.2.1 hd) (fun _ _ => ⟨rfl, eT, hdc, hdn⟩)
  dsimp only [Pt.U, Pt.locs, Pt.cells, Pt.slots] at X' l1 y1 z1 stp hQ
  subst l1 y1 z1
  obtain ⟨out, ho, g0⟩ := k v T'.heap Lc hQ
  obtain ⟨N1, K⟩ := hP v T'.heap Lc hQ
  obtain ⟨t, o, r1, r2⟩ := g0 p e s m args below meth c T' hC ⟨vm0, k0, _, X', rfl, hS, Nat.le_trans hk K.1, hZ, hown, hR.trans (CHr.keep K (fun x hx => (hM x (hws x hx)).2.2) hR.1), N.app N1, ext_keep E0 K (fun x hx => (hM x (hws x hx)).1), Mine.new K hws hR.1 hM E0 ho, hw⟩
  exact ⟨t, o, stp.trans r1, r2⟩
theorem go_callVW {index : Nat} {y z : MethodName} {C : String} {W : Nat} {a : Addr} {argsL rest : List Value} {bytes : ByteArray} {maxL : Nat} {ret' : Option FieldType} {R' : Room} {m2 : List Addr} {P' : Option Value → Heap → List Addr → Prop} (hd : decode code pc = .ok (.invokevirtual index, 3)) (hq : pc + 3 = q) (hw1 : w = true) (w1 : (Cond.methodLink own index y).before a0 Z = true) (w2 : (Cond.declares y).before a0 Z = true) (hnf : ∀ s : State, Z.Warmed39 s.vm → NotFace s y) (w3 : (Cond.selects C y z).before a0 Z = true) (w4 : (Cond.instanceMethod z).before a0 Z = true) (w5 : (Cond.code z bytes maxL ret').before a0 Z = true) (w6 : (Cond.initialized z.cls).before a0 Z = true) (A : Exa Z h a C) (hy : y.cls ≠ "java/lang/invoke/MethodHandle" ∧ y.cls ≠ "java/lang/invoke/VarHandle") (hK : Con l true Z EL z bytes maxL ret' [] R' (.ref a :: argsL).toArray h m2 P') (hm2 : ∀ x ∈ m2, x ∈ mine) (hst : st = argsL.reverse ++ .ref a :: rest) (hml : Ls.size = ml) (hlen : ∀ sig, parseMethodDescriptor y.desc = some sig → argsL.length = sig.parameters.length) (hW : (rest.map fun v => v.category).sum ≤ W) (hf : R'.frames + 1 ≤ R.frames) (hlo : W + (maxL + 11) + R'.locals ≤ R.locals) (hdc : kc + R'.cells ≤ R.cells) (hdn : kn + R'.slots ≤ R.slots)
    (k : ∀ v h' out, P' v h' out → h.size ≤ h'.size → Go l w Z EL own nm code ml ret R Q h' (out ++ mine) (kc + R'.cells) (kn + R'.slots) q Ls (v.toList ++ rest)) : Go l w Z EL own nm code ml ret R Q h mine kc kn pc Ls st := by
  subst hq hst hw1
  intro p e s m args below meth c T hC ⟨vm0, k0, locs, X, eT, hS, hk, hZ, hown, hR, N, E0, hM, hw⟩
  obtain ⟨cB, kB, qa, qb, qc⟩ := isOf (s := s.setVm vm0) hZ eT A
  obtain ⟨a1, hEL⟩ := hC.2.2.2.2.2.2
  obtain ⟨v, vm1, ⟨T', L', k', n'⟩, -, X', hS', hgr, ⟨Lc, ⟨out, hQ, N1, M1, E1⟩, l1, y1, z1, hR'⟩, stp⟩ := X.virtualBackS hC.1 (y := y) (z := z) hown (mvT hZ w1) (mvT hZ w2) (hnf _ hZ) (mvT hZ w3) (mvT hZ w4) hy (con_backS (s := s) hK hZ w5 w6 hf hlo hEL hR.1 (hM.sub hm2)) qa qc (g := mkF m pc Ls (argsL.reverse ++ .ref a :: rest)) rfl (by rw [hC.2.2.1]; exact hml) (Steps.refl _) (argsL := argsL) (rest := rest) hlen rfl (by show 2 * 0 + _ ≤ _; omega) (hb hC.2.1 hd) (fun _ _ => ⟨rfl, eT, hdc, hdn⟩)
  dsimp only [Pt.U, Pt.locs, Pt.cells, Pt.slots] at X' l1 y1 z1 stp hQ hS' hgr hR' M1 E1
  subst l1 y1 z1
  subst eT
  obtain ⟨t, o, r1, r2⟩ := k v T'.heap out hQ hgr p e s m args below meth c T' hC ⟨T'.vm, _, _, X', rfl, hS.trans hS' (Nat.le_trans hk hgr), Nat.le_refl _, State.Warmed39.trans (t := s.setVm vm0) hZ hS'.1, (hS'.1.alike.findClass _ _).trans hown, hR.trans hR', N.app N1, E1, M1.app (hM.later hR'), fun q => nomatch q⟩
  exact ⟨t, o, stp.trans r1, r2⟩
theorem go_callF {index count : Nat} {y z : MethodName} {C : String} {W : Nat} {a : Addr} {argsL rest : List Value} {dc dn : Nat} {ws : List Addr} {P : Option Value → Heap → List Loc → Prop} (hd : decode code pc = .ok (.invokeinterface index count, 5)) (hq : pc + 5 = q) (w1 : (Cond.methodLink own index y).before a0 Z = true) (w2 : (Cond.declares y).before a0 Z = true) (wf : ∀ (s : State) (args : Array Value), Z.Warmed39 s.vm → (Cond.interfaceMethod y.cls y.cls y.name y.desc).before args s = true) (w3 : (Cond.selects C y z).before a0 Z = true) (w4 : (Cond.instanceMethod z).before a0 Z = true) (wp : (Cond.publicMethod z).before a0 Z = true) (wu : (Cond.unhidden C y.name y.desc).before a0 Z = true) (wk : (Cond.castable C y.cls).before a0 Z = true) (A : Exa Z h a C) (hy : y.cls ≠ "java/lang/invoke/MethodHandle" ∧ y.cls ≠ "java/lang/invoke/VarHandle") (hK : Pay l R Z z 5 W (.ref a :: argsL).toArray h dc dn P) (hst : st = argsL.reverse ++ .ref a :: rest) (hml : Ls.size = ml) (hlen : ∀ sig, parseMethodDescriptor y.desc = some sig → argsL.length = sig.parameters.length) (hW : (rest.map fun v => v.category).sum ≤ W) (hdc : kc + dc ≤ R.cells) (hdn : kn + dn ≤ R.slots)
    (hP : ∀ v h' L, P v h' L → Fr Z.heap.size L ∧ Keep h h' ws) (hws : ∀ x ∈ ws, x ∈ mine)
    (k : ∀ v h' L, P v h' L → ∃ out, (∀ x ∈ out, h.size ≤ x ∧ x < h'.size) ∧ Go l w Z EL own nm code ml ret R Q h' (out ++ mine) (kc + dc) (kn + dn) q Ls (v.toList ++ rest)) : Go l w Z EL own nm code ml ret R Q h mine kc kn pc Ls st := by
  subst hq hst
  intro p e s m args below meth c T hC ⟨vm0, k0, locs, X, eT, hS, hk, hZ, hown, hR, N, E0, hM, hw⟩
  obtain ⟨cB, kB, qa, qb, qc⟩ := isOf (s := s.setVm vm0) hZ eT A
  obtain ⟨v, vm1, ⟨T', L', k', n'⟩, -, X', ⟨Lc, hQ, l1, y1, z1⟩, stp⟩ := X.interfaceBack hC.1 (xi := y) (y := z) hown (mvT hZ w1) (mvT hZ w2) (wf _ _ hZ) (mvT hZ w3) (mvT hZ w4) (mvT hZ wp) (mvT hZ wu) (mvT hZ wk) hy (hK p e below _ args hZ) qa qb qc (g := mkF m pc Ls (argsL.reverse ++ .ref a :: rest)) rfl (by rw [hC.2.2.1]; exact hml) (Steps.refl _) (argsL := argsL) (rest := rest) hlen rfl (by show 2 * 0 + _ ≤ _; omega) (hb hC.2.1 hd) (fun _ _ => ⟨rfl, eT, hdc, hdn⟩)
  dsimp only [Pt.U, Pt.locs, Pt.cells, Pt.slots] at X' l1 y1 z1 stp hQ
  subst l1 y1 z1
  obtain ⟨out, ho, g0⟩ := k v T'.heap Lc hQ
  obtain ⟨N1, K⟩ := hP v T'.heap Lc hQ
  obtain ⟨t, o, r1, r2⟩ := g0 p e s m args below meth c T' hC ⟨vm0, k0, _, X', rfl, hS, Nat.le_trans hk K.1, hZ, hown, hR.trans (CHr.keep K (fun x hx => (hM x (hws x hx)).2.2) hR.1), N.app N1, ext_keep E0 K (fun x hx => (hM x (hws x hx)).1), Mine.new K hws hR.1 hM E0 ho, hw⟩
  exact ⟨t, o, stp.trans r1, r2⟩
theorem go_callFW {index count : Nat} {y z : MethodName} {C : String} {W : Nat} {a : Addr} {argsL rest : List Value} {bytes : ByteArray} {maxL : Nat} {ret' : Option FieldType} {R' : Room} {m2 : List Addr} {P' : Option Value → Heap → List Addr → Prop} (hd : decode code pc = .ok (.invokeinterface index count, 5)) (hq : pc + 5 = q) (hw1 : w = true) (w1 : (Cond.methodLink own index y).before a0 Z = true) (w2 : (Cond.declares y).before a0 Z = true) (wf : ∀ (s : State) (args : Array Value), Z.Warmed39 s.vm → (Cond.interfaceMethod y.cls y.cls y.name y.desc).before args s = true) (w3 : (Cond.selects C y z).before a0 Z = true) (w4 : (Cond.instanceMethod z).before a0 Z = true) (wp : (Cond.publicMethod z).before a0 Z = true) (wu : (Cond.unhidden C y.name y.desc).before a0 Z = true) (wk : (Cond.castable C y.cls).before a0 Z = true) (w5 : (Cond.code z bytes maxL ret').before a0 Z = true) (w6 : (Cond.initialized z.cls).before a0 Z = true) (A : Exa Z h a C) (hy : y.cls ≠ "java/lang/invoke/MethodHandle" ∧ y.cls ≠ "java/lang/invoke/VarHandle") (hK : Con l true Z EL z bytes maxL ret' [] R' (.ref a :: argsL).toArray h m2 P') (hm2 : ∀ x ∈ m2, x ∈ mine) (hst : st = argsL.reverse ++ .ref a :: rest) (hml : Ls.size = ml) (hlen : ∀ sig, parseMethodDescriptor y.desc = some sig → argsL.length = sig.parameters.length) (hW : (rest.map fun v => v.category).sum ≤ W) (hf : R'.frames + 1 ≤ R.frames) (hlo : W + (maxL + 11) + R'.locals ≤ R.locals) (hdc : kc + R'.cells ≤ R.cells) (hdn : kn + R'.slots ≤ R.slots)
    (k : ∀ v h' out, P' v h' out → h.size ≤ h'.size → Go l w Z EL own nm code ml ret R Q h' (out ++ mine) (kc + R'.cells) (kn + R'.slots) q Ls (v.toList ++ rest)) : Go l w Z EL own nm code ml ret R Q h mine kc kn pc Ls st := by
  subst hq hst hw1
  intro p e s m args below meth c T hC ⟨vm0, k0, locs, X, eT, hS, hk, hZ, hown, hR, N, E0, hM, hw⟩
  obtain ⟨cB, kB, qa, qb, qc⟩ := isOf (s := s.setVm vm0) hZ eT A
  obtain ⟨a1, hEL⟩ := hC.2.2.2.2.2.2
  obtain ⟨v, vm1, ⟨T', L', k', n'⟩, -, X', hS', hgr, ⟨Lc, ⟨out, hQ, N1, M1, E1⟩, l1, y1, z1, hR'⟩, stp⟩ := X.interfaceBackS hC.1 (xi := y) (y := z) hown (mvT hZ w1) (mvT hZ w2) (wf _ _ hZ) (mvT hZ w3) (mvT hZ w4) (mvT hZ wp) (mvT hZ wu) (mvT hZ wk) hy (con_backS (s := s) hK hZ w5 w6 hf hlo hEL hR.1 (hM.sub hm2)) qa qb qc (g := mkF m pc Ls (argsL.reverse ++ .ref a :: rest)) rfl (by rw [hC.2.2.1]; exact hml) (Steps.refl _) (argsL := argsL) (rest := rest) hlen rfl (by show 2 * 0 + _ ≤ _; omega) (hb hC.2.1 hd) (fun _ _ => ⟨rfl, eT, hdc, hdn⟩)
  dsimp only [Pt.U, Pt.locs, Pt.cells, Pt.slots] at X' l1 y1 z1 stp hQ hS' hgr hR' M1 E1
  subst l1 y1 z1
  subst eT
  obtain ⟨t, o, r1, r2⟩ := k v T'.heap out hQ hgr p e s m args below meth c T' hC ⟨T'.vm, _, _, X', rfl, hS.trans hS' (Nat.le_trans hk hgr), Nat.le_refl _, State.Warmed39.trans (t := s.setVm vm0) hZ hS'.1, (hS'.1.alike.findClass _ _).trans hown, hR.trans hR', N.app N1, E1, M1.app (hM.later hR'), fun q => nomatch q⟩
  exact ⟨t, o, stp.trans r1, r2⟩
theorem go_callP {index : Nat} {y : MethodName} {C : String} {bytes : ByteArray} {maxL : Nat} {ret' : Option FieldType} {W : Nat} {a : Addr} {argsL rest : List Value} {dc dn : Nat} {ws : List Addr} {P : Option Value → Heap → List Loc → Prop} (hd : decode code pc = .ok (.invokevirtual index, 3)) (hq : pc + 3 = q) (w1 : (Cond.methodLink own index y).before a0 Z = true) (w2 : (Cond.instanceMethod y).before a0 Z = true) (w3 : (Cond.selects y.cls y y).before a0 Z = true) (wp : (Cond.privateMethod y).before a0 Z = true) (w4 : (Cond.code y bytes maxL ret').before a0 Z = true) (A : Exa Z h a C) (hy : y.cls ≠ "java/lang/invoke/MethodHandle" ∧ y.cls ≠ "java/lang/invoke/VarHandle") (hK : Pay l R Z y 3 W (.ref a :: argsL).toArray h dc dn P) (hst : st = argsL.reverse ++ .ref a :: rest) (hml : Ls.size = ml) (hlen : ∀ sig, parseMethodDescriptor y.desc = some sig → argsL.length = sig.parameters.length) (hW : (rest.map fun v => v.category).sum ≤ W) (hdc : kc + dc ≤ R.cells) (hdn : kn + dn ≤ R.slots)
    (hP : ∀ v h' L, P v h' L → Fr Z.heap.size L ∧ Keep h h' ws) (hws : ∀ x ∈ ws, x ∈ mine)
    (k : ∀ v h' L, P v h' L → ∃ out, (∀ x ∈ out, h.size ≤ x ∧ x < h'.size) ∧ Go l w Z EL own nm code ml ret R Q h' (out ++ mine) (kc + dc) (kn + dn) q Ls (v.toList ++ rest)) : Go l w Z EL own nm code ml ret R Q h mine kc kn pc Ls st := by
  subst hq hst
  intro p e s m args below meth c T hC ⟨vm0, k0, locs, X, eT, hS, hk, hZ, hown, hR, N, E0, hM, hw⟩
  obtain ⟨cell, hcell, hobj⟩ := A.cell
  obtain ⟨v, vm1, ⟨T', L', k', n'⟩, -, X', ⟨Lc, hQ, l1, y1, z1⟩, stp⟩ := X.privateBack hC.1 (y := y) hown (mvT hZ w1) (mvT hZ w2) (mvT hZ w3) (Cond.privateMethod_at (args := args) (mvP (s := s.setVm vm0) hZ wp)) (mvT hZ w4) hy (hK p e below _ args hZ)  (g := mkF m pc Ls (argsL.reverse ++ .ref a :: rest)) rfl (by rw [hC.2.2.1]; exact hml) (Steps.refl _) (a := a) (cell := cell) (by rw [eT]; exact hcell) hobj (argsL := argsL) (rest := rest) hlen rfl (by show 2 * 0 + _ ≤ _; omega) (hb hC.2.1 hd) (fun _ _ => ⟨rfl, eT, hdc, hdn⟩)
  dsimp only [Pt.U, Pt.locs, Pt.cells, Pt.slots] at X' l1 y1 z1 stp hQ
  subst l1 y1 z1
  obtain ⟨out, ho, g0⟩ := k v T'.heap Lc hQ
  obtain ⟨N1, K⟩ := hP v T'.heap Lc hQ
  obtain ⟨t, o, r1, r2⟩ := g0 p e s m args below meth c T' hC ⟨vm0, k0, _, X', rfl, hS, Nat.le_trans hk K.1, hZ, hown, hR.trans (CHr.keep K (fun x hx => (hM x (hws x hx)).2.2) hR.1), N.app N1, ext_keep E0 K (fun x hx => (hM x (hws x hx)).1), Mine.new K hws hR.1 hM E0 ho, hw⟩
  exact ⟨t, o, stp.trans r1, r2⟩
theorem go_callU {index : Nat} {y : MethodName} {C : String} {bytes : ByteArray} {maxL : Nat} {ret' : Option FieldType} {W : Nat} {a : Addr} {argsL rest : List Value} {dc dn : Nat} {ws : List Addr} {P : Option Value → Heap → List Loc → Prop} (hd : decode code pc = .ok (.invokespecial index, 3)) (hq : pc + 3 = q) (w1 : (Cond.methodLink own index y).before a0 Z = true) (w2 : (Cond.sameMethod y.cls y.cls y.name y.desc).before a0 Z = true) (w3 : (Cond.instanceMethod y).before a0 Z = true) (ws4 : (Cond.superclass own y.cls).before a0 Z = true) (hnn : y.name ≠ "<init>") (w4 : (Cond.code y bytes maxL ret').before a0 Z = true) (A : Exa Z h a C) (hy : y.cls ≠ "java/lang/invoke/MethodHandle" ∧ y.cls ≠ "java/lang/invoke/VarHandle") (hK : Pay l R Z y 3 W (.ref a :: argsL).toArray h dc dn P) (hst : st = argsL.reverse ++ .ref a :: rest) (hml : Ls.size = ml) (hlen : ∀ sig, parseMethodDescriptor y.desc = some sig → argsL.length = sig.parameters.length) (hW : (rest.map fun v => v.category).sum ≤ W) (hdc : kc + dc ≤ R.cells) (hdn : kn + dn ≤ R.slots)
    (hP : ∀ v h' L, P v h' L → Fr Z.heap.size L ∧ Keep h h' ws) (hws : ∀ x ∈ ws, x ∈ mine)
    (k : ∀ v h' L, P v h' L → ∃ out, (∀ x ∈ out, h.size ≤ x ∧ x < h'.size) ∧ Go l w Z EL own nm code ml ret R Q h' (out ++ mine) (kc + dc) (kn + dn) q Ls (v.toList ++ rest)) : Go l w Z EL own nm code ml ret R Q h mine kc kn pc Ls st := by
  subst hq hst
  intro p e s m args below meth c T hC ⟨vm0, k0, locs, X, eT, hS, hk, hZ, hown, hR, N, E0, hM, hw⟩
  obtain ⟨v, vm1, ⟨T', L', k', n'⟩, -, X', ⟨Lc, hQ, l1, y1, z1⟩, stp⟩ := superBack X hC.1 hZ (y := y) hown w1 w2 w3 ws4 hnn (hK p e below _ args hZ) eT (Ins.self A) (g := mkF m pc Ls (argsL.reverse ++ .ref a :: rest)) rfl (by rw [hC.2.2.1]; exact hml) w4 (argsL := argsL) (rest := rest) hlen rfl (by show 2 * 0 + _ ≤ _; omega) (hb hC.2.1 hd) (fun _ _ => ⟨rfl, eT, hdc, hdn⟩)
  dsimp only [Pt.U, Pt.locs, Pt.cells, Pt.slots] at X' l1 y1 z1 stp hQ
  subst l1 y1 z1
  obtain ⟨out, ho, g0⟩ := k v T'.heap Lc hQ
  obtain ⟨N1, K⟩ := hP v T'.heap Lc hQ
  obtain ⟨t, o, r1, r2⟩ := g0 p e s m args below meth c T' hC ⟨vm0, k0, _, X', rfl, hS, Nat.le_trans hk K.1, hZ, hown, hR.trans (CHr.keep K (fun x hx => (hM x (hws x hx)).2.2) hR.1), N.app N1, ext_keep E0 K (fun x hx => (hM x (hws x hx)).1), Mine.new K hws hR.1 hM E0 ho, hw⟩
  exact ⟨t, o, stp.trans r1, r2⟩
/-- what a callee answers that moves nothing -/
abbrev PQ (v : Option Value) (h : Heap) : Option Value → Heap → List Addr → Prop := fun v' h' out => v' = v ∧ out = [] ∧ h' = h
theorem go_pS {index : Nat} {y : MethodName} {bytes : ByteArray} {maxL : Nat} {ret' : Option FieldType} {W : Nat} {argsL rest : List Value} {R' : Room} {v : Option Value} (hd : decode code pc = .ok (.invokestatic index, 3)) (hq : pc + 3 = q) (w1 : (Cond.methodLink own index y).before a0 Z = true) (w2 : (Cond.static y).before a0 Z = true) (w3 : (Cond.initialized y.cls).before a0 Z = true) (w4 : (Cond.code y bytes maxL ret').before a0 Z = true) (hy : y.cls ≠ "java/lang/invoke/MethodHandle" ∧ y.cls ≠ "java/lang/invoke/VarHandle") (hK : Con l false Z [] y bytes maxL ret' [] R' argsL.toArray h [] (PQ v h)) (hst : st = argsL.reverse ++ rest) (hml : Ls.size = ml) (hlen : ∀ sig, parseMethodDescriptor y.desc = some sig → argsL.length = sig.parameters.length) (hW : (rest.map fun v => v.category).sum ≤ W) (hf : R'.frames + 1 ≤ R.frames) (hlo : W + (maxL + 11) + R'.locals ≤ R.locals) (hc0 : R'.cells = 0) (hs0 : R'.slots = 0) (hkc : kc ≤ R.cells) (hkn : kn ≤ R.slots)
    (k : Go l w Z EL own nm code ml ret R Q h mine kc kn q Ls (v.toList ++ rest)) : Go l w Z EL own nm code ml ret R Q h mine kc kn pc Ls st := by
  refine go_callS (q := q) (W := W) (argsL := argsL) (rest := rest) (ws := []) hd hq w1 w2 w3 w4 hy (con_pay hK all0 w4 w3 hf hlo) hst hml hlen hW (by rw [hc0]; exact hkc) (by rw [hs0]; exact hkn) (fun v h' L hP => ?_) all0 (fun v h' L hP => ?_)
  · obtain ⟨out, ⟨-, -, e⟩, N, -⟩ := hP; rw [e]; exact ⟨N, Keep.refl _ _⟩
  · obtain ⟨out, ⟨e1, -, e⟩, -⟩ := hP; rw [e, e1, hc0, hs0]; exact ⟨[], all0, k⟩
theorem go_pV {index : Nat} {y : MethodName} {bytes : ByteArray} {maxL : Nat} {ret' : Option FieldType} {W : Nat} {argsL rest : List Value} {R' : Room} {v : Option Value} {z : MethodName} {C : String} {a : Addr} (hd : decode code pc = .ok (.invokevirtual index, 3)) (hq : pc + 3 = q) (w1 : (Cond.methodLink own index y).before a0 Z = true) (w2 : (Cond.declares y).before a0 Z = true) (hnf : ∀ s : State, Z.Warmed39 s.vm → NotFace s y) (w3 : (Cond.selects C y z).before a0 Z = true) (w4 : (Cond.instanceMethod z).before a0 Z = true) (A : Exa Z h a C) (w5 : (Cond.code z bytes maxL ret').before a0 Z = true) (w6 : (Cond.initialized z.cls).before a0 Z = true) (hy : y.cls ≠ "java/lang/invoke/MethodHandle" ∧ y.cls ≠ "java/lang/invoke/VarHandle") (hK : Con l false Z [] z bytes maxL ret' [] R' (.ref a :: argsL).toArray h [] (PQ v h)) (hst : st = argsL.reverse ++ .ref a :: rest) (hml : Ls.size = ml) (hlen : ∀ sig, parseMethodDescriptor y.desc = some sig → argsL.length = sig.parameters.length) (hW : (rest.map fun v => v.category).sum ≤ W) (hf : R'.frames + 1 ≤ R.frames) (hlo : W + (maxL + 11) + R'.locals ≤ R.locals) (hc0 : R'.cells = 0) (hs0 : R'.slots = 0) (hkc : kc ≤ R.cells) (hkn : kn ≤ R.slots)
    (k : Go l w Z EL own nm code ml ret R Q h mine kc kn q Ls (v.toList ++ rest)) : Go l w Z EL own nm code ml ret R Q h mine kc kn pc Ls st := by
  refine go_callV (q := q) (W := W) (argsL := argsL) (rest := rest) (ws := []) hd hq w1 w2 hnf w3 w4 A hy (con_pay hK all0 w5 w6 hf hlo) hst hml hlen hW (by rw [hc0]; exact hkc) (by rw [hs0]; exact hkn) (fun v h' L hP => ?_) all0 (fun v h' L hP => ?_)
  · obtain ⟨out, ⟨-, -, e⟩, N, -⟩ := hP; rw [e]; exact ⟨N, Keep.refl _ _⟩
  · obtain ⟨out, ⟨e1, -, e⟩, -⟩ := hP; rw [e, e1, hc0, hs0]; exact ⟨[], all0, k⟩
theorem go_pU {index : Nat} {y : MethodName} {bytes : ByteArray} {maxL : Nat} {ret' : Option FieldType} {W : Nat} {argsL rest : List Value} {R' : Room} {v : Option Value} {C : String} {a : Addr} (hd : decode code pc = .ok (.invokespecial index, 3)) (hq : pc + 3 = q) (w1 : (Cond.methodLink own index y).before a0 Z = true) (w2 : (Cond.sameMethod y.cls y.cls y.name y.desc).before a0 Z = true) (w3 : (Cond.instanceMethod y).before a0 Z = true) (ws4 : (Cond.superclass own y.cls).before a0 Z = true) (hnn : y.name ≠ "<init>") (w4 : (Cond.code y bytes maxL ret').before a0 Z = true) (A : Exa Z h a C) (w6 : (Cond.initialized y.cls).before a0 Z = true) (hy : y.cls ≠ "java/lang/invoke/MethodHandle" ∧ y.cls ≠ "java/lang/invoke/VarHandle") (hK : Con l false Z [] y bytes maxL ret' [] R' (.ref a :: argsL).toArray h [] (PQ v h)) (hst : st = argsL.reverse ++ .ref a :: rest) (hml : Ls.size = ml) (hlen : ∀ sig, parseMethodDescriptor y.desc = some sig → argsL.length = sig.parameters.length) (hW : (rest.map fun v => v.category).sum ≤ W) (hf : R'.frames + 1 ≤ R.frames) (hlo : W + (maxL + 11) + R'.locals ≤ R.locals) (hc0 : R'.cells = 0) (hs0 : R'.slots = 0) (hkc : kc ≤ R.cells) (hkn : kn ≤ R.slots)
    (k : Go l w Z EL own nm code ml ret R Q h mine kc kn q Ls (v.toList ++ rest)) : Go l w Z EL own nm code ml ret R Q h mine kc kn pc Ls st := by
  refine go_callU (q := q) (W := W) (argsL := argsL) (rest := rest) (ws := []) hd hq w1 w2 w3 ws4 hnn w4 A hy (con_pay hK all0 w4 w6 hf hlo) hst hml hlen hW (by rw [hc0]; exact hkc) (by rw [hs0]; exact hkn) (fun v h' L hP => ?_) all0 (fun v h' L hP => ?_)
  · obtain ⟨out, ⟨-, -, e⟩, N, -⟩ := hP; rw [e]; exact ⟨N, Keep.refl _ _⟩
  · obtain ⟨out, ⟨e1, -, e⟩, -⟩ := hP; rw [e, e1, hc0, hs0]; exact ⟨[], all0, k⟩
theorem go_pP {index : Nat} {y : MethodName} {bytes : ByteArray} {maxL : Nat} {ret' : Option FieldType} {W : Nat} {argsL rest : List Value} {R' : Room} {v : Option Value} {C : String} {a : Addr} (hd : decode code pc = .ok (.invokevirtual index, 3)) (hq : pc + 3 = q) (w1 : (Cond.methodLink own index y).before a0 Z = true) (w2 : (Cond.instanceMethod y).before a0 Z = true) (w3 : (Cond.selects y.cls y y).before a0 Z = true) (wp : (Cond.privateMethod y).before a0 Z = true) (w4 : (Cond.code y bytes maxL ret').before a0 Z = true) (A : Exa Z h a C) (w6 : (Cond.initialized y.cls).before a0 Z = true) (hy : y.cls ≠ "java/lang/invoke/MethodHandle" ∧ y.cls ≠ "java/lang/invoke/VarHandle") (hK : Con l false Z [] y bytes maxL ret' [] R' (.ref a :: argsL).toArray h [] (PQ v h)) (hst : st = argsL.reverse ++ .ref a :: rest) (hml : Ls.size = ml) (hlen : ∀ sig, parseMethodDescriptor y.desc = some sig → argsL.length = sig.parameters.length) (hW : (rest.map fun v => v.category).sum ≤ W) (hf : R'.frames + 1 ≤ R.frames) (hlo : W + (maxL + 11) + R'.locals ≤ R.locals) (hc0 : R'.cells = 0) (hs0 : R'.slots = 0) (hkc : kc ≤ R.cells) (hkn : kn ≤ R.slots)
    (k : Go l w Z EL own nm code ml ret R Q h mine kc kn q Ls (v.toList ++ rest)) : Go l w Z EL own nm code ml ret R Q h mine kc kn pc Ls st := by
  refine go_callP (q := q) (W := W) (argsL := argsL) (rest := rest) (ws := []) hd hq w1 w2 w3 wp w4 A hy (con_pay hK all0 w4 w6 hf hlo) hst hml hlen hW (by rw [hc0]; exact hkc) (by rw [hs0]; exact hkn) (fun v h' L hP => ?_) all0 (fun v h' L hP => ?_)
  · obtain ⟨out, ⟨-, -, e⟩, N, -⟩ := hP; rw [e]; exact ⟨N, Keep.refl _ _⟩
  · obtain ⟨out, ⟨e1, -, e⟩, -⟩ := hP; rw [e, e1, hc0, hs0]; exact ⟨[], all0, k⟩
/-- a method that its class itself declares, under its two names -/
theorem same_of {Z : State} {a0 : Array Value} {y y2 : MethodName} {C : String} (w : (Cond.instanceMethod y).before a0 Z = true) (hs : (Cond.selects C y2 y2).before a0 Z = true) (e : y2.cls = y.cls) (hy : y.cls ≠ "java/lang/invoke/MethodHandle" ∧ y.cls ≠ "java/lang/invoke/VarHandle") : (Cond.sameMethod y.cls y.cls y.name y.desc).before a0 Z = true := by
  obtain ⟨mk, methM, hnamed, -, -, -⟩ := Cond.instanceMethod_spec w
  have hfound : Z.methodFound? y.cls y.name y.desc = some mk := State.methodFound?_of_named hnamed hy
  obtain ⟨c2, r2, m2, -, -, q3, -, kP, hkP, hkPi⟩ := Cond.selects_spec hs
  have hc := findClass_of_methodNamed hnamed
  have hc2 := findClass_of_methodNamed q3
  rw [e] at hc2
  have ec : mk.cls = m2.cls := Option.some.inj (hc.symm.trans hc2)
  simp only [Cond.before, Cond.holds, Cond.value, hfound, hnamed, hc, ec, hkP]
  simp [hkPi]
theorem nf_of {s : State} {args : Array Value} {C : String} {y y2 : MethodName} (hs : (Cond.selects C y2 y2).before args s = true) (e : y2.cls = y.cls) : NotFace s y := fun r0 h0 => by
  obtain ⟨c2, r2, m2, -, -, q3, -, kP, hkP, hkPi⟩ := Cond.selects_spec hs
  have h1 := findClass_of_methodNamed h0
  have h2 := findClass_of_methodNamed q3
  rw [e] at h2
  have ec : r0.cls = m2.cls := Option.some.inj (h1.symm.trans h2)
  exact ⟨kP, by rw [ec]; exact hkP, hkPi⟩
theorem self_of {Z : State} {a0 : Array Value} {y : MethodName} {C : String} (w : (Cond.instanceMethod y).before a0 Z = true) (hs : (Cond.selects C y y).before a0 Z = true) (wp : (Cond.privateMethod y).before a0 Z = true) (hy : y.cls ≠ "java/lang/invoke/MethodHandle" ∧ y.cls ≠ "java/lang/invoke/VarHandle") : (Cond.selects y.cls y y).before a0 Z = true := by
  obtain ⟨c2, r2, m2, -, -, q3, -, kP, hkP, hkPi⟩ := Cond.selects_spec hs
  exact Jvm.Stand.selects_self_of_private (findClass_of_methodNamed q3) hkP hkPi (Cond.privateMethod_at wp) w hy
end Calls
end Jvm.OwnKit
namespace Jvm.Pilot.@@N@@
open Jvm Jvm.ClassFile Sem Op Lib Jvm.Free Jvm.Stand Jvm.LawKit Jvm.RoadKit Bundle Jvm.Pilot.@@N@@.Jvm.D Jvm.OwnKit
theorem and_small (x : Int32) (M : Nat) (hM : M < 2147483648) : ∃ k : Nat, k ≤ M ∧ x &&& Int32.ofNat M = Int32.ofNat k := by
  refine ⟨(x &&& Int32.ofNat M).toBitVec.toNat, ?_, ?_⟩
  · have : (Int32.ofNat M).toBitVec.toNat = M := by show (BitVec.ofNat 32 M).toNat = M; rw [BitVec.toNat_ofNat]; omega
    simp only [Int32.toBitVec_and, BitVec.toNat_and, this]
    exact Nat.and_le_right
  · apply Int32.toBitVec_inj.mp
    show _ = BitVec.ofNat 32 _
    rw [BitVec.ofNat_toNat]; simp
/-- (x & 0x7fffffff) % M as a small number -/
theorem mod_small (x : Int32) (M : Nat) (h0 : 0 < M) (hM : M < 2147483648) : ∃ k : Nat, k < M ∧ (x &&& (2147483647 : Int32)) % Int32.ofNat M = Int32.ofNat k := by
  obtain ⟨j, hj, ej⟩ := and_small x 2147483647 (by decide)
  refine ⟨j % M, Nat.mod_lt _ h0, ?_⟩
  rw [show (2147483647 : Int32) = Int32.ofNat 2147483647 from rfl, ej]
  apply Int32.toInt_inj.mp
  have e1 : (Int32.ofNat j).toInt = j := Int32.toInt_ofNat_small (by omega)
  have e2 : (Int32.ofNat M).toInt = M := Int32.toInt_ofNat_small (by omega)
  have e3 : (Int32.ofNat (j % M)).toInt = (j % M : Nat) := Int32.toInt_ofNat_small (Nat.lt_of_lt_of_le (Nat.mod_lt _ h0) (by omega))
  rw [Int32.toInt_mod, e1, e2, e3]
  exact (Int.ofNat_tmod j M).symm
theorem b255 (i : Nat) (h : i < 32) : (255#32).getLsbD i = decide (i < 8) := by
  have t : ∀ i : Fin 32, (255#32).getLsbD i.val = decide (i.val < 8) := by decide
  exact t ⟨i, h⟩
theorem lowB (x : Int32) : x.toInt8.toInt32 &&& 255 = x &&& 255 := by
  apply Int32.toBitVec_inj.mp
  apply BitVec.eq_of_getLsbD_eq
  intro i hi
  show ((((x.toBitVec.signExtend 8).signExtend 32) &&& 255#32).getLsbD i) = ((x.toBitVec &&& 255#32).getLsbD i)
  rw [BitVec.getLsbD_and, BitVec.getLsbD_and, b255 i hi]
  by_cases q : i < 8
  · rw [BitVec.getLsbD_signExtend, BitVec.getLsbD_signExtend]
    have q2 : i < 32 := hi
    simp only [hi, q, q2, decide_true, Bool.true_and, if_true]
  · simp [q]
theorem ofN (n : Nat) (h : n < 65536) : (Int32.ofNat n).toBitVec.toNat = n := by
  show (BitVec.ofNat 32 n).toNat = n
  rw [BitVec.toNat_ofNat]; omega
theorem and255n (n : Nat) (h : n < 65536) : Int32.ofNat n &&& 255 = Int32.ofNat (n % 256) := by
  apply Int32.toBitVec_inj.mp
  apply BitVec.eq_of_toNat_eq
  rw [ofN _ (by omega), Int32.toBitVec_and, BitVec.toNat_and, ofN n h]
  exact Nat.and_two_pow_sub_one_eq_mod n 8
theorem shr0 (x : Int32) : x >>> ((0 : Int32) &&& 31) = x := by
  apply Int32.toBitVec_inj.mp
  show x.toBitVec.sshiftRight' _ = _
  simp [BitVec.sshiftRight']
  try rfl
theorem shr8 (n : Nat) (h : n < 65536) : Int32.ofNat n >>> ((8 : Int32) &&& 31) = Int32.ofNat (n / 256) := by
  apply Int32.toBitVec_inj.mp
  apply BitVec.eq_of_toNat_eq
  rw [ofN (n / 256) (by omega)]
  show ((Int32.ofNat n).toBitVec.sshiftRight 8).toNat = _
  rw [BitVec.sshiftRight_eq_of_msb_false]
  · rw [BitVec.toNat_ushiftRight, ofN n h, Nat.shiftRight_eq_div_pow]
  · rw [BitVec.msb_eq_decide]; simp [ofN n h]; omega
theorem shl0 (x : Int32) : x <<< ((0 : Int32) &&& 31) = x := by
  apply Int32.toBitVec_inj.mp
  show x.toBitVec <<< _ = _
  exact BitVec.shiftLeft_zero _
theorem shl8 (n : Nat) (h : n < 256) : Int32.ofNat n <<< ((8 : Int32) &&& 31) = Int32.ofNat (n * 256) := by
  apply Int32.toBitVec_inj.mp
  apply BitVec.eq_of_toNat_eq
  rw [ofN (n * 256) (by omega)]
  show ((Int32.ofNat n).toBitVec <<< 8).toNat = _
  rw [BitVec.toNat_shiftLeft, ofN n (by omega), Nat.shiftLeft_eq]; omega
theorem orN (a b : Nat) (ha : a < 256) (hb : b < 256) : Int32.ofNat b ||| Int32.ofNat (a * 256) = Int32.ofNat (a * 256 + b) := by
  apply Int32.toBitVec_inj.mp
  apply BitVec.eq_of_toNat_eq
  rw [ofN (a * 256 + b) (by omega), Int32.toBitVec_or, BitVec.toNat_or, ofN b (by omega), ofN (a * 256) (by omega)]
  have := Nat.shiftLeft_add_eq_or_of_lt (b := b) (i := 8) (by omega) a
  rw [Nat.shiftLeft_eq] at this
  rw [Nat.or_comm]; exact this.symm
theorem narN (n : Nat) (h : n < 65536) : (Int32.ofNat n).toUInt32.toUInt16.toUInt32.toInt32 = Int32.ofNat n := by
  apply Int32.toBitVec_inj.mp
  apply BitVec.eq_of_toNat_eq
  rw [ofN n h]
  show (((Int32.ofNat n).toBitVec.setWidth 16).setWidth 32).toNat = n
  rw [BitVec.toNat_setWidth, BitVec.toNat_setWidth, ofN n h]; omega
theorem pairN (n : Nat) (h : n < 65536) : ((((Int32.ofNat n >>> ((0 : Int32) &&& 31)).toInt8.toInt32 &&& 255) <<< ((0 : Int32) &&& 31)) ||| ((((Int32.ofNat n >>> ((8 : Int32) &&& 31)).toInt8.toInt32 &&& 255) <<< ((8 : Int32) &&& 31)))).toUInt32.toUInt16.toUInt32.toInt32 = Int32.ofNat n := by
  rw [shr0, shr8 n h, lowB, lowB, and255n n h, and255n _ (by omega), shl0, Nat.mod_eq_of_lt (by omega : n / 256 < 256), shl8 _ (by omega), orN _ _ (by omega) (by omega)]
  rw [show n / 256 * 256 + n % 256 = n by omega]
  exact narN n h
abbrev iv (n : Nat) : Value := .int (Int32.ofNat n)
abbrev lb (n : Nat) : Value := .int (Int32.ofNat n).toInt8.toInt32
abbrev u0 (x : Int32) : Value := .int (x >>> ((0 : Int32) &&& 31)).toInt8.toInt32
abbrev u1 (x : Int32) : Value := .int (x >>> ((8 : Int32) &&& 31)).toInt8.toInt32
def ub : List Nat → List Value
  | [] => []
  | n :: r => u0 (Int32.ofNat n) :: u1 (Int32.ofNat n) :: ub r
theorem ub_len : ∀ cs : List Nat, (ub cs).length = 2 * cs.length
  | [] => rfl
  | n :: r => by simp [ub, ub_len r]; omega
theorem ub_app : ∀ xs ys : List Nat, ub (xs ++ ys) = ub xs ++ ub ys
  | [], _ => rfl
  | n :: r, ys => by simp [ub, ub_app r ys]
theorem ic_lt (a b : Nat) (ha : a < 2147483648) (hb : b < 2147483648) : if_icmp.holds .lt (Int32.ofNat a) (Int32.ofNat b) = decide (a < b) := by
  simp only [if_icmp.holds, Int32.lt_iff_toInt_lt, Int32.toInt_ofNat_small (show a < 2 ^ 31 from ha), Int32.toInt_ofNat_small (show b < 2 ^ 31 from hb)]; simp
theorem ic_ge (a b : Nat) (ha : a < 2147483648) (hb : b < 2147483648) : if_icmp.holds .ge (Int32.ofNat a) (Int32.ofNat b) = decide (b ≤ a) := by
  simp only [if_icmp.holds, ge_iff_le, Int32.le_iff_toInt_le, Int32.toInt_ofNat_small (show a < 2 ^ 31 from ha), Int32.toInt_ofNat_small (show b < 2 ^ 31 from hb)]; simp
theorem ic_gt (a b : Nat) (ha : a < 2147483648) (hb : b < 2147483648) : if_icmp.holds .gt (Int32.ofNat a) (Int32.ofNat b) = decide (b < a) := by
  simp only [if_icmp.holds, gt_iff_lt, Int32.lt_iff_toInt_lt, Int32.toInt_ofNat_small (show a < 2 ^ 31 from ha), Int32.toInt_ofNat_small (show b < 2 ^ 31 from hb)]; simp
theorem ic_le (a b : Nat) (ha : a < 2147483648) (hb : b < 2147483648) : if_icmp.holds .le (Int32.ofNat a) (Int32.ofNat b) = decide (a ≤ b) := by
  simp only [if_icmp.holds, Int32.le_iff_toInt_le, Int32.toInt_ofNat_small (show a < 2 ^ 31 from ha), Int32.toInt_ofNat_small (show b < 2 ^ 31 from hb)]; simp
theorem of_inj {a b : Nat} (ha : a < 2147483648) (hb : b < 2147483648) : Int32.ofNat a = Int32.ofNat b ↔ a = b := ⟨fun e => by
  have := congrArg Int32.toInt e
  rw [Int32.toInt_ofNat_small (show a < 2 ^ 31 from ha), Int32.toInt_ofNat_small (show b < 2 ^ 31 from hb)] at this; omega, fun e => by rw [e]⟩
theorem ic_eq (a b : Nat) (ha : a < 2147483648) (hb : b < 2147483648) : if_icmp.holds .eq (Int32.ofNat a) (Int32.ofNat b) = decide (a = b) := by
  simp only [if_icmp.holds]; rw [Bool.eq_iff_iff]; simp [of_inj ha hb]
theorem ic_ne (a b : Nat) (ha : a < 2147483648) (hb : b < 2147483648) : if_icmp.holds .ne (Int32.ofNat a) (Int32.ofNat b) = decide (¬ a = b) := by
  simp only [if_icmp.holds]; rw [Bool.eq_iff_iff]; simp [of_inj ha hb]
theorem if_ge (a : Nat) (ha : a < 2147483648) : ifCond.holds .ge (Int32.ofNat a) = true := by
  simp [ifCond.holds, Int32.le_iff_toInt_le, Int32.toInt_ofNat_small (show a < 2 ^ 31 from ha)]
theorem if_lt (a : Nat) (ha : a < 2147483648) : ifCond.holds .lt (Int32.ofNat a) = false := by
  simp [ifCond.holds, Int32.lt_iff_toInt_lt, Int32.toInt_ofNat_small (show a < 2 ^ 31 from ha)]
theorem if_ne (a : Nat) (ha : a < 2147483648) : ifCond.holds .ne (Int32.ofNat a) = decide (¬ a = 0) := by
  have := ic_ne a 0 ha (by decide)
  rw [← this]; rfl
theorem nneg (a : Nat) (ha : a < 2147483648) : ¬ Int32.ofNat a < 0 := Int32.ofNat_not_neg ha
theorem ltI {a b : Nat} (hb : b < 2147483648) (h : a < b) : Int32.ofNat a < Int32.ofNat b := Jvm.Free.XT.lt32 hb h
theorem inb {a b : Nat} (hb : b < 2147483648) (h : a < b) : ¬ Int32.ofNat a < 0 ∧ Int32.ofNat a < Int32.ofNat b := ⟨nneg a (by omega), ltI hb h⟩
theorem clampN {a : Nat} (h : a < 2147483648) : (Int32.ofNat a).toNatClampNeg = a := Jvm.Free.XT.n32 h
theorem shl1 (n : Nat) (h : n < 1073741824) : Int32.ofNat n <<< (Int32.ofNat 1 &&& 31) = Int32.ofNat (2 * n) := by
  apply Int32.toBitVec_inj.mp
  apply BitVec.eq_of_toNat_eq
  show ((BitVec.ofNat 32 n) <<< 1).toNat = (BitVec.ofNat 32 (2 * n)).toNat
  rw [BitVec.toNat_shiftLeft, BitVec.toNat_ofNat, BitVec.toNat_ofNat, Nat.shiftLeft_eq]; omega
theorem shr1 (n : Nat) (h : n < 1073741824) : Int32.ofNat (2 * n) >>> (Int32.ofNat 1 &&& 31) = Int32.ofNat n := by
  apply Int32.toBitVec_inj.mp
  apply BitVec.eq_of_toNat_eq
  show ((BitVec.ofNat 32 (2 * n)).sshiftRight 1).toNat = (BitVec.ofNat 32 n).toNat
  rw [BitVec.sshiftRight_eq_of_msb_false]
  · rw [BitVec.toNat_ushiftRight, BitVec.toNat_ofNat, BitVec.toNat_ofNat, Nat.shiftRight_eq_div_pow]; omega
  · rw [BitVec.msb_eq_decide]; simp; omega
theorem bb (x : Int32) : x.toInt8.toInt32.toInt8.toInt32 = x.toInt8.toInt32 := by
  rw [Int8.toInt8_toInt32]
theorem set_mid {xs ys : List Value} {y v : Value} {i : Nat} (h : i = xs.length) : (xs ++ y :: ys).set i v = xs ++ v :: ys := by
  subst h; rw [List.set_append_right _ _ (Nat.le_refl _)]; simp
theorem get_mid {xs ys : List Value} {y d : Value} {i : Nat} (h : i = xs.length) : (xs ++ y :: ys).getD i d = y := by
  subst h; rw [List.getD_eq_getElem?_getD, List.getElem?_append_right (Nat.le_refl _)]; simp
theorem get_mid1 {xs ys : List Value} {y z d : Value} {i : Nat} (h : i = xs.length + 1) : (xs ++ y :: z :: ys).getD i d = z := by
  subst h; rw [List.getD_eq_getElem?_getD, List.getElem?_append_right (by omega)]; simp
/-- what the tables and the statics say -/
def Base (Z : State) (a0 : Array Value) (G1 : Int32) (G3 : Value) : Prop := (∀ d ∈ tables_1, d.before a0 Z = true) ∧ Sta Z Z.heap "java/lang/String" "COMPACT_STRINGS" "Z" (.int G1) ∧ (¬ G1 = (0 : Int32)) ∧ Sta Z Z.heap "jdk/internal/util/Preconditions" "SIOOBE_FORMATTER" "Ljava/util/function/BiFunction;" G3 ∧ G3.isRef = true ∧ Sta Z Z.heap "java/lang/StringUTF16" "$assertionsDisabled" "Z" (.int 1) ∧ Sta Z Z.heap "java/lang/StringUTF16" "HI_BYTE_SHIFT" "I" (.int 0) ∧ Sta Z Z.heap "java/lang/StringUTF16" "LO_BYTE_SHIFT" "I" (.int 8)
section BaseFacts
variable {Z : State} {a0 : Array Value} {G1 : Int32} {G3 : Value}
theorem Base.hw (B : Base Z a0 G1 G3) : ∀ d ∈ tables_1, d.before a0 Z = true := B.1
theorem Base.O2 (B : Base Z a0 G1 G3) : Sta Z Z.heap "java/lang/String" "COMPACT_STRINGS" "Z" (.int G1) := B.2.1
theorem Base.P5 (B : Base Z a0 G1 G3) : ¬ G1 = (0 : Int32) := B.2.2.1
theorem Base.O4 (B : Base Z a0 G1 G3) : Sta Z Z.heap "jdk/internal/util/Preconditions" "SIOOBE_FORMATTER" "Ljava/util/function/BiFunction;" G3 := B.2.2.2.1
theorem Base.rG3 (B : Base Z a0 G1 G3) : G3.isRef = true := B.2.2.2.2.1
theorem Base.OA (B : Base Z a0 G1 G3) : Sta Z Z.heap "java/lang/StringUTF16" "$assertionsDisabled" "Z" (.int 1) := B.2.2.2.2.2.1
theorem Base.OH (B : Base Z a0 G1 G3) : Sta Z Z.heap "java/lang/StringUTF16" "HI_BYTE_SHIFT" "I" (.int 0) := B.2.2.2.2.2.2.1
theorem Base.OL (B : Base Z a0 G1 G3) : Sta Z Z.heap "java/lang/StringUTF16" "LO_BYTE_SHIFT" "I" (.int 8) := B.2.2.2.2.2.2.2
end BaseFacts
/-- a byte array of this length -/
def Byt (Z : State) (h : Heap) (a : Addr) (k : ClassId) (N : Nat) : Prop := ∃ vs : List Value, vs.length = N ∧ Arv Z h a k .byte (Int32.ofNat N) vs (.int 0)
theorem Byt.ext {Z : State} {h h' : Heap} {a : Addr} {k : ClassId} {N : Nat} (F : Byt Z h a k N) (E : Ext h h') : Byt Z h' a k N := by obtain ⟨vs, e, F⟩ := F; exact ⟨vs, e, F.ext E⟩
theorem Byt.keep {Z : State} {h h' : Heap} {a : Addr} {k : ClassId} {N : Nat} {ws : List Addr} (F : Byt Z h a k N) (K : Keep h h' ws) (q : a ∉ ws) : Byt Z h' a k N := by obtain ⟨vs, e, F⟩ := F; exact ⟨vs, e, F.keep K q⟩
theorem Byt.lt {Z : State} {h : Heap} {a : Addr} {k : ClassId} {N : Nat} (F : Byt Z h a k N) : a < h.size := by obtain ⟨vs, e, F⟩ := F; exact F.lt
theorem Byt.new {Z : State} {h : Heap} {a : Addr} {k : ClassId} {N : Nat} (F : Arv Z h a k .byte (Int32.ofNat N) [] (.int 0)) : Byt Z h a k N := ⟨List.replicate N (.int 0), by simp, F.pad (pad_rep [] (.int 0) N)⟩
theorem d1_0 : decode method_2_code 0 = .ok (.iload_n 0, 1) := by decide +kernel
theorem d1_1 : decode method_2_code 1 = .ok (.ldc 7, 2) := by decide +kernel
theorem d1_3 : decode method_2_code 3 = .ok (.iand, 1) := by decide +kernel
theorem d1_4 : decode method_2_code 4 = .ok (.ldc 8, 2) := by decide +kernel
theorem d1_6 : decode method_2_code 6 = .ok (.irem, 1) := by decide +kernel
theorem d1_7 : decode method_2_code 7 = .ok (.iconst 1, 1) := by decide +kernel
theorem d1_8 : decode method_2_code 8 = .ok (.iadd, 1) := by decide +kernel
theorem d1_9 : decode method_2_code 9 = .ok (.i2c, 1) := by decide +kernel
theorem d1_10 : decode method_2_code 10 = .ok (.ireturn, 1) := by decide +kernel
theorem pn0_NamesRequirePinLaw : plainName "com/example/steady_step/steadystep/machine/NamesRequirePinLaw" = true := by first | (simp [plainName, overriddenIn]; done) | decide +kernel
theorem pd0 : parseMethodDescriptor "(I)C" = some ⟨[.int], some .char⟩ := by decide +kernel
theorem ef0 (m : MethodId) (i0 : Int32) : entryFrame m #[(.int i0)] 1 = mkF m 0 #[.val (.int i0)] [] := by first | (simp [entryFrame, mkF, argsToLocals, Value.category]; done) | rfl
abbrev r_conNN : Room := { frames := 0, cells := 0, slots := 0, locals := 0 }
set_option maxRecDepth 65536 in
set_option maxHeartbeats 4000000 in
theorem conNN {l : Launch} {Z : State} {a0 : Array Value} {G1 : Int32} {G3 : Value} {h : Heap} (B : Base Z a0 G1 G3) (E0 : Ext Z.heap h) (x : Int32) : ∃ n : Nat, 1 ≤ n ∧ n < 65536 ∧ Con l false Z [] (⟨"com/example/steady_step/steadystep/machine/NamesRequirePinLaw", "nonNul", "(I)C"⟩ : MethodName) method_2_code 1 (some .char) [] r_conNN #[.int x] h [] (PQ (some (.int (Int32.ofNat n))) h) := by
  have hw := B.hw
  obtain ⟨k, hk, e⟩ := mod_small x 65535 (by decide) (by decide)
  refine ⟨k + 1, by omega, by omega, ?_⟩
  refine con_of_go pn0_NamesRequirePinLaw (fun m => ef0 m x) E0 EW.none ?_
  refine go_iloadN (q := 1) d1_0 rfl rfl ?_
  refine go_ldcI (q := 3) (v := (2147483647 : Int32)) d1_1 rfl (hw _ (List.mem_of_getElem? (i := 4) rfl)) ?_
  refine go_iand (q := 4) d1_3 rfl ?_
  refine go_ldcI (q := 6) (v := (65535 : Int32)) d1_4 rfl (hw _ (List.mem_of_getElem? (i := 5) rfl)) ?_
  refine go_irem (q := 7) d1_6 rfl (by decide) ?_
  rw [show (65535 : Int32) = Int32.ofNat 65535 from rfl, e]
  refine go_iconst (q := 8) (z := (Int32.ofNat 1)) d1_7 rfl rfl ?_
  refine go_iadd (q := 9) d1_8 rfl ?_
  refine go_i2c (q := 10) d1_9 rfl ?_
  rw [show Int32.ofNat k + Int32.ofNat 1 = Int32.ofNat (k + 1) from Jvm.Free.XT.add32n k 1, narN (k + 1) (by omega)]
  exact go_ireturn (out := []) rfl (by simp) (congrArg Value.int (narN (k + 1) (by omega))) d1_10 ⟨rfl, rfl, rfl⟩ all0 (by decide) (by decide)
theorem d2_0 : decode jdk_43_method_3_code 0 = .ok (.iload_n 0, 1) := by decide +kernel
theorem d2_1 : decode jdk_43_method_3_code 1 = .ok (.sipush 255, 3) := by decide +kernel
theorem d2_4 : decode jdk_43_method_3_code 4 = .ok (.if_icmp .gt 7, 3) := by decide +kernel
theorem d2_7 : decode jdk_43_method_3_code 7 = .ok (.iconst 1, 1) := by decide +kernel
theorem d2_8 : decode jdk_43_method_3_code 8 = .ok (.goto 4, 3) := by decide +kernel
theorem d2_11 : decode jdk_43_method_3_code 11 = .ok (.iconst 0, 1) := by decide +kernel
theorem d2_12 : decode jdk_43_method_3_code 12 = .ok (.ireturn, 1) := by decide +kernel
theorem pn1_StringLatin1 : plainName "java/lang/StringLatin1" = true := by first | (simp [plainName, overriddenIn]; done) | decide +kernel
theorem pd1 : parseMethodDescriptor "(C)Z" = some ⟨[.char], some .boolean⟩ := by decide +kernel
theorem ef1 (m : MethodId) (i0 : Int32) : entryFrame m #[(.int i0)] 1 = mkF m 0 #[.val (.int i0)] [] := by first | (simp [entryFrame, mkF, argsToLocals, Value.category]; done) | rfl
abbrev r_conCEy : Room := { frames := 0, cells := 0, slots := 0, locals := 0 }
set_option maxRecDepth 65536 in
set_option maxHeartbeats 4000000 in
theorem conCEy {l : Launch} {Z : State} {a0 : Array Value} {G1 : Int32} {G3 : Value} {h : Heap} {n : Nat} (B : Base Z a0 G1 G3) (E0 : Ext Z.heap h) (hn : n ≤ 255) (h16 : n < 65536) : Con l false Z [] (⟨"java/lang/StringLatin1", "canEncode", "(C)Z"⟩ : MethodName) jdk_43_method_3_code 1 (some .boolean) [] r_conCEy #[(.int (Int32.ofNat n))] h [] (PQ (some (.int (1 : Int32))) h) := by
  have hw := B.hw
  refine con_of_go pn1_StringLatin1 (fun m => ef1 m (Int32.ofNat n)) E0 EW.none ?_
  refine go_iloadN (q := 1) d2_0 rfl rfl ?_
  refine go_sipush (q := 4) (z := (Int32.ofNat 255)) d2_1 rfl rfl ?_
  refine go_icmp (q := 11) (q2 := 7) d2_4 (by decide) (by decide) rfl (fun hc => absurd hc (by rw [ic_gt _ _ (by omega) (by omega), decide_eq_true_iff]; omega)) (fun _ => ?_)
  refine go_iconst (q := 8) (z := (Int32.ofNat 1)) d2_7 rfl rfl ?_
  refine go_goto (q := 12) d2_8 (by decide) (by decide) ?_
  exact go_ireturn (out := []) rfl (by simp) rfl d2_12 ⟨rfl, rfl, rfl⟩ all0 (by decide) (by decide)
abbrev r_conCEn : Room := { frames := 0, cells := 0, slots := 0, locals := 0 }
set_option maxRecDepth 65536 in
set_option maxHeartbeats 4000000 in
theorem conCEn {l : Launch} {Z : State} {a0 : Array Value} {G1 : Int32} {G3 : Value} {h : Heap} {n : Nat} (B : Base Z a0 G1 G3) (E0 : Ext Z.heap h) (hn : 255 < n) (h16 : n < 65536) : Con l false Z [] (⟨"java/lang/StringLatin1", "canEncode", "(C)Z"⟩ : MethodName) jdk_43_method_3_code 1 (some .boolean) [] r_conCEn #[(.int (Int32.ofNat n))] h [] (PQ (some (.int (0 : Int32))) h) := by
  have hw := B.hw
  refine con_of_go pn1_StringLatin1 (fun m => ef1 m (Int32.ofNat n)) E0 EW.none ?_
  refine go_iloadN (q := 1) d2_0 rfl rfl ?_
  refine go_sipush (q := 4) (z := (Int32.ofNat 255)) d2_1 rfl rfl ?_
  refine go_icmp (q := 11) (q2 := 7) d2_4 (by decide) (by decide) rfl (fun _ => ?_) (fun hc => absurd hc (by rw [ic_gt _ _ (by omega) (by omega), decide_eq_false_iff_not]; omega))
  refine go_iconst (q := 12) (z := (Int32.ofNat 0)) d2_11 rfl rfl ?_
  exact go_ireturn (out := []) rfl (by simp) rfl d2_12 ⟨rfl, rfl, rfl⟩ all0 (by decide) (by decide)
theorem d3_0 : decode jdk_43_method_4_code 0 = .ok (.iload_n 0, 1) := by decide +kernel
theorem d3_1 : decode jdk_43_method_4_code 1 = .ok (.ifCond .lt 14, 3) := by decide +kernel
theorem d3_4 : decode jdk_43_method_4_code 4 = .ok (.iload_n 0, 1) := by decide +kernel
theorem d3_5 : decode jdk_43_method_4_code 5 = .ok (.sipush 255, 3) := by decide +kernel
theorem d3_8 : decode jdk_43_method_4_code 8 = .ok (.if_icmp .gt 7, 3) := by decide +kernel
theorem d3_11 : decode jdk_43_method_4_code 11 = .ok (.iconst 1, 1) := by decide +kernel
theorem d3_12 : decode jdk_43_method_4_code 12 = .ok (.goto 4, 3) := by decide +kernel
theorem d3_15 : decode jdk_43_method_4_code 15 = .ok (.iconst 0, 1) := by decide +kernel
theorem d3_16 : decode jdk_43_method_4_code 16 = .ok (.ireturn, 1) := by decide +kernel
theorem pd2 : parseMethodDescriptor "(I)Z" = some ⟨[.int], some .boolean⟩ := by decide +kernel
theorem ef2 (m : MethodId) (i0 : Int32) : entryFrame m #[(.int i0)] 1 = mkF m 0 #[.val (.int i0)] [] := by first | (simp [entryFrame, mkF, argsToLocals, Value.category]; done) | rfl
abbrev r_conCEi : Room := { frames := 0, cells := 0, slots := 0, locals := 0 }
set_option maxRecDepth 65536 in
set_option maxHeartbeats 4000000 in
theorem conCEi {l : Launch} {Z : State} {a0 : Array Value} {G1 : Int32} {G3 : Value} {h : Heap}  (B : Base Z a0 G1 G3) (E0 : Ext Z.heap h)  : Con l false Z [] (⟨"java/lang/StringLatin1", "canEncode", "(I)Z"⟩ : MethodName) jdk_43_method_4_code 1 (some .boolean) [] r_conCEi #[(.int (0 : Int32))] h [] (PQ (some (.int (1 : Int32))) h) := by
  have hw := B.hw
  refine con_of_go pn1_StringLatin1 (fun m => ef2 m (0 : Int32)) E0 EW.none ?_
  refine go_iloadN (q := 1) d3_0 rfl rfl ?_
  refine go_if (q := 15) (q2 := 4) d3_1 (by decide) (by decide) rfl (fun hc => absurd hc (by decide)) (fun _ => ?_)
  refine go_iloadN (q := 5) d3_4 rfl rfl ?_
  refine go_sipush (q := 8) (z := (255 : Int32)) d3_5 rfl rfl ?_
  refine go_icmp (q := 15) (q2 := 11) d3_8 (by decide) (by decide) rfl (fun hc => absurd hc (by decide)) (fun _ => ?_)
  refine go_iconst (q := 12) (z := (1 : Int32)) d3_11 rfl rfl ?_
  refine go_goto (q := 16) d3_12 (by decide) (by decide) ?_
  exact go_ireturn (out := []) rfl (by simp) rfl d3_16 ⟨rfl, rfl, rfl⟩ all0 (by decide) (by decide)
theorem d4_0 : decode jdk_52_method_3_code 0 = .ok (.iload_n 0, 1) := by decide +kernel
theorem d4_1 : decode jdk_52_method_3_code 1 = .ok (.ifCond .ge 11, 3) := by decide +kernel
theorem d4_4 : decode jdk_52_method_3_code 4 = .ok (.new 17, 3) := by decide +kernel
theorem d4_7 : decode jdk_52_method_3_code 7 = .ok (.dup, 1) := by decide +kernel
theorem d4_8 : decode jdk_52_method_3_code 8 = .ok (.invokespecial 19, 3) := by decide +kernel
theorem d4_11 : decode jdk_52_method_3_code 11 = .ok (.athrow, 1) := by decide +kernel
theorem d4_12 : decode jdk_52_method_3_code 12 = .ok (.iload_n 0, 1) := by decide +kernel
theorem d4_13 : decode jdk_52_method_3_code 13 = .ok (.ldc 20, 2) := by decide +kernel
theorem d4_15 : decode jdk_52_method_3_code 15 = .ok (.if_icmp .lt 40, 3) := by decide +kernel
theorem d4_18 : decode jdk_52_method_3_code 18 = .ok (.new 21, 3) := by decide +kernel
theorem d4_21 : decode jdk_52_method_3_code 21 = .ok (.dup, 1) := by decide +kernel
theorem d4_22 : decode jdk_52_method_3_code 22 = .ok (.new 23, 3) := by decide +kernel
theorem d4_25 : decode jdk_52_method_3_code 25 = .ok (.dup, 1) := by decide +kernel
theorem d4_26 : decode jdk_52_method_3_code 26 = .ok (.invokespecial 25, 3) := by decide +kernel
theorem d4_29 : decode jdk_52_method_3_code 29 = .ok (.ldc 26, 2) := by decide +kernel
theorem d4_31 : decode jdk_52_method_3_code 31 = .ok (.invokevirtual 28, 3) := by decide +kernel
theorem d4_34 : decode jdk_52_method_3_code 34 = .ok (.iload_n 0, 1) := by decide +kernel
theorem d4_35 : decode jdk_52_method_3_code 35 = .ok (.invokevirtual 32, 3) := by decide +kernel
theorem d4_38 : decode jdk_52_method_3_code 38 = .ok (.ldc 35, 2) := by decide +kernel
theorem d4_40 : decode jdk_52_method_3_code 40 = .ok (.invokevirtual 28, 3) := by decide +kernel
theorem d4_43 : decode jdk_52_method_3_code 43 = .ok (.ldc 20, 2) := by decide +kernel
theorem d4_45 : decode jdk_52_method_3_code 45 = .ok (.invokevirtual 32, 3) := by decide +kernel
theorem d4_48 : decode jdk_52_method_3_code 48 = .ok (.invokevirtual 37, 3) := by decide +kernel
theorem d4_51 : decode jdk_52_method_3_code 51 = .ok (.invokespecial 41, 3) := by decide +kernel
theorem d4_54 : decode jdk_52_method_3_code 54 = .ok (.athrow, 1) := by decide +kernel
theorem d4_55 : decode jdk_52_method_3_code 55 = .ok (.iload_n 0, 1) := by decide +kernel
theorem d4_56 : decode jdk_52_method_3_code 56 = .ok (.iconst 1, 1) := by decide +kernel
theorem d4_57 : decode jdk_52_method_3_code 57 = .ok (.ishl, 1) := by decide +kernel
theorem d4_58 : decode jdk_52_method_3_code 58 = .ok (.ireturn, 1) := by decide +kernel
theorem pn2_StringUTF16 : plainName "java/lang/StringUTF16" = true := by first | (simp [plainName, overriddenIn]; done) | decide +kernel
theorem pd3 : parseMethodDescriptor "(I)I" = some ⟨[.int], some .int⟩ := by decide +kernel
theorem ef3 (m : MethodId) (i0 : Int32) : entryFrame m #[(.int i0)] 1 = mkF m 0 #[.val (.int i0)] [] := by first | (simp [entryFrame, mkF, argsToLocals, Value.category]; done) | rfl
abbrev r_conNL : Room := { frames := 0, cells := 0, slots := 0, locals := 0 }
set_option maxRecDepth 65536 in
set_option maxHeartbeats 4000000 in
theorem conNL {l : Launch} {Z : State} {a0 : Array Value} {G1 : Int32} {G3 : Value} {h : Heap} {n : Nat} (B : Base Z a0 G1 G3) (E0 : Ext Z.heap h) (hn : n ≤ 4000) : Con l false Z [] (⟨"java/lang/StringUTF16", "newBytesLength", "(I)I"⟩ : MethodName) jdk_52_method_3_code 1 (some .int) [] r_conNL #[(.int (Int32.ofNat n))] h [] (PQ (some (.int (Int32.ofNat (2 * n)))) h) := by
  have hw := B.hw
  refine con_of_go pn2_StringUTF16 (fun m => ef3 m (Int32.ofNat n)) E0 EW.none ?_
  refine go_iloadN (q := 1) d4_0 rfl rfl ?_
  refine go_if (q := 12) (q2 := 4) d4_1 (by decide) (by decide) rfl (fun _ => ?_) (fun hc => absurd hc (by rw [if_ge n (by omega)]; decide))
  refine go_iloadN (q := 13) d4_12 rfl rfl ?_
  refine go_ldcI (q := 15) (v := (Int32.ofNat 1073741823)) d4_13 rfl (hw _ (List.mem_of_getElem? (i := 216) rfl)) ?_
  refine go_icmp (q := 55) (q2 := 18) d4_15 (by decide) (by decide) rfl (fun _ => ?_) (fun hc => absurd hc (by rw [ic_lt _ _ (by omega) (by omega), decide_eq_false_iff_not]; omega))
  refine go_iloadN (q := 56) d4_55 rfl rfl ?_
  refine go_iconst (q := 57) (z := (Int32.ofNat 1)) d4_56 rfl rfl ?_
  refine go_ishl (q := 58) d4_57 rfl ?_
  rw [shl1 n (by omega)]
  exact go_ireturn (out := []) rfl (by simp) rfl d4_58 ⟨rfl, rfl, rfl⟩ all0 (by decide) (by decide)
def QNB (Z : State) (h : Heap) (n : Nat) (v : Option Value) (h' : Heap) (out : List Addr) : Prop := ∃ (a : Addr) (k : ClassId), v = some (.ref a) ∧ out = [a] ∧ a = h.size ∧ Ext h h' ∧ Arv Z h' a k .byte (Int32.ofNat (2 * n)) [] (.int 0) ∧ Exa Z h' a "[B"
theorem d5_0 : decode jdk_52_method_2_code 0 = .ok (.iload_n 0, 1) := by decide +kernel
theorem d5_1 : decode jdk_52_method_2_code 1 = .ok (.invokestatic 11, 3) := by decide +kernel
theorem d5_4 : decode jdk_52_method_2_code 4 = .ok (.newarray .byte, 2) := by decide +kernel
theorem d5_6 : decode jdk_52_method_2_code 6 = .ok (.areturn, 1) := by decide +kernel
theorem pd4 : parseMethodDescriptor "(I)[B" = some ⟨[.int], some (.array .byte)⟩ := by decide +kernel
theorem ef4 (m : MethodId) (i0 : Int32) : entryFrame m #[(.int i0)] 1 = mkF m 0 #[.val (.int i0)] [] := by first | (simp [entryFrame, mkF, argsToLocals, Value.category]; done) | rfl
abbrev r_conNB8 : Room := { frames := 1, cells := 1, slots := 8, locals := 12 }
set_option maxRecDepth 65536 in
set_option maxHeartbeats 4000000 in
theorem conNB8 {l : Launch} {Z : State} {a0 : Array Value} {G1 : Int32} {G3 : Value} {h : Heap} {n : Nat} (B : Base Z a0 G1 G3) (E0 : Ext Z.heap h) (hn : 2 * n ≤ 8) : Con l false Z [] (⟨"java/lang/StringUTF16", "newBytesFor", "(I)[B"⟩ : MethodName) jdk_52_method_2_code 1 (some (.array .byte)) [] r_conNB8 #[(.int (Int32.ofNat n))] h [] (QNB Z h n) := by
  have hw := B.hw
  refine con_of_go pn2_StringUTF16 (fun m => ef4 m (Int32.ofNat n)) E0 EW.none ?_
  refine go_iloadN (q := 1) d5_0 rfl rfl ?_
  refine go_pS (q := 4) (y := (⟨"java/lang/StringUTF16", "newBytesLength", "(I)I"⟩ : MethodName)) (W := 0) (argsL := [(.int (Int32.ofNat n))]) (rest := []) (v := some (.int (Int32.ofNat (2 * n)))) d5_1 rfl (hw _ (List.mem_of_getElem? (i := 213) rfl)) (hw _ (List.mem_of_getElem? (i := 214) rfl)) (hw _ (List.mem_of_getElem? (i := 23) rfl)) (hw _ (List.mem_of_getElem? (i := 215) rfl)) (by decide) (conNL B E0 (by omega)) rfl rfl (lenOf pd3 rfl) (Nat.le_of_ble_eq_true rfl) (by decide) (by decide) rfl rfl (by decide) (by decide) ?_
  show Go l false Z [] _ _ _ _ _ _ _ _ _ _ _ 4 #[.val (.int (Int32.ofNat n))] [(.int (Int32.ofNat (2 * n)))]
  refine go_newarray (q := 6) (cap := 8) (ad := "[B") d5_4 rfl (hw _ (List.mem_of_getElem? (i := 25) rfl)) (nneg _ (by omega)) (by rw [clampN (by omega)]; omega) (by decide) (by decide) (by decide) rfl fun h1 a k1 e1 E1 F1 B1 => ?_
  exact go_areturn (out := [a]) rfl rfl rfl rfl d5_6 ⟨a, k1, rfl, rfl, e1, E1, F1, B1⟩ (fun _ z => z) (by decide) (by decide)
abbrev r_conNB32 : Room := { frames := 1, cells := 1, slots := 32, locals := 12 }
set_option maxRecDepth 65536 in
set_option maxHeartbeats 4000000 in
theorem conNB32 {l : Launch} {Z : State} {a0 : Array Value} {G1 : Int32} {G3 : Value} {h : Heap} {n : Nat} (B : Base Z a0 G1 G3) (E0 : Ext Z.heap h) (hn : 2 * n ≤ 32) : Con l false Z [] (⟨"java/lang/StringUTF16", "newBytesFor", "(I)[B"⟩ : MethodName) jdk_52_method_2_code 1 (some (.array .byte)) [] r_conNB32 #[(.int (Int32.ofNat n))] h [] (QNB Z h n) := by
  have hw := B.hw
  refine con_of_go pn2_StringUTF16 (fun m => ef4 m (Int32.ofNat n)) E0 EW.none ?_
  refine go_iloadN (q := 1) d5_0 rfl rfl ?_
  refine go_pS (q := 4) (y := (⟨"java/lang/StringUTF16", "newBytesLength", "(I)I"⟩ : MethodName)) (W := 0) (argsL := [(.int (Int32.ofNat n))]) (rest := []) (v := some (.int (Int32.ofNat (2 * n)))) d5_1 rfl (hw _ (List.mem_of_getElem? (i := 213) rfl)) (hw _ (List.mem_of_getElem? (i := 214) rfl)) (hw _ (List.mem_of_getElem? (i := 23) rfl)) (hw _ (List.mem_of_getElem? (i := 215) rfl)) (by decide) (conNL B E0 (by omega)) rfl rfl (lenOf pd3 rfl) (Nat.le_of_ble_eq_true rfl) (by decide) (by decide) rfl rfl (by decide) (by decide) ?_
  show Go l false Z [] _ _ _ _ _ _ _ _ _ _ _ 4 #[.val (.int (Int32.ofNat n))] [(.int (Int32.ofNat (2 * n)))]
  refine go_newarray (q := 6) (cap := 32) (ad := "[B") d5_4 rfl (hw _ (List.mem_of_getElem? (i := 25) rfl)) (nneg _ (by omega)) (by rw [clampN (by omega)]; omega) (by decide) (by decide) (by decide) rfl fun h1 a k1 e1 E1 F1 B1 => ?_
  exact go_areturn (out := [a]) rfl rfl rfl rfl d5_6 ⟨a, k1, rfl, rfl, e1, E1, F1, B1⟩ (fun _ z => z) (by decide) (by decide)
def QPC (Z : State) (h : Heap) (a : Addr) (k : ClassId) (N i : Nat) (x : Int32) (vs : List Value) (v : Option Value) (h' : Heap) (out : List Addr) : Prop := v = none ∧ out = [] ∧ Keep h h' [a] ∧ Arv Z h' a k .byte (Int32.ofNat N) ((vs.set (2 * i) (u0 x)).set (2 * i + 1) (u1 x)) (.int 0)
theorem d6_0 : decode jdk_52_method_4_code 0 = .ok (.getstatic 44, 3) := by decide +kernel
theorem d6_3 : decode jdk_52_method_4_code 3 = .ok (.ifCond .ne 25, 3) := by decide +kernel
theorem d6_6 : decode jdk_52_method_4_code 6 = .ok (.iload_n 1, 1) := by decide +kernel
theorem d6_7 : decode jdk_52_method_4_code 7 = .ok (.ifCond .lt 11, 3) := by decide +kernel
theorem d6_10 : decode jdk_52_method_4_code 10 = .ok (.iload_n 1, 1) := by decide +kernel
theorem d6_11 : decode jdk_52_method_4_code 11 = .ok (.aload_n 0, 1) := by decide +kernel
theorem d6_12 : decode jdk_52_method_4_code 12 = .ok (.invokestatic 48, 3) := by decide +kernel
theorem d6_15 : decode jdk_52_method_4_code 15 = .ok (.if_icmp .lt 13, 3) := by decide +kernel
theorem d6_18 : decode jdk_52_method_4_code 18 = .ok (.new 52, 3) := by decide +kernel
theorem d6_21 : decode jdk_52_method_4_code 21 = .ok (.dup, 1) := by decide +kernel
theorem d6_22 : decode jdk_52_method_4_code 22 = .ok (.ldc 54, 2) := by decide +kernel
theorem d6_24 : decode jdk_52_method_4_code 24 = .ok (.invokespecial 56, 3) := by decide +kernel
theorem d6_27 : decode jdk_52_method_4_code 27 = .ok (.athrow, 1) := by decide +kernel
theorem d6_28 : decode jdk_52_method_4_code 28 = .ok (.iload_n 1, 1) := by decide +kernel
theorem d6_29 : decode jdk_52_method_4_code 29 = .ok (.iconst 1, 1) := by decide +kernel
theorem d6_30 : decode jdk_52_method_4_code 30 = .ok (.ishl, 1) := by decide +kernel
theorem d6_31 : decode jdk_52_method_4_code 31 = .ok (.istore_n 1, 1) := by decide +kernel
theorem d6_32 : decode jdk_52_method_4_code 32 = .ok (.aload_n 0, 1) := by decide +kernel
theorem d6_33 : decode jdk_52_method_4_code 33 = .ok (.iload_n 1, 1) := by decide +kernel
theorem d6_34 : decode jdk_52_method_4_code 34 = .ok (.iinc 1 1, 3) := by decide +kernel
theorem d6_37 : decode jdk_52_method_4_code 37 = .ok (.iload_n 2, 1) := by decide +kernel
theorem d6_38 : decode jdk_52_method_4_code 38 = .ok (.getstatic 59, 3) := by decide +kernel
theorem d6_41 : decode jdk_52_method_4_code 41 = .ok (.ishr, 1) := by decide +kernel
theorem d6_42 : decode jdk_52_method_4_code 42 = .ok (.i2b, 1) := by decide +kernel
theorem d6_43 : decode jdk_52_method_4_code 43 = .ok (.bastore, 1) := by decide +kernel
theorem d6_44 : decode jdk_52_method_4_code 44 = .ok (.aload_n 0, 1) := by decide +kernel
theorem d6_45 : decode jdk_52_method_4_code 45 = .ok (.iload_n 1, 1) := by decide +kernel
theorem d6_46 : decode jdk_52_method_4_code 46 = .ok (.iload_n 2, 1) := by decide +kernel
theorem d6_47 : decode jdk_52_method_4_code 47 = .ok (.getstatic 63, 3) := by decide +kernel
theorem d6_50 : decode jdk_52_method_4_code 50 = .ok (.ishr, 1) := by decide +kernel
theorem d6_51 : decode jdk_52_method_4_code 51 = .ok (.i2b, 1) := by decide +kernel
theorem d6_52 : decode jdk_52_method_4_code 52 = .ok (.bastore, 1) := by decide +kernel
theorem d6_53 : decode jdk_52_method_4_code 53 = .ok (.return_, 1) := by decide +kernel
theorem pd5 : parseMethodDescriptor "([BII)V" = some ⟨[(.array .byte), .int, .int], none⟩ := by decide +kernel
theorem ef5 (m : MethodId) (a0 : Addr) (i1 : Int32) (i2 : Int32) : entryFrame m #[(.ref a0), (.int i1), (.int i2)] 3 = mkF m 0 #[.val (.ref a0), .val (.int i1), .val (.int i2)] [] := by first | (simp [entryFrame, mkF, argsToLocals, Value.category]; done) | rfl
abbrev r_conPC : Room := { frames := 0, cells := 0, slots := 0, locals := 0 }
set_option maxRecDepth 65536 in
set_option maxHeartbeats 4000000 in
theorem conPC {l : Launch} {Z : State} {a0 : Array Value} {G1 : Int32} {G3 : Value} {h : Heap} {a : Addr} {k : ClassId} {N i : Nat} {x : Int32} {vs : List Value} (B : Base Z a0 G1 G3) (E0 : Ext Z.heap h) (F : Arv Z h a k .byte (Int32.ofNat N) vs (.int 0)) (hl : vs.length = N) (hi : 2 * i + 1 < N) (hN : N ≤ 4000) : Con l false Z [] (⟨"java/lang/StringUTF16", "putChar", "([BII)V"⟩ : MethodName) jdk_52_method_4_code 3 none [] r_conPC #[(.ref a), (.int (Int32.ofNat i)), (.int x)] h [a] (QPC Z h a k N i x vs) := by
  have hw := B.hw
  refine con_of_go pn2_StringUTF16 (fun m => ef5 m a (Int32.ofNat i) x) E0 EW.none ?_
  refine go_getstatic (q := 3) d6_0 rfl (hw _ (List.mem_of_getElem? (i := 220) rfl)) Via.refl B.OA ?_
  refine go_if (q := 28) (q2 := 6) d6_3 (by decide) (by decide) rfl (fun _ => ?_) (fun hc => absurd hc (by decide))
  refine go_iloadN (q := 29) d6_28 rfl rfl ?_
  refine go_iconst (q := 30) (z := (Int32.ofNat 1)) d6_29 rfl rfl ?_
  refine go_ishl (q := 31) d6_30 rfl ?_
  rw [shl1 i (by omega)]
  refine go_istoreN (q := 32) (l' := #[.val (.ref a), .val (.int (Int32.ofNat (2 * i))), .val (.int x)]) d6_31 rfl rfl ?_
  refine go_aloadN (q := 33) d6_32 rfl rfl rfl ?_
  refine go_iloadN (q := 34) d6_33 rfl rfl ?_
  refine go_iinc (q := 37) (l' := #[.val (.ref a), .val (.int ((Int32.ofNat (2 * i)) + (1 : Int32))), .val (.int x)]) d6_34 rfl rfl rfl ?_
  refine go_iloadN (q := 38) d6_37 rfl rfl ?_
  rw [Jvm.Free.XT.succ32]
  refine go_getstatic (q := 41) d6_38 rfl (hw _ (List.mem_of_getElem? (i := 221) rfl)) Via.refl B.OH ?_
  refine go_ishr (q := 42) d6_41 rfl ?_
  refine go_i2b (q := 43) d6_42 rfl ?_
  refine go_bastore (q := 44) (i := 2 * i) d6_43 rfl F (inb (by omega) (by omega)) (clampN (by omega)) (by omega) (List.mem_cons_self ..) fun h1 K1 F1 => ?_
  refine go_aloadN (q := 45) d6_44 rfl rfl rfl ?_
  refine go_iloadN (q := 46) d6_45 rfl rfl ?_
  refine go_iloadN (q := 47) d6_46 rfl rfl ?_
  refine go_getstatic (q := 50) d6_47 rfl (hw _ (List.mem_of_getElem? (i := 222) rfl)) Via.refl B.OL ?_
  refine go_ishr (q := 51) d6_50 rfl ?_
  refine go_i2b (q := 52) d6_51 rfl ?_
  refine go_bastore (q := 53) (i := 2 * i + 1) d6_52 rfl F1 (inb (by omega) (by omega)) (clampN (by omega)) (by rw [List.length_set]; omega) (List.mem_cons_self ..) fun h2 K2 F2 => ?_
  rw [bb, bb] at F2
  exact go_return (out := []) rfl d6_53 ⟨rfl, rfl, K1.trans K2 (fun y hy => Or.inl hy), F2⟩ all0 (by decide) (by decide)
theorem d7_0 : decode jdk_52_method_5_code 0 = .ok (.getstatic 44, 3) := by decide +kernel
theorem d7_3 : decode jdk_52_method_5_code 3 = .ok (.ifCond .ne 25, 3) := by decide +kernel
theorem d7_6 : decode jdk_52_method_5_code 6 = .ok (.iload_n 1, 1) := by decide +kernel
theorem d7_7 : decode jdk_52_method_5_code 7 = .ok (.ifCond .lt 11, 3) := by decide +kernel
theorem d7_10 : decode jdk_52_method_5_code 10 = .ok (.iload_n 1, 1) := by decide +kernel
theorem d7_11 : decode jdk_52_method_5_code 11 = .ok (.aload_n 0, 1) := by decide +kernel
theorem d7_12 : decode jdk_52_method_5_code 12 = .ok (.invokestatic 48, 3) := by decide +kernel
theorem d7_15 : decode jdk_52_method_5_code 15 = .ok (.if_icmp .lt 13, 3) := by decide +kernel
theorem d7_18 : decode jdk_52_method_5_code 18 = .ok (.new 52, 3) := by decide +kernel
theorem d7_21 : decode jdk_52_method_5_code 21 = .ok (.dup, 1) := by decide +kernel
theorem d7_22 : decode jdk_52_method_5_code 22 = .ok (.ldc 54, 2) := by decide +kernel
theorem d7_24 : decode jdk_52_method_5_code 24 = .ok (.invokespecial 56, 3) := by decide +kernel
theorem d7_27 : decode jdk_52_method_5_code 27 = .ok (.athrow, 1) := by decide +kernel
theorem d7_28 : decode jdk_52_method_5_code 28 = .ok (.iload_n 1, 1) := by decide +kernel
theorem d7_29 : decode jdk_52_method_5_code 29 = .ok (.iconst 1, 1) := by decide +kernel
theorem d7_30 : decode jdk_52_method_5_code 30 = .ok (.ishl, 1) := by decide +kernel
theorem d7_31 : decode jdk_52_method_5_code 31 = .ok (.istore_n 1, 1) := by decide +kernel
theorem d7_32 : decode jdk_52_method_5_code 32 = .ok (.aload_n 0, 1) := by decide +kernel
theorem d7_33 : decode jdk_52_method_5_code 33 = .ok (.iload_n 1, 1) := by decide +kernel
theorem d7_34 : decode jdk_52_method_5_code 34 = .ok (.iinc 1 1, 3) := by decide +kernel
theorem d7_37 : decode jdk_52_method_5_code 37 = .ok (.baload, 1) := by decide +kernel
theorem d7_38 : decode jdk_52_method_5_code 38 = .ok (.sipush 255, 3) := by decide +kernel
theorem d7_41 : decode jdk_52_method_5_code 41 = .ok (.iand, 1) := by decide +kernel
theorem d7_42 : decode jdk_52_method_5_code 42 = .ok (.getstatic 59, 3) := by decide +kernel
theorem d7_45 : decode jdk_52_method_5_code 45 = .ok (.ishl, 1) := by decide +kernel
theorem d7_46 : decode jdk_52_method_5_code 46 = .ok (.aload_n 0, 1) := by decide +kernel
theorem d7_47 : decode jdk_52_method_5_code 47 = .ok (.iload_n 1, 1) := by decide +kernel
theorem d7_48 : decode jdk_52_method_5_code 48 = .ok (.baload, 1) := by decide +kernel
theorem d7_49 : decode jdk_52_method_5_code 49 = .ok (.sipush 255, 3) := by decide +kernel
theorem d7_52 : decode jdk_52_method_5_code 52 = .ok (.iand, 1) := by decide +kernel
theorem d7_53 : decode jdk_52_method_5_code 53 = .ok (.getstatic 63, 3) := by decide +kernel
theorem d7_56 : decode jdk_52_method_5_code 56 = .ok (.ishl, 1) := by decide +kernel
theorem d7_57 : decode jdk_52_method_5_code 57 = .ok (.ior, 1) := by decide +kernel
theorem d7_58 : decode jdk_52_method_5_code 58 = .ok (.i2c, 1) := by decide +kernel
theorem d7_59 : decode jdk_52_method_5_code 59 = .ok (.ireturn, 1) := by decide +kernel
theorem pd6 : parseMethodDescriptor "([BI)C" = some ⟨[(.array .byte), .int], some .char⟩ := by decide +kernel
theorem ef6 (m : MethodId) (a0 : Addr) (i1 : Int32) : entryFrame m #[(.ref a0), (.int i1)] 2 = mkF m 0 #[.val (.ref a0), .val (.int i1)] [] := by first | (simp [entryFrame, mkF, argsToLocals, Value.category]; done) | rfl
abbrev r_conGC : Room := { frames := 0, cells := 0, slots := 0, locals := 0 }
set_option maxRecDepth 65536 in
set_option maxHeartbeats 4000000 in
theorem conGC {l : Launch} {Z : State} {a0 : Array Value} {G1 : Int32} {G3 : Value} {h : Heap} {a : Addr} {k : ClassId} {N i c : Nat} {vs : List Value} (B : Base Z a0 G1 G3) (E0 : Ext Z.heap h) (F : Arv Z h a k .byte (Int32.ofNat N) vs (.int 0)) (hi : 2 * i + 1 < N) (hN : N ≤ 4000) (g0 : vs.getD (2 * i) (.int 0) = u0 (Int32.ofNat c)) (g1 : vs.getD (2 * i + 1) (.int 0) = u1 (Int32.ofNat c)) (hc : c < 65536) : Con l false Z [] (⟨"java/lang/StringUTF16", "getChar", "([BI)C"⟩ : MethodName) jdk_52_method_5_code 2 (some .char) [] r_conGC #[(.ref a), (.int (Int32.ofNat i))] h [] (PQ (some (.int (Int32.ofNat c))) h) := by
  have hw := B.hw
  refine con_of_go pn2_StringUTF16 (fun m => ef6 m a (Int32.ofNat i)) E0 EW.none ?_
  refine go_getstatic (q := 3) d7_0 rfl (hw _ (List.mem_of_getElem? (i := 220) rfl)) Via.refl B.OA ?_
  refine go_if (q := 28) (q2 := 6) d7_3 (by decide) (by decide) rfl (fun _ => ?_) (fun hc => absurd hc (by decide))
  refine go_iloadN (q := 29) d7_28 rfl rfl ?_
  refine go_iconst (q := 30) (z := (Int32.ofNat 1)) d7_29 rfl rfl ?_
  refine go_ishl (q := 31) d7_30 rfl ?_
  rw [shl1 i (by omega)]
  refine go_istoreN (q := 32) (l' := #[.val (.ref a), .val (.int (Int32.ofNat (2 * i)))]) d7_31 rfl rfl ?_
  refine go_aloadN (q := 33) d7_32 rfl rfl rfl ?_
  refine go_iloadN (q := 34) d7_33 rfl rfl ?_
  refine go_iinc (q := 37) (l' := #[.val (.ref a), .val (.int ((Int32.ofNat (2 * i)) + (1 : Int32)))]) d7_34 rfl rfl rfl ?_
  rw [Jvm.Free.XT.succ32]
  refine go_baload (q := 38) (v := u0 (Int32.ofNat c)) d7_37 rfl F (inb (by omega) (by omega)) (by rw [clampN (by omega)]; exact g0) ?_
  refine go_sipush (q := 41) (z := (255 : Int32)) d7_38 rfl rfl ?_
  refine go_iand (q := 42) d7_41 rfl ?_
  refine go_getstatic (q := 45) d7_42 rfl (hw _ (List.mem_of_getElem? (i := 221) rfl)) Via.refl B.OH ?_
  refine go_ishl (q := 46) d7_45 rfl ?_
  refine go_aloadN (q := 47) d7_46 rfl rfl rfl ?_
  refine go_iloadN (q := 48) d7_47 rfl rfl ?_
  refine go_baload (q := 49) (v := u1 (Int32.ofNat c)) d7_48 rfl F (inb (by omega) (by omega)) (by rw [clampN (by omega)]; exact g1) ?_
  refine go_sipush (q := 52) (z := (255 : Int32)) d7_49 rfl rfl ?_
  refine go_iand (q := 53) d7_52 rfl ?_
  refine go_getstatic (q := 56) d7_53 rfl (hw _ (List.mem_of_getElem? (i := 222) rfl)) Via.refl B.OL ?_
  refine go_ishl (q := 57) d7_56 rfl ?_
  refine go_ior (q := 58) d7_57 rfl ?_
  refine go_i2c (q := 59) d7_58 rfl ?_
  rw [pairN c hc]
  exact go_ireturn (out := []) rfl (by simp) (congrArg Value.int (narN c hc)) d7_59 ⟨rfl, rfl, rfl⟩ all0 (by decide) (by decide)
theorem set2 {xs : List Value} {z p r : Value} {m j : Nat} (h : xs.length = 2 * j) : ((xs ++ List.replicate (2 * (m + 1)) z).set (2 * j) p).set (2 * j + 1) r = (xs ++ [p, r]) ++ List.replicate (2 * m) z := by
  rw [show 2 * (m + 1) = (2 * m + 1) + 1 by omega, List.replicate_succ, List.replicate_succ, set_mid h.symm, show xs ++ p :: z :: List.replicate (2 * m) z = (xs ++ [p]) ++ z :: List.replicate (2 * m) z by simp, set_mid (by simp [h])]
  simp
def QTB (Z : State) (h : Heap) (cs : List Nat) (v : Option Value) (h' : Heap) (out : List Addr) : Prop := out = [] ∧ ∃ (t : Addr) (kb : ClassId), v = some (.ref t) ∧ h.size ≤ t ∧ Ext h h' ∧ Arv Z h' t kb .byte (Int32.ofNat (2 * cs.length)) (ub cs) (.int 0)
theorem d8_0 : decode jdk_52_method_14_code 0 = .ok (.iload_n 2, 1) := by decide +kernel
theorem d8_1 : decode jdk_52_method_14_code 1 = .ok (.invokestatic 107, 3) := by decide +kernel
theorem d8_4 : decode jdk_52_method_14_code 4 = .ok (.astore_n 3, 1) := by decide +kernel
theorem d8_5 : decode jdk_52_method_14_code 5 = .ok (.iconst 0, 1) := by decide +kernel
theorem d8_6 : decode jdk_52_method_14_code 6 = .ok (.istore 4, 2) := by decide +kernel
theorem d8_8 : decode jdk_52_method_14_code 8 = .ok (.iload 4, 2) := by decide +kernel
theorem d8_10 : decode jdk_52_method_14_code 10 = .ok (.iload_n 2, 1) := by decide +kernel
theorem d8_11 : decode jdk_52_method_14_code 11 = .ok (.if_icmp .ge 21, 3) := by decide +kernel
theorem d8_14 : decode jdk_52_method_14_code 14 = .ok (.aload_n 3, 1) := by decide +kernel
theorem d8_15 : decode jdk_52_method_14_code 15 = .ok (.iload 4, 2) := by decide +kernel
theorem d8_17 : decode jdk_52_method_14_code 17 = .ok (.aload_n 0, 1) := by decide +kernel
theorem d8_18 : decode jdk_52_method_14_code 18 = .ok (.iload_n 1, 1) := by decide +kernel
theorem d8_19 : decode jdk_52_method_14_code 19 = .ok (.caload, 1) := by decide +kernel
theorem d8_20 : decode jdk_52_method_14_code 20 = .ok (.invokestatic 111, 3) := by decide +kernel
theorem d8_23 : decode jdk_52_method_14_code 23 = .ok (.iinc 1 1, 3) := by decide +kernel
theorem d8_26 : decode jdk_52_method_14_code 26 = .ok (.iinc 4 1, 3) := by decide +kernel
theorem d8_29 : decode jdk_52_method_14_code 29 = .ok (.goto (-21), 3) := by decide +kernel
theorem d8_32 : decode jdk_52_method_14_code 32 = .ok (.aload_n 3, 1) := by decide +kernel
theorem d8_33 : decode jdk_52_method_14_code 33 = .ok (.areturn, 1) := by decide +kernel
theorem pd7 : parseMethodDescriptor "([CII)[B" = some ⟨[(.array .char), .int, .int], some (.array .byte)⟩ := by decide +kernel
abbrev r_conTB : Room := { frames := 2, cells := 1, slots := 8, locals := 24 }
set_option maxRecDepth 65536 in
set_option maxHeartbeats 4000000 in
theorem loopTB {l : Launch} {Z : State} {a0 : Array Value} {G1 : Int32} {G3 : Value} {h h0 : Heap} {a b : Addr} {k kC : ClassId} {cs : List Nat} {d : Value} (B : Base Z a0 G1 G3) (hn : cs.length ≤ 4) (hE : Ext h h0) (ha : h.size ≤ a) (nb : b ≠ a) (K : Arv Z h0 b kC .char (Int32.ofNat cs.length) (cs.map iv) d) (rem : List Nat) : ∀ (done : List Nat) (j : Nat) (h1 : Heap), j = done.length → cs = done ++ rem → Keep h0 h1 [a] → Arv Z h1 a k .byte (Int32.ofNat (2 * cs.length)) (ub done ++ List.replicate (2 * rem.length) (.int 0)) (.int 0) →
    Go l false Z [] "java/lang/StringUTF16" "toBytes" jdk_52_method_14_code 5 (some (.array .byte)) r_conTB (QTB Z h cs) h1 [a] (0 + 1) (0 + 8) 8 #[.val (.ref b), .val (.int (Int32.ofNat j)), .val (.int (Int32.ofNat cs.length)), .val (.ref a), .val (.int (Int32.ofNat j))] [] := by
  have hw := B.hw
  induction rem with
  | nil =>
    intro done j h1 hj hcs KK F
    have hl : done.length = cs.length := by rw [hcs]; simp
    refine go_iload (q := 10) d8_8 rfl rfl ?_
    refine go_iloadN (q := 11) d8_10 rfl rfl ?_
    refine go_icmp (q := 32) (q2 := 14) d8_11 (by decide) (by decide) rfl (fun _ => ?_) (fun hc => absurd hc (by rw [ic_ge _ _ (by omega) (by omega), decide_eq_false_iff_not]; omega))
    refine go_aloadN (q := 33) d8_32 rfl rfl rfl ?_
    exact go_areturn (out := []) rfl rfl rfl rfl d8_33 ⟨rfl, a, k, rfl, ha, ext_keep hE KK (allS ha all0), by rw [hcs, List.append_nil] at *; simpa using F⟩ all0 (by decide) (by decide)
  | cons c rem ih =>
    intro done j h1 hj hcs KK F
    have hl : done.length < cs.length := by rw [hcs]; simp
    refine go_iload (q := 10) d8_8 rfl rfl ?_
    refine go_iloadN (q := 11) d8_10 rfl rfl ?_
    refine go_icmp (q := 32) (q2 := 14) d8_11 (by decide) (by decide) rfl (fun hc => absurd hc (by rw [ic_ge _ _ (by omega) (by omega), decide_eq_true_iff]; omega)) (fun _ => ?_)
    refine go_aloadN (q := 15) d8_14 rfl rfl rfl ?_
    refine go_iload (q := 17) d8_15 rfl rfl ?_
    refine go_aloadN (q := 18) d8_17 rfl rfl rfl ?_
    refine go_iloadN (q := 19) d8_18 rfl rfl ?_
    have K1 := K.keep KK (ninS nb nin0)
    refine go_caload (q := 20) (v := iv c) d8_19 rfl K1 (inb (by omega) (by omega)) (by rw [clampN (by omega), hcs, List.map_append]; exact get_mid (by simp [hj])) ?_
    refine go_old fun X1 => ?_
    refine go_mine fun hM => ?_
    refine go_callS (q := 23) (y := (⟨"java/lang/StringUTF16", "putChar", "([BII)V"⟩ : MethodName)) (W := 0) (argsL := [(.ref a), (.int (Int32.ofNat j)), (.int (Int32.ofNat c))]) (rest := []) (ws := [a]) (P := fun v h' L => ∃ out, (QPC Z h1 a k (2 * cs.length) j (Int32.ofNat c) (ub done ++ List.replicate (2 * (rem.length + 1)) (.int 0)) v h' out) ∧ Fr Z.heap.size L ∧ Ext Z.heap h' ∧ ∀ x ∈ out, Z.heap.size ≤ x ∧ x < h'.size) d8_20 rfl (hw _ (List.mem_of_getElem? (i := 217) rfl)) (hw _ (List.mem_of_getElem? (i := 218) rfl)) (hw _ (List.mem_of_getElem? (i := 23) rfl)) (hw _ (List.mem_of_getElem? (i := 219) rfl)) (by decide) (con_pay (conPC B X1 F (by rw [List.length_append, ub_len, List.length_replicate, hcs]; simp; omega) (by omega) (by omega)) hM (hw _ (List.mem_of_getElem? (i := 219) rfl)) (hw _ (List.mem_of_getElem? (i := 23) rfl)) (by decide) (by decide)) rfl rfl (lenOf pd5 rfl) (Nat.le_of_ble_eq_true rfl) (by decide) (by decide) (fun v h' L hP => ?_) (fun _ z => z) (fun v h2 L hP => ?_)
    · obtain ⟨out, hq, N, -⟩ := hP; exact ⟨N, hq.2.2.1⟩
    obtain ⟨out, hq, -, X, hO⟩ := hP
    obtain ⟨rfl, rfl, K2, F2⟩ := hq
    refine ⟨[], all0, ?_⟩
    show Go l false Z [] _ _ _ _ _ _ _ _ _ _ _ 23 #[.val (.ref b), .val (.int (Int32.ofNat j)), .val (.int (Int32.ofNat cs.length)), .val (.ref a), .val (.int (Int32.ofNat j))] []
    refine go_iinc (q := 26) (l' := #[.val (.ref b), .val (.int ((Int32.ofNat j) + (1 : Int32))), .val (.int (Int32.ofNat cs.length)), .val (.ref a), .val (.int (Int32.ofNat j))]) d8_23 rfl rfl rfl ?_
    refine go_iinc (q := 29) (l' := #[.val (.ref b), .val (.int ((Int32.ofNat j) + (1 : Int32))), .val (.int (Int32.ofNat cs.length)), .val (.ref a), .val (.int ((Int32.ofNat j) + (1 : Int32)))]) d8_26 rfl rfl rfl ?_
    rw [Jvm.Free.XT.succ32]
    refine go_goto (q := 8) d8_29 (by decide) (by decide) ?_
    exact ih (done ++ [c]) (j + 1) h2 (by simp [hj]) (by rw [hcs]; simp) (KK.trans K2 (fun y hy => Or.inl hy)) (by rw [set2 (by rw [ub_len, hj])] at F2; rw [ub_app]; exact F2)
theorem ef7 (m : MethodId) (a0 : Addr) (i1 : Int32) (i2 : Int32) : entryFrame m #[(.ref a0), (.int i1), (.int i2)] 5 = mkF m 0 #[.val (.ref a0), .val (.int i1), .val (.int i2), .unset, .unset] [] := by first | (simp [entryFrame, mkF, argsToLocals, Value.category]; done) | rfl
set_option maxRecDepth 65536 in
set_option maxHeartbeats 4000000 in
theorem conTB {l : Launch} {Z : State} {a0 : Array Value} {G1 : Int32} {G3 : Value} {h : Heap} {b : Addr} {kC : ClassId} {cs : List Nat} {d : Value} (B : Base Z a0 G1 G3) (E0 : Ext Z.heap h) (hn : cs.length ≤ 4) (K : Arv Z h b kC .char (Int32.ofNat cs.length) (cs.map iv) d) : Con l false Z [] (⟨"java/lang/StringUTF16", "toBytes", "([CII)[B"⟩ : MethodName) jdk_52_method_14_code 5 (some (.array .byte)) [] r_conTB #[(.ref b), (.int (Int32.ofNat 0)), (.int (Int32.ofNat cs.length))] h [] (QTB Z h cs) := by
  have hw := B.hw
  refine con_of_go pn2_StringUTF16 (fun m => ef7 m b (Int32.ofNat 0) (Int32.ofNat cs.length)) E0 EW.none ?_
  refine go_iloadN (q := 1) d8_0 rfl rfl ?_
  refine go_callS (q := 4) (y := (⟨"java/lang/StringUTF16", "newBytesFor", "(I)[B"⟩ : MethodName)) (W := 0) (argsL := [(.int (Int32.ofNat cs.length))]) (rest := []) (ws := []) (P := fun v h' L => ∃ out, (QNB Z h cs.length v h' out) ∧ Fr Z.heap.size L ∧ Ext Z.heap h' ∧ ∀ x ∈ out, Z.heap.size ≤ x ∧ x < h'.size) d8_1 rfl (hw _ (List.mem_of_getElem? (i := 210) rfl)) (hw _ (List.mem_of_getElem? (i := 211) rfl)) (hw _ (List.mem_of_getElem? (i := 23) rfl)) (hw _ (List.mem_of_getElem? (i := 212) rfl)) (by decide) (con_pay (conNB8 B E0 (by omega)) all0 (hw _ (List.mem_of_getElem? (i := 212) rfl)) (hw _ (List.mem_of_getElem? (i := 23) rfl)) (by decide) (by decide)) rfl rfl (lenOf pd4 rfl) (Nat.le_of_ble_eq_true rfl) (by decide) (by decide) (fun v h' L hP => ?_) all0 (fun v h1 L hP => ?_)
  · obtain ⟨out, hq, N, -⟩ := hP; exact ⟨N, (by obtain ⟨_, _, _, _, _, E, _⟩ := hq; exact keep_ext E _)⟩
  obtain ⟨out, hq, -, X, hO⟩ := hP
  obtain ⟨a, k, rfl, rfl, ea, E1, F1, B1⟩ := hq
  refine ⟨[a], allS ⟨Nat.le_of_eq ea.symm, F1.lt⟩ all0, ?_⟩
  show Go l false Z [] _ _ _ _ _ _ _ _ _ _ _ 4 #[.val (.ref b), .val (.int (Int32.ofNat 0)), .val (.int (Int32.ofNat cs.length)), .unset, .unset] [(.ref a)]
  refine go_astoreN (q := 5) (l' := #[.val (.ref b), .val (.int (Int32.ofNat 0)), .val (.int (Int32.ofNat cs.length)), .val (.ref a), .unset]) d8_4 rfl rfl rfl ?_
  refine go_iconst (q := 6) (z := (Int32.ofNat 0)) d8_5 rfl rfl ?_
  refine go_istore (q := 8) (l' := #[.val (.ref b), .val (.int (Int32.ofNat 0)), .val (.int (Int32.ofNat cs.length)), .val (.ref a), .val (.int (Int32.ofNat 0))]) d8_6 rfl rfl ?_
  have nb : b ≠ a := by rw [ea]; exact Nat.ne_of_lt K.lt
  exact loopTB B hn E1 (Nat.le_of_eq ea.symm) nb (K.ext E1) cs [] 0 h1 rfl rfl (Keep.refl _ _) (F1.pad (by intro i; exact pad_rep [] (.int 0) (2 * cs.length) i))
def QCm (Z : State) (h : Heap) (a : Addr) (k : ClassId) (cs : List Nat) (v : Option Value) (h' : Heap) (out : List Addr) : Prop := out = [] ∧ Keep h h' [a] ∧ ∃ r : Nat, v = some (.int (Int32.ofNat r)) ∧ ((r = cs.length ∧ (∀ c ∈ cs, c ≤ 255) ∧ Arv Z h' a k .byte (Int32.ofNat cs.length) (cs.map lb) (.int 0)) ∨ ∃ (done : List Nat) (c : Nat) (rem : List Nat), cs = done ++ c :: rem ∧ done.length = r ∧ 255 < c)
theorem d9_0 : decode jdk_52_method_21_code 0 = .ok (.iconst 0, 1) := by decide +kernel
theorem d9_1 : decode jdk_52_method_21_code 1 = .ok (.istore 5, 2) := by decide +kernel
theorem d9_3 : decode jdk_52_method_21_code 3 = .ok (.iload 5, 2) := by decide +kernel
theorem d9_5 : decode jdk_52_method_21_code 5 = .ok (.iload 4, 2) := by decide +kernel
theorem d9_7 : decode jdk_52_method_21_code 7 = .ok (.if_icmp .ge 37, 3) := by decide +kernel
theorem d9_10 : decode jdk_52_method_21_code 10 = .ok (.aload_n 0, 1) := by decide +kernel
theorem d9_11 : decode jdk_52_method_21_code 11 = .ok (.iload_n 1, 1) := by decide +kernel
theorem d9_12 : decode jdk_52_method_21_code 12 = .ok (.caload, 1) := by decide +kernel
theorem d9_13 : decode jdk_52_method_21_code 13 = .ok (.istore 6, 2) := by decide +kernel
theorem d9_15 : decode jdk_52_method_21_code 15 = .ok (.iload 6, 2) := by decide +kernel
theorem d9_17 : decode jdk_52_method_21_code 17 = .ok (.sipush 255, 3) := by decide +kernel
theorem d9_20 : decode jdk_52_method_21_code 20 = .ok (.if_icmp .le 6, 3) := by decide +kernel
theorem d9_23 : decode jdk_52_method_21_code 23 = .ok (.iload 5, 2) := by decide +kernel
theorem d9_25 : decode jdk_52_method_21_code 25 = .ok (.ireturn, 1) := by decide +kernel
theorem d9_26 : decode jdk_52_method_21_code 26 = .ok (.aload_n 2, 1) := by decide +kernel
theorem d9_27 : decode jdk_52_method_21_code 27 = .ok (.iload_n 3, 1) := by decide +kernel
theorem d9_28 : decode jdk_52_method_21_code 28 = .ok (.iload 6, 2) := by decide +kernel
theorem d9_30 : decode jdk_52_method_21_code 30 = .ok (.i2b, 1) := by decide +kernel
theorem d9_31 : decode jdk_52_method_21_code 31 = .ok (.bastore, 1) := by decide +kernel
theorem d9_32 : decode jdk_52_method_21_code 32 = .ok (.iinc 1 1, 3) := by decide +kernel
theorem d9_35 : decode jdk_52_method_21_code 35 = .ok (.iinc 3 1, 3) := by decide +kernel
theorem d9_38 : decode jdk_52_method_21_code 38 = .ok (.iinc 5 1, 3) := by decide +kernel
theorem d9_41 : decode jdk_52_method_21_code 41 = .ok (.goto (-38), 3) := by decide +kernel
theorem d9_44 : decode jdk_52_method_21_code 44 = .ok (.iload 4, 2) := by decide +kernel
theorem d9_46 : decode jdk_52_method_21_code 46 = .ok (.ireturn, 1) := by decide +kernel
theorem pd8 : parseMethodDescriptor "([CI[BII)I" = some ⟨[(.array .char), .int, (.array .byte), .int, .int], some .int⟩ := by decide +kernel
abbrev r_conCm : Room := { frames := 0, cells := 0, slots := 0, locals := 0 }
set_option maxRecDepth 65536 in
set_option maxHeartbeats 4000000 in
theorem loopCm {l : Launch} {Z : State} {a0 : Array Value} {G1 : Int32} {G3 : Value} {h : Heap} {a b : Addr} {k kC : ClassId} {cs : List Nat} {d : Value} (B : Base Z a0 G1 G3) (hn : cs.length ≤ 4) (hp : ∀ c ∈ cs, c < 65536) (nb : b ≠ a) (K : Arv Z h b kC .char (Int32.ofNat cs.length) (cs.map iv) d) (rem : List Nat) : ∀ (done : List Nat) (j : Nat) (h1 : Heap) (x6 : Slot), j = done.length → cs = done ++ rem → (x6 = .unset ∨ ∃ y, x6 = .val (.int y)) → Keep h h1 [a] → Arv Z h1 a k .byte (Int32.ofNat cs.length) (done.map lb ++ rem.map (fun _ => .int 0)) (.int 0) → (∀ c ∈ done, c ≤ 255) →
    Go l false Z [] "java/lang/StringUTF16" "compress" jdk_52_method_21_code 7 (some .int) r_conCm (QCm Z h a k cs) h1 [a] 0 0 3 #[.val (.ref b), .val (.int (Int32.ofNat j)), .val (.ref a), .val (.int (Int32.ofNat j)), .val (.int (Int32.ofNat cs.length)), .val (.int (Int32.ofNat j)), x6] [] := by
  have hw := B.hw
  induction rem with
  | nil =>
    intro done j h1 x6 hj hcs h6 KK F hsm
    have hl : done.length = cs.length := by rw [hcs]; simp
    refine go_iload (q := 5) d9_3 rfl rfl ?_
    refine go_iload (q := 7) d9_5 rfl rfl ?_
    refine go_icmp (q := 44) (q2 := 10) d9_7 (by decide) (by decide) rfl (fun _ => ?_) (fun hc => absurd hc (by rw [ic_ge _ _ (by omega) (by omega), decide_eq_false_iff_not]; omega))
    refine go_iload (q := 46) d9_44 rfl rfl ?_
    exact go_ireturn (out := []) rfl (by simp) rfl d9_46 ⟨rfl, KK, cs.length, rfl, Or.inl ⟨rfl, by rw [hcs, List.append_nil] at *; exact hsm, by rw [hcs, List.append_nil] at *; simpa using F⟩⟩ all0 (by decide) (by decide)
  | cons c rem ih =>
    intro done j h1 x6 hj hcs h6 KK F hsm
    have hl : done.length < cs.length := by rw [hcs]; simp
    have K1 := K.keep KK (ninS nb nin0)
    have hc16 : c < 65536 := hp c (by rw [hcs]; simp)
    rcases h6 with rfl | ⟨y6, rfl⟩
    · refine go_iload (q := 5) d9_3 rfl rfl ?_
      refine go_iload (q := 7) d9_5 rfl rfl ?_
      refine go_icmp (q := 44) (q2 := 10) d9_7 (by decide) (by decide) rfl (fun hc => absurd hc (by rw [ic_ge _ _ (by omega) (by omega), decide_eq_true_iff]; omega)) (fun _ => ?_)
      refine go_aloadN (q := 11) d9_10 rfl rfl rfl ?_
      refine go_iloadN (q := 12) d9_11 rfl rfl ?_
      refine go_caload (q := 13) (v := iv c) d9_12 rfl K1 (inb (by omega) (by omega)) (by rw [clampN (by omega), hcs, List.map_append]; exact get_mid (by simp [hj])) ?_
      refine go_istore (q := 15) (l' := #[.val (.ref b), .val (.int (Int32.ofNat j)), .val (.ref a), .val (.int (Int32.ofNat j)), .val (.int (Int32.ofNat cs.length)), .val (.int (Int32.ofNat j)), .val (.int (Int32.ofNat c))]) d9_13 rfl rfl ?_
      refine go_iload (q := 17) d9_15 rfl rfl ?_
      refine go_sipush (q := 20) (z := (Int32.ofNat 255)) d9_17 rfl rfl ?_
      by_cases hc : c ≤ 255
      · refine go_icmp (q := 26) (q2 := 23) d9_20 (by decide) (by decide) rfl (fun _ => ?_) (fun hc => absurd hc (by rw [ic_le _ _ (by omega) (by omega), decide_eq_false_iff_not]; omega))
        refine go_aloadN (q := 27) d9_26 rfl rfl rfl ?_
        refine go_iloadN (q := 28) d9_27 rfl rfl ?_
        refine go_iload (q := 30) d9_28 rfl rfl ?_
        refine go_i2b (q := 31) d9_30 rfl ?_
        refine go_bastore (q := 32) (i := j) d9_31 rfl F (inb (by omega) (by omega)) (clampN (by omega)) (by simp; omega) (List.mem_cons_self ..) fun h2 K2 F2 => ?_
        rw [bb] at F2
        refine go_iinc (q := 35) (l' := #[.val (.ref b), .val (.int ((Int32.ofNat j) + (1 : Int32))), .val (.ref a), .val (.int (Int32.ofNat j)), .val (.int (Int32.ofNat cs.length)), .val (.int (Int32.ofNat j)), .val (.int (Int32.ofNat c))]) d9_32 rfl rfl rfl ?_
        refine go_iinc (q := 38) (l' := #[.val (.ref b), .val (.int ((Int32.ofNat j) + (1 : Int32))), .val (.ref a), .val (.int ((Int32.ofNat j) + (1 : Int32))), .val (.int (Int32.ofNat cs.length)), .val (.int (Int32.ofNat j)), .val (.int (Int32.ofNat c))]) d9_35 rfl rfl rfl ?_
        refine go_iinc (q := 41) (l' := #[.val (.ref b), .val (.int ((Int32.ofNat j) + (1 : Int32))), .val (.ref a), .val (.int ((Int32.ofNat j) + (1 : Int32))), .val (.int (Int32.ofNat cs.length)), .val (.int ((Int32.ofNat j) + (1 : Int32))), .val (.int (Int32.ofNat c))]) d9_38 rfl rfl rfl ?_
        rw [Jvm.Free.XT.succ32]
        refine go_goto (q := 3) d9_41 (by decide) (by decide) ?_
        exact ih (done ++ [c]) (j + 1) h2 _ (by simp [hj]) (by rw [hcs]; simp) (Or.inr ⟨_, rfl⟩) (KK.trans K2 (fun y hy => Or.inl hy)) (by rw [List.map_cons, set_mid (by simp [hj])] at F2; rw [List.map_append, List.append_assoc]; exact F2) (fun y hy => by rcases List.mem_append.mp hy with q | q; exact hsm y q; rw [List.mem_singleton.mp q]; exact hc)
      · refine go_icmp (q := 26) (q2 := 23) d9_20 (by decide) (by decide) rfl (fun hc => absurd hc (by rw [ic_le _ _ (by omega) (by omega), decide_eq_true_iff]; omega)) (fun _ => ?_)
        refine go_iload (q := 25) d9_23 rfl rfl ?_
        exact go_ireturn (out := []) rfl (by simp) rfl d9_25 ⟨rfl, KK, j, rfl, Or.inr ⟨done, c, rem, hcs, hj.symm, by omega⟩⟩ all0 (by decide) (by decide)
    · refine go_iload (q := 5) d9_3 rfl rfl ?_
      refine go_iload (q := 7) d9_5 rfl rfl ?_
      refine go_icmp (q := 44) (q2 := 10) d9_7 (by decide) (by decide) rfl (fun hc => absurd hc (by rw [ic_ge _ _ (by omega) (by omega), decide_eq_true_iff]; omega)) (fun _ => ?_)
      refine go_aloadN (q := 11) d9_10 rfl rfl rfl ?_
      refine go_iloadN (q := 12) d9_11 rfl rfl ?_
      refine go_caload (q := 13) (v := iv c) d9_12 rfl K1 (inb (by omega) (by omega)) (by rw [clampN (by omega), hcs, List.map_append]; exact get_mid (by simp [hj])) ?_
      refine go_istore (q := 15) (l' := #[.val (.ref b), .val (.int (Int32.ofNat j)), .val (.ref a), .val (.int (Int32.ofNat j)), .val (.int (Int32.ofNat cs.length)), .val (.int (Int32.ofNat j)), .val (.int (Int32.ofNat c))]) d9_13 rfl rfl ?_
      refine go_iload (q := 17) d9_15 rfl rfl ?_
      refine go_sipush (q := 20) (z := (Int32.ofNat 255)) d9_17 rfl rfl ?_
      by_cases hc : c ≤ 255
      · refine go_icmp (q := 26) (q2 := 23) d9_20 (by decide) (by decide) rfl (fun _ => ?_) (fun hc => absurd hc (by rw [ic_le _ _ (by omega) (by omega), decide_eq_false_iff_not]; omega))
        refine go_aloadN (q := 27) d9_26 rfl rfl rfl ?_
        refine go_iloadN (q := 28) d9_27 rfl rfl ?_
        refine go_iload (q := 30) d9_28 rfl rfl ?_
        refine go_i2b (q := 31) d9_30 rfl ?_
        refine go_bastore (q := 32) (i := j) d9_31 rfl F (inb (by omega) (by omega)) (clampN (by omega)) (by simp; omega) (List.mem_cons_self ..) fun h2 K2 F2 => ?_
        rw [bb] at F2
        refine go_iinc (q := 35) (l' := #[.val (.ref b), .val (.int ((Int32.ofNat j) + (1 : Int32))), .val (.ref a), .val (.int (Int32.ofNat j)), .val (.int (Int32.ofNat cs.length)), .val (.int (Int32.ofNat j)), .val (.int (Int32.ofNat c))]) d9_32 rfl rfl rfl ?_
        refine go_iinc (q := 38) (l' := #[.val (.ref b), .val (.int ((Int32.ofNat j) + (1 : Int32))), .val (.ref a), .val (.int ((Int32.ofNat j) + (1 : Int32))), .val (.int (Int32.ofNat cs.length)), .val (.int (Int32.ofNat j)), .val (.int (Int32.ofNat c))]) d9_35 rfl rfl rfl ?_
        refine go_iinc (q := 41) (l' := #[.val (.ref b), .val (.int ((Int32.ofNat j) + (1 : Int32))), .val (.ref a), .val (.int ((Int32.ofNat j) + (1 : Int32))), .val (.int (Int32.ofNat cs.length)), .val (.int ((Int32.ofNat j) + (1 : Int32))), .val (.int (Int32.ofNat c))]) d9_38 rfl rfl rfl ?_
        rw [Jvm.Free.XT.succ32]
        refine go_goto (q := 3) d9_41 (by decide) (by decide) ?_
        exact ih (done ++ [c]) (j + 1) h2 _ (by simp [hj]) (by rw [hcs]; simp) (Or.inr ⟨_, rfl⟩) (KK.trans K2 (fun y hy => Or.inl hy)) (by rw [List.map_cons, set_mid (by simp [hj])] at F2; rw [List.map_append, List.append_assoc]; exact F2) (fun y hy => by rcases List.mem_append.mp hy with q | q; exact hsm y q; rw [List.mem_singleton.mp q]; exact hc)
      · refine go_icmp (q := 26) (q2 := 23) d9_20 (by decide) (by decide) rfl (fun hc => absurd hc (by rw [ic_le _ _ (by omega) (by omega), decide_eq_true_iff]; omega)) (fun _ => ?_)
        refine go_iload (q := 25) d9_23 rfl rfl ?_
        exact go_ireturn (out := []) rfl (by simp) rfl d9_25 ⟨rfl, KK, j, rfl, Or.inr ⟨done, c, rem, hcs, hj.symm, by omega⟩⟩ all0 (by decide) (by decide)
theorem ef8 (m : MethodId) (a0 : Addr) (i1 : Int32) (a2 : Addr) (i3 : Int32) (i4 : Int32) : entryFrame m #[(.ref a0), (.int i1), (.ref a2), (.int i3), (.int i4)] 7 = mkF m 0 #[.val (.ref a0), .val (.int i1), .val (.ref a2), .val (.int i3), .val (.int i4), .unset, .unset] [] := by first | (simp [entryFrame, mkF, argsToLocals, Value.category]; done) | rfl
set_option maxRecDepth 65536 in
set_option maxHeartbeats 4000000 in
theorem conCm {l : Launch} {Z : State} {a0 : Array Value} {G1 : Int32} {G3 : Value} {h : Heap} {a b : Addr} {k kC : ClassId} {cs : List Nat} {d : Value} (B : Base Z a0 G1 G3) (E0 : Ext Z.heap h) (hn : cs.length ≤ 4) (hp : ∀ c ∈ cs, c < 65536) (nb : b ≠ a) (K : Arv Z h b kC .char (Int32.ofNat cs.length) (cs.map iv) d) (F : Arv Z h a k .byte (Int32.ofNat cs.length) [] (.int 0)) : Con l false Z [] (⟨"java/lang/StringUTF16", "compress", "([CI[BII)I"⟩ : MethodName) jdk_52_method_21_code 7 (some .int) [] r_conCm #[(.ref b), (.int (Int32.ofNat 0)), (.ref a), (.int (Int32.ofNat 0)), (.int (Int32.ofNat cs.length))] h [a] (QCm Z h a k cs) := by
  have hw := B.hw
  refine con_of_go pn2_StringUTF16 (fun m => ef8 m b (Int32.ofNat 0) a (Int32.ofNat 0) (Int32.ofNat cs.length)) E0 EW.none ?_
  refine go_iconst (q := 1) (z := (Int32.ofNat 0)) d9_0 rfl rfl ?_
  refine go_istore (q := 3) (l' := #[.val (.ref b), .val (.int (Int32.ofNat 0)), .val (.ref a), .val (.int (Int32.ofNat 0)), .val (.int (Int32.ofNat cs.length)), .val (.int (Int32.ofNat 0)), .unset]) d9_1 rfl rfl ?_
  exact loopCm B hn hp nb K cs [] 0 h .unset rfl rfl (Or.inl rfl) (Keep.refl _ _) (F.pad (fun i => by rw [List.map_nil, List.nil_append, List.map_const']; exact pad_rep [] (.int 0) cs.length i)) (fun _ z => nomatch z)
def QC3 (Z : State) (h : Heap) (cs : List Nat) (v : Option Value) (h' : Heap) (out : List Addr) : Prop := out = [] ∧ Ext h h' ∧ ∃ (t : Addr) (kb : ClassId), v = some (.ref t) ∧ h.size ≤ t ∧ (((∀ c ∈ cs, c ≤ 255) ∧ Arv Z h' t kb .byte (Int32.ofNat cs.length) (cs.map lb) (.int 0)) ∨ Arv Z h' t kb .byte (Int32.ofNat (2 * cs.length)) (ub cs) (.int 0))
theorem d10_0 : decode jdk_52_method_16_code 0 = .ok (.iload_n 2, 1) := by decide +kernel
theorem d10_1 : decode jdk_52_method_16_code 1 = .ok (.newarray .byte, 2) := by decide +kernel
theorem d10_3 : decode jdk_52_method_16_code 3 = .ok (.astore_n 3, 1) := by decide +kernel
theorem d10_4 : decode jdk_52_method_16_code 4 = .ok (.aload_n 0, 1) := by decide +kernel
theorem d10_5 : decode jdk_52_method_16_code 5 = .ok (.iload_n 1, 1) := by decide +kernel
theorem d10_6 : decode jdk_52_method_16_code 6 = .ok (.aload_n 3, 1) := by decide +kernel
theorem d10_7 : decode jdk_52_method_16_code 7 = .ok (.iconst 0, 1) := by decide +kernel
theorem d10_8 : decode jdk_52_method_16_code 8 = .ok (.iload_n 2, 1) := by decide +kernel
theorem d10_9 : decode jdk_52_method_16_code 9 = .ok (.invokestatic 115, 3) := by decide +kernel
theorem d10_12 : decode jdk_52_method_16_code 12 = .ok (.istore 4, 2) := by decide +kernel
theorem d10_14 : decode jdk_52_method_16_code 14 = .ok (.iload 4, 2) := by decide +kernel
theorem d10_16 : decode jdk_52_method_16_code 16 = .ok (.iload_n 2, 1) := by decide +kernel
theorem d10_17 : decode jdk_52_method_16_code 17 = .ok (.if_icmp .eq 40, 3) := by decide +kernel
theorem d10_20 : decode jdk_52_method_16_code 20 = .ok (.aload_n 0, 1) := by decide +kernel
theorem d10_21 : decode jdk_52_method_16_code 21 = .ok (.iload_n 1, 1) := by decide +kernel
theorem d10_22 : decode jdk_52_method_16_code 22 = .ok (.iload_n 2, 1) := by decide +kernel
theorem d10_23 : decode jdk_52_method_16_code 23 = .ok (.invokestatic 119, 3) := by decide +kernel
theorem d10_26 : decode jdk_52_method_16_code 26 = .ok (.astore 5, 2) := by decide +kernel
theorem d10_28 : decode jdk_52_method_16_code 28 = .ok (.aload 5, 2) := by decide +kernel
theorem d10_30 : decode jdk_52_method_16_code 30 = .ok (.iload 4, 2) := by decide +kernel
theorem d10_32 : decode jdk_52_method_16_code 32 = .ok (.invokestatic 71, 3) := by decide +kernel
theorem d10_35 : decode jdk_52_method_16_code 35 = .ok (.sipush 255, 3) := by decide +kernel
theorem d10_38 : decode jdk_52_method_16_code 38 = .ok (.if_icmp .gt 16, 3) := by decide +kernel
theorem d10_41 : decode jdk_52_method_16_code 41 = .ok (.aload 5, 2) := by decide +kernel
theorem d10_43 : decode jdk_52_method_16_code 43 = .ok (.iconst 0, 1) := by decide +kernel
theorem d10_44 : decode jdk_52_method_16_code 44 = .ok (.aload_n 3, 1) := by decide +kernel
theorem d10_45 : decode jdk_52_method_16_code 45 = .ok (.iconst 0, 1) := by decide +kernel
theorem d10_46 : decode jdk_52_method_16_code 46 = .ok (.iload_n 2, 1) := by decide +kernel
theorem d10_47 : decode jdk_52_method_16_code 47 = .ok (.invokestatic 123, 3) := by decide +kernel
theorem d10_50 : decode jdk_52_method_16_code 50 = .ok (.iload_n 2, 1) := by decide +kernel
theorem d10_51 : decode jdk_52_method_16_code 51 = .ok (.if_icmp .eq 6, 3) := by decide +kernel
theorem d10_54 : decode jdk_52_method_16_code 54 = .ok (.aload 5, 2) := by decide +kernel
theorem d10_56 : decode jdk_52_method_16_code 56 = .ok (.areturn, 1) := by decide +kernel
theorem d10_57 : decode jdk_52_method_16_code 57 = .ok (.aload_n 3, 1) := by decide +kernel
theorem d10_58 : decode jdk_52_method_16_code 58 = .ok (.areturn, 1) := by decide +kernel
theorem ef9 (m : MethodId) (a0 : Addr) (i1 : Int32) (i2 : Int32) : entryFrame m #[(.ref a0), (.int i1), (.int i2)] 6 = mkF m 0 #[.val (.ref a0), .val (.int i1), .val (.int i2), .unset, .unset, .unset] [] := by first | (simp [entryFrame, mkF, argsToLocals, Value.category]; done) | rfl
abbrev r_conC3 : Room := { frames := 3, cells := 2, slots := 12, locals := 40 }
set_option maxRecDepth 65536 in
set_option maxHeartbeats 4000000 in
theorem conC3 {l : Launch} {Z : State} {a0 : Array Value} {G1 : Int32} {G3 : Value} {h : Heap} {b : Addr} {kC : ClassId} {cs : List Nat} {d : Value} (B : Base Z a0 G1 G3) (E0 : Ext Z.heap h) (hn : cs.length ≤ 4) (hp : ∀ c ∈ cs, c < 65536) (K : Arv Z h b kC .char (Int32.ofNat cs.length) (cs.map iv) d) : Con l false Z [] (⟨"java/lang/StringUTF16", "compress", "([CII)[B"⟩ : MethodName) jdk_52_method_16_code 6 (some (.array .byte)) [] r_conC3 #[(.ref b), (.int (Int32.ofNat 0)), (.int (Int32.ofNat cs.length))] h [] (QC3 Z h cs) := by
  have hw := B.hw
  refine con_of_go pn2_StringUTF16 (fun m => ef9 m b (Int32.ofNat 0) (Int32.ofNat cs.length)) E0 EW.none ?_
  refine go_iloadN (q := 1) d10_0 rfl rfl ?_
  refine go_newarray (q := 3) (cap := 4) (ad := "[B") d10_1 rfl (hw _ (List.mem_of_getElem? (i := 25) rfl)) (nneg _ (by omega)) (by rw [clampN (by omega)]; omega) (by decide) (by decide) (by decide) rfl fun h1 a k1 e1 E1 F1 B1 => ?_
  refine go_astoreN (q := 4) (l' := #[.val (.ref b), .val (.int (Int32.ofNat 0)), .val (.int (Int32.ofNat cs.length)), .val (.ref a), .unset, .unset]) d10_3 rfl rfl rfl ?_
  refine go_aloadN (q := 5) d10_4 rfl rfl rfl ?_
  refine go_iloadN (q := 6) d10_5 rfl rfl ?_
  refine go_aloadN (q := 7) d10_6 rfl rfl rfl ?_
  refine go_iconst (q := 8) (z := (Int32.ofNat 0)) d10_7 rfl rfl ?_
  refine go_iloadN (q := 9) d10_8 rfl rfl ?_
  have nb : b ≠ a := by rw [e1]; exact Nat.ne_of_lt K.lt
  refine go_mine fun hM => ?_
  refine go_callS (q := 12) (y := (⟨"java/lang/StringUTF16", "compress", "([CI[BII)I"⟩ : MethodName)) (W := 0) (argsL := [(.ref b), (.int (Int32.ofNat 0)), (.ref a), (.int (Int32.ofNat 0)), (.int (Int32.ofNat cs.length))]) (rest := []) (ws := [a]) (P := fun v h' L => ∃ out, (QCm Z h1 a k1 cs v h' out) ∧ Fr Z.heap.size L ∧ Ext Z.heap h' ∧ ∀ x ∈ out, Z.heap.size ≤ x ∧ x < h'.size) d10_9 rfl (hw _ (List.mem_of_getElem? (i := 26) rfl)) (hw _ (List.mem_of_getElem? (i := 27) rfl)) (hw _ (List.mem_of_getElem? (i := 23) rfl)) (hw _ (List.mem_of_getElem? (i := 28) rfl)) (by decide) (con_pay (conCm B (ext_tr E0 E1) hn hp nb (K.ext E1) F1) hM (hw _ (List.mem_of_getElem? (i := 28) rfl)) (hw _ (List.mem_of_getElem? (i := 23) rfl)) (by decide) (by decide)) rfl rfl (lenOf pd8 rfl) (Nat.le_of_ble_eq_true rfl) (by decide) (by decide) (fun v h' L hP => ?_) (fun _ z => z) (fun v h2 L hP => ?_)
  · obtain ⟨out, hq, N, -⟩ := hP; exact ⟨N, hq.2.1⟩
  obtain ⟨out, hq, -, X, hO⟩ := hP
  obtain ⟨rfl, K2, r, rfl, hr⟩ := hq
  refine ⟨[], all0, ?_⟩
  show Go l false Z [] _ _ _ _ _ _ _ _ _ _ _ 12 #[.val (.ref b), .val (.int (Int32.ofNat 0)), .val (.int (Int32.ofNat cs.length)), .val (.ref a), .unset, .unset] [(.int (Int32.ofNat r))]
  refine go_istore (q := 14) (l' := #[.val (.ref b), .val (.int (Int32.ofNat 0)), .val (.int (Int32.ofNat cs.length)), .val (.ref a), .val (.int (Int32.ofNat r)), .unset]) d10_12 rfl rfl ?_
  refine go_iload (q := 16) d10_14 rfl rfl ?_
  refine go_iloadN (q := 17) d10_16 rfl rfl ?_
  rcases hr with ⟨rfl, hsm, F2⟩ | ⟨done, c, rem, hcs, hr, hc⟩
  · refine go_icmp (q := 57) (q2 := 20) d10_17 (by decide) (by decide) rfl (fun _ => ?_) (fun hc => absurd hc (by rw [ic_eq _ _ (by omega) (by omega), decide_eq_false_iff_not]; omega))
    refine go_aloadN (q := 58) d10_57 rfl rfl rfl ?_
    exact go_areturn (out := []) rfl rfl rfl rfl d10_58 ⟨rfl, ext_keep E1 K2 (allS (Nat.le_of_eq e1.symm) all0), a, k1, rfl, Nat.le_of_eq e1.symm, Or.inl ⟨hsm, F2⟩⟩ all0 (by decide) (by decide)
  · have hlt : done.length < cs.length := by rw [hcs]; simp
    have hc16 : c < 65536 := hp c (by rw [hcs]; simp)
    refine go_icmp (q := 57) (q2 := 20) d10_17 (by decide) (by decide) rfl (fun hc => absurd hc (by rw [ic_eq _ _ (by omega) (by omega), decide_eq_true_iff]; omega)) (fun _ => ?_)
    refine go_aloadN (q := 21) d10_20 rfl rfl rfl ?_
    refine go_iloadN (q := 22) d10_21 rfl rfl ?_
    refine go_iloadN (q := 23) d10_22 rfl rfl ?_
    refine go_callS (q := 26) (y := (⟨"java/lang/StringUTF16", "toBytes", "([CII)[B"⟩ : MethodName)) (W := 0) (argsL := [(.ref b), (.int (Int32.ofNat 0)), (.int (Int32.ofNat cs.length))]) (rest := []) (ws := []) (P := fun v h' L => ∃ out, (QTB Z h2 cs v h' out) ∧ Fr Z.heap.size L ∧ Ext Z.heap h' ∧ ∀ x ∈ out, Z.heap.size ≤ x ∧ x < h'.size) d10_23 rfl (hw _ (List.mem_of_getElem? (i := 207) rfl)) (hw _ (List.mem_of_getElem? (i := 208) rfl)) (hw _ (List.mem_of_getElem? (i := 23) rfl)) (hw _ (List.mem_of_getElem? (i := 209) rfl)) (by decide) (con_pay (conTB B X hn ((K.ext E1).keep K2 (ninS nb nin0))) all0 (hw _ (List.mem_of_getElem? (i := 209) rfl)) (hw _ (List.mem_of_getElem? (i := 23) rfl)) (by decide) (by decide)) rfl rfl (lenOf pd7 rfl) (Nat.le_of_ble_eq_true rfl) (by decide) (by decide) (fun v h' L hP => ?_) all0 (fun v h3 L hP => ?_)
    · obtain ⟨out, hq, N, -⟩ := hP; exact ⟨N, (by obtain ⟨_, _, _, _, _, E, _⟩ := hq; exact keep_ext E _)⟩
    obtain ⟨out, hq, -, X, hO⟩ := hP
    obtain ⟨rfl, t, kb, rfl, ht, E3, F3⟩ := hq
    refine ⟨[], all0, ?_⟩
    show Go l false Z [] _ _ _ _ _ _ _ _ _ _ _ 26 #[.val (.ref b), .val (.int (Int32.ofNat 0)), .val (.int (Int32.ofNat cs.length)), .val (.ref a), .val (.int (Int32.ofNat r)), .unset] [(.ref t)]
    refine go_astore (q := 28) (l' := #[.val (.ref b), .val (.int (Int32.ofNat 0)), .val (.int (Int32.ofNat cs.length)), .val (.ref a), .val (.int (Int32.ofNat r)), .val (.ref t)]) d10_26 rfl rfl rfl ?_
    refine go_aload (q := 30) d10_28 rfl rfl rfl ?_
    refine go_iload (q := 32) d10_30 rfl rfl ?_
    refine go_pS (q := 35) (y := (⟨"java/lang/StringUTF16", "getChar", "([BI)C"⟩ : MethodName)) (W := 0) (argsL := [(.ref t), (.int (Int32.ofNat r))]) (rest := []) (v := some (.int (Int32.ofNat c))) d10_32 rfl (hw _ (List.mem_of_getElem? (i := 223) rfl)) (hw _ (List.mem_of_getElem? (i := 224) rfl)) (hw _ (List.mem_of_getElem? (i := 23) rfl)) (hw _ (List.mem_of_getElem? (i := 225) rfl)) (by decide) (conGC B X F3 (c := c) (by omega) (by omega) (by rw [hcs, ub_app]; exact get_mid (by rw [ub_len, hr])) (by rw [hcs, ub_app]; exact get_mid1 (by rw [ub_len, hr])) hc16) rfl rfl (lenOf pd6 rfl) (Nat.le_of_ble_eq_true rfl) (by decide) (by decide) rfl rfl (by decide) (by decide) ?_
    show Go l false Z [] _ _ _ _ _ _ _ _ _ _ _ 35 #[.val (.ref b), .val (.int (Int32.ofNat 0)), .val (.int (Int32.ofNat cs.length)), .val (.ref a), .val (.int (Int32.ofNat r)), .val (.ref t)] [(.int (Int32.ofNat c))]
    refine go_sipush (q := 38) (z := (Int32.ofNat 255)) d10_35 rfl rfl ?_
    refine go_icmp (q := 54) (q2 := 41) d10_38 (by decide) (by decide) rfl (fun _ => ?_) (fun hc => absurd hc (by rw [ic_gt _ _ (by omega) (by omega), decide_eq_false_iff_not]; omega))
    refine go_aload (q := 56) d10_54 rfl rfl rfl ?_
    have X3 : Ext h h2 := ext_keep E1 K2 (allS (Nat.le_of_eq e1.symm) all0)
    exact go_areturn (out := []) rfl rfl rfl rfl d10_56 ⟨rfl, ext_tr X3 E3, t, kb, rfl, Nat.le_trans X3.1 ht, Or.inr F3⟩ all0 (by decide) (by decide)
theorem d11_0 : decode jdk_52_method_15_code 0 = .ok (.iload_n 1, 1) := by decide +kernel
theorem d11_1 : decode jdk_52_method_15_code 1 = .ok (.aload_n 0, 1) := by decide +kernel
theorem d11_2 : decode jdk_52_method_15_code 2 = .ok (.arraylength, 1) := by decide +kernel
theorem d11_3 : decode jdk_52_method_15_code 3 = .ok (.isub, 1) := by decide +kernel
theorem d11_4 : decode jdk_52_method_15_code 4 = .ok (.bipush 31, 2) := by decide +kernel
theorem d11_6 : decode jdk_52_method_15_code 6 = .ok (.iushr, 1) := by decide +kernel
theorem d11_7 : decode jdk_52_method_15_code 7 = .ok (.i2b, 1) := by decide +kernel
theorem d11_8 : decode jdk_52_method_15_code 8 = .ok (.ireturn, 1) := by decide +kernel
theorem pd9 : parseMethodDescriptor "([BI)B" = some ⟨[(.array .byte), .int], some .byte⟩ := by decide +kernel
theorem ef10 (m : MethodId) (a0 : Addr) (i1 : Int32) : entryFrame m #[(.ref a0), (.int i1)] 2 = mkF m 0 #[.val (.ref a0), .val (.int i1)] [] := by first | (simp [entryFrame, mkF, argsToLocals, Value.category]; done) | rfl
abbrev r_conCL0 : Room := { frames := 0, cells := 0, slots := 0, locals := 0 }
set_option maxRecDepth 65536 in
set_option maxHeartbeats 4000000 in
theorem conCL0 {l : Launch} {Z : State} {a0 : Array Value} {G1 : Int32} {G3 : Value} {h : Heap} {t : Addr} {k : ClassId} {n : Nat} {vs : List Value} {d : Value} (B : Base Z a0 G1 G3) (E0 : Ext Z.heap h) (F : Arv Z h t k .byte (Int32.ofNat n) vs d) : Con l false Z [] (⟨"java/lang/StringUTF16", "coderFromArrayLen", "([BI)B"⟩ : MethodName) jdk_52_method_15_code 2 (some .byte) [] r_conCL0 #[(.ref t), (.int (Int32.ofNat n))] h [] (PQ (some (.int (0 : Int32))) h) := by
  have hw := B.hw
  refine con_of_go pn2_StringUTF16 (fun m => ef10 m t (Int32.ofNat n)) E0 EW.none ?_
  refine go_iloadN (q := 1) d11_0 rfl rfl ?_
  refine go_aloadN (q := 2) d11_1 rfl rfl rfl ?_
  refine go_arraylength (q := 3) d11_2 rfl F ?_
  refine go_isub (q := 4) d11_3 rfl ?_
  refine go_bipush (q := 6) (z := (Int32.ofNat 31)) d11_4 rfl rfl ?_
  refine go_iushr (q := 7) d11_6 rfl ?_
  refine go_i2b (q := 8) d11_7 rfl ?_
  rw [Int32.sub_self, show (XT.ushr (0 : Int32) (Int32.ofNat 31)).toInt8.toInt32 = 0 by decide]
  exact go_ireturn (out := []) rfl (by simp) rfl d11_8 ⟨rfl, rfl, rfl⟩ all0 (by decide) (by decide)
abbrev r_conCL1 : Room := { frames := 0, cells := 0, slots := 0, locals := 0 }
set_option maxRecDepth 65536 in
set_option maxHeartbeats 4000000 in
theorem conCL1 {l : Launch} {Z : State} {a0 : Array Value} {G1 : Int32} {G3 : Value} {h : Heap} {t : Addr} {k : ClassId} {n : Nat} {vs : List Value} {d : Value} (B : Base Z a0 G1 G3) (E0 : Ext Z.heap h) (F : Arv Z h t k .byte (Int32.ofNat (2 * n)) vs d) (h1 : 1 ≤ n) (h4 : n ≤ 4) : Con l false Z [] (⟨"java/lang/StringUTF16", "coderFromArrayLen", "([BI)B"⟩ : MethodName) jdk_52_method_15_code 2 (some .byte) [] r_conCL1 #[(.ref t), (.int (Int32.ofNat n))] h [] (PQ (some (.int (1 : Int32))) h) := by
  have hw := B.hw
  refine con_of_go pn2_StringUTF16 (fun m => ef10 m t (Int32.ofNat n)) E0 EW.none ?_
  refine go_iloadN (q := 1) d11_0 rfl rfl ?_
  refine go_aloadN (q := 2) d11_1 rfl rfl rfl ?_
  refine go_arraylength (q := 3) d11_2 rfl F ?_
  refine go_isub (q := 4) d11_3 rfl ?_
  refine go_bipush (q := 6) (z := (Int32.ofNat 31)) d11_4 rfl rfl ?_
  refine go_iushr (q := 7) d11_6 rfl ?_
  refine go_i2b (q := 8) d11_7 rfl ?_
  have hn4 : n = 1 ∨ n = 2 ∨ n = 3 ∨ n = 4 := by omega
  have ee : (XT.ushr (Int32.ofNat n - Int32.ofNat (2 * n)) (Int32.ofNat 31)).toInt8.toInt32 = 1 := by rcases hn4 with rfl | rfl | rfl | rfl <;> decide
  rw [ee]
  exact go_ireturn (out := []) rfl (by simp) rfl d11_8 ⟨rfl, rfl, rfl⟩ all0 (by decide) (by decide)
/-- a String of these chars, Latin-1 or UTF-16 -/
def StrV (Z : State) (h : Heap) (x : Addr) (cs : List Nat) : Prop := Exa Z h x "java/lang/String" ∧ ∃ (t : Addr) (kb : ClassId), Fld Z h x "java/lang/String" "value" "[B" (.ref t) ∧ ((Fld Z h x "java/lang/String" "coder" "B" (.int 0) ∧ (∀ c ∈ cs, c ≤ 255) ∧ Arv Z h t kb .byte (Int32.ofNat cs.length) (cs.map lb) (.int 0)) ∨ (Fld Z h x "java/lang/String" "coder" "B" (.int 1) ∧ Arv Z h t kb .byte (Int32.ofNat (2 * cs.length)) (ub cs) (.int 0)))
theorem StrV.ext {Z : State} {h h' : Heap} {x : Addr} {cs : List Nat} (F : StrV Z h x cs) (E : Ext h h') : StrV Z h' x cs := by
  obtain ⟨A, t, kb, V, r⟩ := F
  exact ⟨A.ext E, t, kb, V.ext E, r.elim (fun r => Or.inl ⟨r.1.ext E, r.2.1, r.2.2.ext E⟩) (fun r => Or.inr ⟨r.1.ext E, r.2.ext E⟩)⟩
def QS (Z : State) (h : Heap) (x : Addr) (cs : List Nat) (v : Option Value) (h' : Heap) (out : List Addr) : Prop := v = none ∧ out = [] ∧ Keep h h' [x] ∧ StrV Z h' x cs
theorem d12_0 : decode jdk_42_method_149_code 0 = .ok (.aload_n 0, 1) := by decide +kernel
theorem d12_1 : decode jdk_42_method_149_code 1 = .ok (.invokespecial 1, 3) := by decide +kernel
theorem d12_4 : decode jdk_42_method_149_code 4 = .ok (.iload_n 3, 1) := by decide +kernel
theorem d12_5 : decode jdk_42_method_149_code 5 = .ok (.ifCond .ne 22, 3) := by decide +kernel
theorem d12_8 : decode jdk_42_method_149_code 8 = .ok (.aload_n 0, 1) := by decide +kernel
theorem d12_9 : decode jdk_42_method_149_code 9 = .ok (.ldc 7, 2) := by decide +kernel
theorem d12_11 : decode jdk_42_method_149_code 11 = .ok (.getfield 9, 3) := by decide +kernel
theorem d12_14 : decode jdk_42_method_149_code 14 = .ok (.putfield 9, 3) := by decide +kernel
theorem d12_17 : decode jdk_42_method_149_code 17 = .ok (.aload_n 0, 1) := by decide +kernel
theorem d12_18 : decode jdk_42_method_149_code 18 = .ok (.ldc 7, 2) := by decide +kernel
theorem d12_20 : decode jdk_42_method_149_code 20 = .ok (.getfield 15, 3) := by decide +kernel
theorem d12_23 : decode jdk_42_method_149_code 23 = .ok (.putfield 15, 3) := by decide +kernel
theorem d12_26 : decode jdk_42_method_149_code 26 = .ok (.return_, 1) := by decide +kernel
theorem d12_27 : decode jdk_42_method_149_code 27 = .ok (.getstatic 38, 3) := by decide +kernel
theorem d12_30 : decode jdk_42_method_149_code 30 = .ok (.ifCond .eq 28, 3) := by decide +kernel
theorem d12_33 : decode jdk_42_method_149_code 33 = .ok (.aload_n 1, 1) := by decide +kernel
theorem d12_34 : decode jdk_42_method_149_code 34 = .ok (.iload_n 2, 1) := by decide +kernel
theorem d12_35 : decode jdk_42_method_149_code 35 = .ok (.iload_n 3, 1) := by decide +kernel
theorem d12_36 : decode jdk_42_method_149_code 36 = .ok (.invokestatic 177, 3) := by decide +kernel
theorem d12_39 : decode jdk_42_method_149_code 39 = .ok (.astore 5, 2) := by decide +kernel
theorem d12_41 : decode jdk_42_method_149_code 41 = .ok (.aload_n 0, 1) := by decide +kernel
theorem d12_42 : decode jdk_42_method_149_code 42 = .ok (.aload 5, 2) := by decide +kernel
theorem d12_44 : decode jdk_42_method_149_code 44 = .ok (.iload_n 3, 1) := by decide +kernel
theorem d12_45 : decode jdk_42_method_149_code 45 = .ok (.invokestatic 47, 3) := by decide +kernel
theorem d12_48 : decode jdk_42_method_149_code 48 = .ok (.putfield 15, 3) := by decide +kernel
theorem d12_51 : decode jdk_42_method_149_code 51 = .ok (.aload_n 0, 1) := by decide +kernel
theorem d12_52 : decode jdk_42_method_149_code 52 = .ok (.aload 5, 2) := by decide +kernel
theorem d12_54 : decode jdk_42_method_149_code 54 = .ok (.putfield 9, 3) := by decide +kernel
theorem d12_57 : decode jdk_42_method_149_code 57 = .ok (.return_, 1) := by decide +kernel
theorem d12_58 : decode jdk_42_method_149_code 58 = .ok (.aload_n 0, 1) := by decide +kernel
theorem d12_59 : decode jdk_42_method_149_code 59 = .ok (.iconst 1, 1) := by decide +kernel
theorem d12_60 : decode jdk_42_method_149_code 60 = .ok (.putfield 15, 3) := by decide +kernel
theorem d12_63 : decode jdk_42_method_149_code 63 = .ok (.aload_n 0, 1) := by decide +kernel
theorem d12_64 : decode jdk_42_method_149_code 64 = .ok (.aload_n 1, 1) := by decide +kernel
theorem d12_65 : decode jdk_42_method_149_code 65 = .ok (.iload_n 2, 1) := by decide +kernel
theorem d12_66 : decode jdk_42_method_149_code 66 = .ok (.iload_n 3, 1) := by decide +kernel
theorem d12_67 : decode jdk_42_method_149_code 67 = .ok (.invokestatic 180, 3) := by decide +kernel
theorem d12_70 : decode jdk_42_method_149_code 70 = .ok (.putfield 9, 3) := by decide +kernel
theorem d12_73 : decode jdk_42_method_149_code 73 = .ok (.return_, 1) := by decide +kernel
theorem pn3_String : plainName "java/lang/String" = true := by first | (simp [plainName, overriddenIn]; done) | decide +kernel
theorem pd10 : parseMethodDescriptor "([CIILjava/lang/Void;)V" = some ⟨[(.array .char), .int, .int, (.object "java/lang/Void")], none⟩ := by decide +kernel
theorem ef11 (m : MethodId) (a0 : Addr) (a1 : Addr) (i2 : Int32) (i3 : Int32) : entryFrame m #[(.ref a0), (.ref a1), (.int i2), (.int i3), (.null)] 6 = mkF m 0 #[.val (.ref a0), .val (.ref a1), .val (.int i2), .val (.int i3), .val (.null), .unset] [] := by first | (simp [entryFrame, mkF, argsToLocals, Value.category]; done) | rfl
abbrev r_conS4 : Room := { frames := 4, cells := 2, slots := 12, locals := 57 }
set_option maxRecDepth 65536 in
set_option maxHeartbeats 4000000 in
theorem conS4 {l : Launch} {Z : State} {a0 : Array Value} {G1 : Int32} {G3 : Value} {h : Heap} {x b : Addr} {kC : ClassId} {cs : List Nat} {d v0 c0 : Value} (B : Base Z a0 G1 G3) (E0 : Ext Z.heap h) (h1n : 1 ≤ cs.length) (hn : cs.length ≤ 4) (hp : ∀ c ∈ cs, c < 65536) (K : Arv Z h b kC .char (Int32.ofNat cs.length) (cs.map iv) d) (A : Exa Z h x "java/lang/String") (V : Fld Z h x "java/lang/String" "value" "[B" v0) (Cf : Fld Z h x "java/lang/String" "coder" "B" c0) : Con l false Z [] (⟨"java/lang/String", "<init>", "([CIILjava/lang/Void;)V"⟩ : MethodName) jdk_42_method_149_code 6 none [] r_conS4 #[(.ref x), (.ref b), (.int (Int32.ofNat 0)), (.int (Int32.ofNat cs.length)), (.null)] h [x] (QS Z h x cs) := by
  have hw := B.hw
  refine con_of_go pn3_String (fun m => ef11 m x b (Int32.ofNat 0) (Int32.ofNat cs.length)) E0 EW.none ?_
  refine go_aloadN (q := 1) d12_0 rfl rfl rfl ?_
  refine go_initObj (q := 4) (W := 0) d12_1 rfl (hw _ (List.mem_of_getElem? (i := 17) rfl)) (hw _ (List.mem_of_getElem? (i := 18) rfl)) (hw _ (List.mem_of_getElem? (i := 19) rfl)) rfl (by decide) (Nat.le_of_ble_eq_true rfl) (by decide) ?_
  refine go_iloadN (q := 5) d12_4 rfl rfl ?_
  refine go_if (q := 27) (q2 := 8) d12_5 (by decide) (by decide) rfl (fun _ => ?_) (fun hc => absurd hc (by rw [if_ne _ (by omega), decide_eq_false_iff_not]; omega))
  refine go_getstatic (q := 30) d12_27 rfl (hw _ (List.mem_of_getElem? (i := 20) rfl)) Via.refl B.O2 ?_
  refine go_if (q := 58) (q2 := 33) d12_30 (by decide) (by decide) rfl (fun hc => absurd hc (by simpa [ifCond.holds] using B.P5)) (fun _ => ?_)
  refine go_aloadN (q := 34) d12_33 rfl rfl rfl ?_
  refine go_iloadN (q := 35) d12_34 rfl rfl ?_
  refine go_iloadN (q := 36) d12_35 rfl rfl ?_
  refine go_callS (q := 39) (y := (⟨"java/lang/StringUTF16", "compress", "([CII)[B"⟩ : MethodName)) (W := 0) (argsL := [(.ref b), (.int (Int32.ofNat 0)), (.int (Int32.ofNat cs.length))]) (rest := []) (ws := []) (P := fun v h' L => ∃ out, (QC3 Z h cs v h' out) ∧ Fr Z.heap.size L ∧ Ext Z.heap h' ∧ ∀ x ∈ out, Z.heap.size ≤ x ∧ x < h'.size) d12_36 rfl (hw _ (List.mem_of_getElem? (i := 21) rfl)) (hw _ (List.mem_of_getElem? (i := 22) rfl)) (hw _ (List.mem_of_getElem? (i := 23) rfl)) (hw _ (List.mem_of_getElem? (i := 24) rfl)) (by decide) (con_pay (conC3 B E0 hn hp K) all0 (hw _ (List.mem_of_getElem? (i := 24) rfl)) (hw _ (List.mem_of_getElem? (i := 23) rfl)) (by decide) (by decide)) rfl rfl (lenOf pd7 rfl) (Nat.le_of_ble_eq_true rfl) (by decide) (by decide) (fun v h' L hP => ?_) all0 (fun v h1 L hP => ?_)
  · obtain ⟨out, hq, N, -⟩ := hP; exact ⟨N, keep_ext hq.2.1 _⟩
  obtain ⟨out, hq, -, X, hO⟩ := hP
  obtain ⟨rfl, E1, t, kb, rfl, ht, hcc⟩ := hq
  refine ⟨[], all0, ?_⟩
  show Go l false Z [] _ _ _ _ _ _ _ _ _ _ _ 39 #[.val (.ref x), .val (.ref b), .val (.int (Int32.ofNat 0)), .val (.int (Int32.ofNat cs.length)), .val (.null), .unset] [(.ref t)]
  refine go_astore (q := 41) (l' := #[.val (.ref x), .val (.ref b), .val (.int (Int32.ofNat 0)), .val (.int (Int32.ofNat cs.length)), .val (.null), .val (.ref t)]) d12_39 rfl rfl rfl ?_
  refine go_aloadN (q := 42) d12_41 rfl rfl rfl ?_
  refine go_aload (q := 44) d12_42 rfl rfl rfl ?_
  refine go_iloadN (q := 45) d12_44 rfl rfl ?_
  have vc : RoadKit.slotOf Z "java/lang/String" "coder" "B" ≠ RoadKit.slotOf Z "java/lang/String" "value" "[B" := (slot_ne (C := "java/lang/String") (t := .byte) (t' := .array .byte) (Or.inr (hw _ (List.mem_of_getElem? (i := 33) rfl))) (Or.inr (hw _ (List.mem_of_getElem? (i := 35) rfl))) (by decide) (by decide +kernel) (by decide +kernel))
  have nt : t ≠ x := Ne.symm (Nat.ne_of_lt (Nat.lt_of_lt_of_le A.lt ht))
  rcases hcc with ⟨hsm, F⟩ | F
  · refine go_pS (q := 48) (y := (⟨"java/lang/StringUTF16", "coderFromArrayLen", "([BI)B"⟩ : MethodName)) (W := 1) (argsL := [(.ref t), (.int (Int32.ofNat cs.length))]) (rest := [(.ref x)]) (v := some (.int (0 : Int32))) d12_45 rfl (hw _ (List.mem_of_getElem? (i := 29) rfl)) (hw _ (List.mem_of_getElem? (i := 30) rfl)) (hw _ (List.mem_of_getElem? (i := 23) rfl)) (hw _ (List.mem_of_getElem? (i := 31) rfl)) (by decide) (conCL0 B X F) rfl rfl (lenOf pd9 rfl) (Nat.le_of_ble_eq_true rfl) (by decide) (by decide) rfl rfl (by decide) (by decide) ?_
    show Go l false Z [] _ _ _ _ _ _ _ _ _ _ _ 48 #[.val (.ref x), .val (.ref b), .val (.int (Int32.ofNat 0)), .val (.int (Int32.ofNat cs.length)), .val (.null), .val (.ref t)] [(.int (0 : Int32)), (.ref x)]
    refine go_putfield (q := 51) (ty := .byte) d12_48 rfl (hw _ (List.mem_of_getElem? (i := 32) rfl)) Via.refl (Cf.ext E1) (A.ext E1) (Or.inr ⟨(hw _ (List.mem_of_getElem? (i := 33) rfl)), rfl, rfl⟩) (hw _ (List.mem_of_getElem? (i := 7) rfl)) (by decide +kernel) rfl rfl (List.mem_cons_self ..) fun h2 W2 => ?_
    refine go_aloadN (q := 52) d12_51 rfl rfl rfl ?_
    refine go_aload (q := 54) d12_52 rfl rfl rfl ?_
    refine go_putfield (q := 57) (ty := .array .byte) d12_54 rfl (hw _ (List.mem_of_getElem? (i := 34) rfl)) Via.refl ((V.ext E1).other W2 (Or.inr vc.symm)) ((A.ext E1).wr W2) (Or.inr ⟨(hw _ (List.mem_of_getElem? (i := 35) rfl)), rfl, rfl⟩) (hw _ (List.mem_of_getElem? (i := 7) rfl)) (by decide +kernel) rfl rfl (List.mem_cons_self ..) fun h3 W3 => ?_
    exact go_return (out := []) rfl d12_57 ⟨rfl, rfl, ((keep_ext E1 [x]).wr W2 (Or.inl (List.mem_cons_self ..))).wr W3 (Or.inl (List.mem_cons_self ..)), ((A.ext E1).wr W2).wr W3, t, kb, ((V.ext E1).other W2 (Or.inr vc.symm)).same W3, Or.inl ⟨((Cf.ext E1).same W2).other W3 (Or.inr vc), hsm, (F.other W2 nt).other W3 nt⟩⟩ all0 (by decide) (by decide)
  · refine go_pS (q := 48) (y := (⟨"java/lang/StringUTF16", "coderFromArrayLen", "([BI)B"⟩ : MethodName)) (W := 1) (argsL := [(.ref t), (.int (Int32.ofNat cs.length))]) (rest := [(.ref x)]) (v := some (.int (1 : Int32))) d12_45 rfl (hw _ (List.mem_of_getElem? (i := 29) rfl)) (hw _ (List.mem_of_getElem? (i := 30) rfl)) (hw _ (List.mem_of_getElem? (i := 23) rfl)) (hw _ (List.mem_of_getElem? (i := 31) rfl)) (by decide) (conCL1 B X F h1n hn) rfl rfl (lenOf pd9 rfl) (Nat.le_of_ble_eq_true rfl) (by decide) (by decide) rfl rfl (by decide) (by decide) ?_
    show Go l false Z [] _ _ _ _ _ _ _ _ _ _ _ 48 #[.val (.ref x), .val (.ref b), .val (.int (Int32.ofNat 0)), .val (.int (Int32.ofNat cs.length)), .val (.null), .val (.ref t)] [(.int (1 : Int32)), (.ref x)]
    refine go_putfield (q := 51) (ty := .byte) d12_48 rfl (hw _ (List.mem_of_getElem? (i := 32) rfl)) Via.refl (Cf.ext E1) (A.ext E1) (Or.inr ⟨(hw _ (List.mem_of_getElem? (i := 33) rfl)), rfl, rfl⟩) (hw _ (List.mem_of_getElem? (i := 7) rfl)) (by decide +kernel) rfl rfl (List.mem_cons_self ..) fun h2 W2 => ?_
    refine go_aloadN (q := 52) d12_51 rfl rfl rfl ?_
    refine go_aload (q := 54) d12_52 rfl rfl rfl ?_
    refine go_putfield (q := 57) (ty := .array .byte) d12_54 rfl (hw _ (List.mem_of_getElem? (i := 34) rfl)) Via.refl ((V.ext E1).other W2 (Or.inr vc.symm)) ((A.ext E1).wr W2) (Or.inr ⟨(hw _ (List.mem_of_getElem? (i := 35) rfl)), rfl, rfl⟩) (hw _ (List.mem_of_getElem? (i := 7) rfl)) (by decide +kernel) rfl rfl (List.mem_cons_self ..) fun h3 W3 => ?_
    exact go_return (out := []) rfl d12_57 ⟨rfl, rfl, ((keep_ext E1 [x]).wr W2 (Or.inl (List.mem_cons_self ..))).wr W3 (Or.inl (List.mem_cons_self ..)), ((A.ext E1).wr W2).wr W3, t, kb, ((V.ext E1).other W2 (Or.inr vc.symm)).same W3, Or.inr ⟨((Cf.ext E1).same W2).other W3 (Or.inr vc), (F.other W2 nt).other W3 nt⟩⟩ all0 (by decide) (by decide)
theorem d13_0 : decode jdk_42_method_3_code 0 = .ok (.aload_n 0, 1) := by decide +kernel
theorem d13_1 : decode jdk_42_method_3_code 1 = .ok (.aload_n 1, 1) := by decide +kernel
theorem d13_2 : decode jdk_42_method_3_code 2 = .ok (.iconst 0, 1) := by decide +kernel
theorem d13_3 : decode jdk_42_method_3_code 3 = .ok (.aload_n 1, 1) := by decide +kernel
theorem d13_4 : decode jdk_42_method_3_code 4 = .ok (.arraylength, 1) := by decide +kernel
theorem d13_5 : decode jdk_42_method_3_code 5 = .ok (.aconst_null, 1) := by decide +kernel
theorem d13_6 : decode jdk_42_method_3_code 6 = .ok (.invokespecial 27, 3) := by decide +kernel
theorem d13_9 : decode jdk_42_method_3_code 9 = .ok (.return_, 1) := by decide +kernel
theorem pd11 : parseMethodDescriptor "([C)V" = some ⟨[(.array .char)], none⟩ := by decide +kernel
theorem ef12 (m : MethodId) (a0 : Addr) (a1 : Addr) : entryFrame m #[(.ref a0), (.ref a1)] 2 = mkF m 0 #[.val (.ref a0), .val (.ref a1)] [] := by first | (simp [entryFrame, mkF, argsToLocals, Value.category]; done) | rfl
abbrev r_conS1 : Room := { frames := 5, cells := 2, slots := 12, locals := 74 }
set_option maxRecDepth 65536 in
set_option maxHeartbeats 4000000 in
theorem conS1 {l : Launch} {Z : State} {a0 : Array Value} {G1 : Int32} {G3 : Value} {h : Heap} {x b : Addr} {kC : ClassId} {cs : List Nat} {d v0 c0 : Value} (B : Base Z a0 G1 G3) (E0 : Ext Z.heap h) (hmx : ∀ y ∈ [x], Z.heap.size ≤ y ∧ y < h.size) (h1n : 1 ≤ cs.length) (hn : cs.length ≤ 4) (hp : ∀ c ∈ cs, c < 65536) (K : Arv Z h b kC .char (Int32.ofNat cs.length) (cs.map iv) d) (A : Exa Z h x "java/lang/String") (V : Fld Z h x "java/lang/String" "value" "[B" v0) (Cf : Fld Z h x "java/lang/String" "coder" "B" c0) : Con l false Z [] (⟨"java/lang/String", "<init>", "([C)V"⟩ : MethodName) jdk_42_method_3_code 2 none [] r_conS1 #[(.ref x), (.ref b)] h [x] (QS Z h x cs) := by
  have hw := B.hw
  refine con_of_go pn3_String (fun m => ef12 m x b) E0 EW.none ?_
  refine go_aloadN (q := 1) d13_0 rfl rfl rfl ?_
  refine go_aloadN (q := 2) d13_1 rfl rfl rfl ?_
  refine go_iconst (q := 3) (z := (Int32.ofNat 0)) d13_2 rfl rfl ?_
  refine go_aloadN (q := 4) d13_3 rfl rfl rfl ?_
  refine go_arraylength (q := 5) d13_4 rfl K ?_
  refine go_null (q := 6) d13_5 rfl ?_
  refine go_callI (q := 9) (y := (⟨"java/lang/String", "<init>", "([CIILjava/lang/Void;)V"⟩ : MethodName)) (W := 0) (argsL := [(.ref b), (.int (Int32.ofNat 0)), (.int (Int32.ofNat cs.length)), (.null)]) (rest := []) (ws := [x]) (P := fun v h' L => ∃ out, (QS Z h x cs v h' out) ∧ Fr Z.heap.size L ∧ Ext Z.heap h' ∧ ∀ x ∈ out, Z.heap.size ≤ x ∧ x < h'.size) d13_6 rfl rfl (hw _ (List.mem_of_getElem? (i := 13) rfl)) (hw _ (List.mem_of_getElem? (i := 14) rfl)) (hw _ (List.mem_of_getElem? (i := 16) rfl)) (by decide) (con_pay (conS4 B E0 h1n hn hp K A V Cf) hmx (hw _ (List.mem_of_getElem? (i := 16) rfl)) (hw _ (List.mem_of_getElem? (i := 8) rfl)) (by decide) (by decide)) rfl rfl (lenOf pd10 rfl) (Nat.le_of_ble_eq_true rfl) (by decide) (by decide) (fun v h' L hP => ?_) (fun _ z => z) (fun v h1 L hP => ?_)
  · obtain ⟨out, hq, N, -⟩ := hP; exact ⟨N, hq.2.2.1⟩
  obtain ⟨out, hq, -, X, hO⟩ := hP
  obtain ⟨rfl, rfl, K1, S1⟩ := hq
  refine ⟨[], all0, ?_⟩
  show Go l false Z [] _ _ _ _ _ _ _ _ _ _ _ 9 #[.val (.ref x), .val (.ref b)] []
  exact go_return (out := []) rfl d13_9 ⟨rfl, rfl, K1, S1⟩ all0 (by decide) (by decide)
/-- a String of which only coder and length are known -/
def WStr (Z : State) (h : Heap) (x t : Addr) (kb : ClassId) (cod : Int32) (N : Nat) : Prop := Exa Z h x "java/lang/String" ∧ Fld Z h x "java/lang/String" "value" "[B" (.ref t) ∧ Fld Z h x "java/lang/String" "coder" "B" (.int cod) ∧ Byt Z h t kb N
theorem WStr.ext {Z : State} {h h' : Heap} {x t : Addr} {kb : ClassId} {cod : Int32} {N : Nat} (F : WStr Z h x t kb cod N) (E : Ext h h') : WStr Z h' x t kb cod N := ⟨F.1.ext E, F.2.1.ext E, F.2.2.1.ext E, F.2.2.2.ext E⟩
theorem WStr.keep {Z : State} {h h' : Heap} {x t : Addr} {kb : ClassId} {cod : Int32} {N : Nat} {ws : List Addr} (F : WStr Z h x t kb cod N) (K : Keep h h' ws) (q1 : x ∉ ws) (q2 : t ∉ ws) : WStr Z h' x t kb cod N := ⟨F.1.keep K, F.2.1.keep K q1, F.2.2.1.keep K q1, F.2.2.2.keep K q2⟩
def QT1 (Z : State) (h : Heap) (N : Nat) (v : Option Value) (h' : Heap) (out : List Addr) : Prop := out = [] ∧ ∃ (t : Addr) (kb : ClassId), v = some (.ref t) ∧ h.size ≤ t ∧ Ext h h' ∧ Byt Z h' t kb N
theorem d14_0 : decode jdk_43_method_46_code 0 = .ok (.iconst 1, 1) := by decide +kernel
theorem d14_1 : decode jdk_43_method_46_code 1 = .ok (.newarray .byte, 2) := by decide +kernel
theorem d14_3 : decode jdk_43_method_46_code 3 = .ok (.dup, 1) := by decide +kernel
theorem d14_4 : decode jdk_43_method_46_code 4 = .ok (.iconst 0, 1) := by decide +kernel
theorem d14_5 : decode jdk_43_method_46_code 5 = .ok (.iload_n 0, 1) := by decide +kernel
theorem d14_6 : decode jdk_43_method_46_code 6 = .ok (.i2b, 1) := by decide +kernel
theorem d14_7 : decode jdk_43_method_46_code 7 = .ok (.bastore, 1) := by decide +kernel
theorem d14_8 : decode jdk_43_method_46_code 8 = .ok (.areturn, 1) := by decide +kernel
theorem pd12 : parseMethodDescriptor "(C)[B" = some ⟨[.char], some (.array .byte)⟩ := by decide +kernel
theorem ef13 (m : MethodId) (i0 : Int32) : entryFrame m #[(.int i0)] 1 = mkF m 0 #[.val (.int i0)] [] := by first | (simp [entryFrame, mkF, argsToLocals, Value.category]; done) | rfl
abbrev r_conT1 : Room := { frames := 0, cells := 1, slots := 1, locals := 0 }
set_option maxRecDepth 65536 in
set_option maxHeartbeats 4000000 in
theorem conT1 {l : Launch} {Z : State} {a0 : Array Value} {G1 : Int32} {G3 : Value} {h : Heap} {x : Int32} (B : Base Z a0 G1 G3) (E0 : Ext Z.heap h)  : Con l false Z [] (⟨"java/lang/StringLatin1", "toBytes", "(C)[B"⟩ : MethodName) jdk_43_method_46_code 1 (some (.array .byte)) [] r_conT1 #[(.int x)] h [] (QT1 Z h 1) := by
  have hw := B.hw
  refine con_of_go pn1_StringLatin1 (fun m => ef13 m x) E0 EW.none ?_
  refine go_iconst (q := 1) (z := (Int32.ofNat 1)) d14_0 rfl rfl ?_
  refine go_newarray (q := 3) (cap := 1) (ad := "[B") d14_1 rfl (hw _ (List.mem_of_getElem? (i := 25) rfl)) (by decide) (by decide) (by decide) (by decide) (by decide) rfl fun h1 a k1 e1 E1 F1 B1 => ?_
  refine go_dup (q := 4) d14_3 rfl rfl ?_
  refine go_iconst (q := 5) (z := (Int32.ofNat 0)) d14_4 rfl rfl ?_
  refine go_iloadN (q := 6) d14_5 rfl rfl ?_
  refine go_i2b (q := 7) d14_6 rfl ?_
  obtain ⟨vs, el, Fv⟩ := Byt.new (N := 1) F1
  refine go_bastore (q := 8) (i := 0) d14_7 rfl Fv (by decide) (by decide) (by omega) (List.mem_cons_self ..) fun h2 K2 F2 => ?_
  exact go_areturn (out := []) rfl rfl rfl rfl d14_8 ⟨rfl, a, k1, rfl, Nat.le_of_eq e1.symm, ext_keep E1 K2 (allS (Nat.le_of_eq e1.symm) all0), _, by rw [List.length_set]; exact el, F2⟩ all0 (by decide) (by decide)
theorem d15_0 : decode jdk_52_method_24_code 0 = .ok (.iconst 2, 1) := by decide +kernel
theorem d15_1 : decode jdk_52_method_24_code 1 = .ok (.newarray .byte, 2) := by decide +kernel
theorem d15_3 : decode jdk_52_method_24_code 3 = .ok (.astore_n 1, 1) := by decide +kernel
theorem d15_4 : decode jdk_52_method_24_code 4 = .ok (.aload_n 1, 1) := by decide +kernel
theorem d15_5 : decode jdk_52_method_24_code 5 = .ok (.iconst 0, 1) := by decide +kernel
theorem d15_6 : decode jdk_52_method_24_code 6 = .ok (.iload_n 0, 1) := by decide +kernel
theorem d15_7 : decode jdk_52_method_24_code 7 = .ok (.invokestatic 111, 3) := by decide +kernel
theorem d15_10 : decode jdk_52_method_24_code 10 = .ok (.aload_n 1, 1) := by decide +kernel
theorem d15_11 : decode jdk_52_method_24_code 11 = .ok (.areturn, 1) := by decide +kernel
theorem ef14 (m : MethodId) (i0 : Int32) : entryFrame m #[(.int i0)] 2 = mkF m 0 #[.val (.int i0), .unset] [] := by first | (simp [entryFrame, mkF, argsToLocals, Value.category]; done) | rfl
abbrev r_conT2 : Room := { frames := 1, cells := 1, slots := 2, locals := 14 }
set_option maxRecDepth 65536 in
set_option maxHeartbeats 4000000 in
theorem conT2 {l : Launch} {Z : State} {a0 : Array Value} {G1 : Int32} {G3 : Value} {h : Heap} {x : Int32} (B : Base Z a0 G1 G3) (E0 : Ext Z.heap h)  : Con l false Z [] (⟨"java/lang/StringUTF16", "toBytes", "(C)[B"⟩ : MethodName) jdk_52_method_24_code 2 (some (.array .byte)) [] r_conT2 #[(.int x)] h [] (QT1 Z h 2) := by
  have hw := B.hw
  refine con_of_go pn2_StringUTF16 (fun m => ef14 m x) E0 EW.none ?_
  refine go_iconst (q := 1) (z := (Int32.ofNat 2)) d15_0 rfl rfl ?_
  refine go_newarray (q := 3) (cap := 2) (ad := "[B") d15_1 rfl (hw _ (List.mem_of_getElem? (i := 25) rfl)) (by decide) (by decide) (by decide) (by decide) (by decide) rfl fun h1 a k1 e1 E1 F1 B1 => ?_
  refine go_astoreN (q := 4) (l' := #[.val (.int x), .val (.ref a)]) d15_3 rfl rfl rfl ?_
  refine go_aloadN (q := 5) d15_4 rfl rfl rfl ?_
  refine go_iconst (q := 6) (z := (Int32.ofNat 0)) d15_5 rfl rfl ?_
  refine go_iloadN (q := 7) d15_6 rfl rfl ?_
  obtain ⟨vs, el, Fv⟩ := Byt.new (N := 2) F1
  refine go_mine fun hM => ?_
  refine go_callS (q := 10) (y := (⟨"java/lang/StringUTF16", "putChar", "([BII)V"⟩ : MethodName)) (W := 0) (argsL := [(.ref a), (.int (Int32.ofNat 0)), (.int x)]) (rest := []) (ws := [a]) (P := fun v h' L => ∃ out, (QPC Z h1 a k1 2 0 x vs v h' out) ∧ Fr Z.heap.size L ∧ Ext Z.heap h' ∧ ∀ x ∈ out, Z.heap.size ≤ x ∧ x < h'.size) d15_7 rfl (hw _ (List.mem_of_getElem? (i := 217) rfl)) (hw _ (List.mem_of_getElem? (i := 218) rfl)) (hw _ (List.mem_of_getElem? (i := 23) rfl)) (hw _ (List.mem_of_getElem? (i := 219) rfl)) (by decide) (con_pay (conPC B (ext_tr E0 E1) (i := 0) Fv el (by decide) (by decide)) hM (hw _ (List.mem_of_getElem? (i := 219) rfl)) (hw _ (List.mem_of_getElem? (i := 23) rfl)) (by decide) (by decide)) rfl rfl (lenOf pd5 rfl) (Nat.le_of_ble_eq_true rfl) (by decide) (by decide) (fun v h' L hP => ?_) (fun _ z => z) (fun v h2 L hP => ?_)
  · obtain ⟨out, hq, N, -⟩ := hP; exact ⟨N, hq.2.2.1⟩
  obtain ⟨out, hq, -, X, hO⟩ := hP
  obtain ⟨rfl, rfl, K2, F2⟩ := hq
  refine ⟨[], all0, ?_⟩
  show Go l false Z [] _ _ _ _ _ _ _ _ _ _ _ 10 #[.val (.int x), .val (.ref a)] []
  refine go_aloadN (q := 11) d15_10 rfl rfl rfl ?_
  exact go_areturn (out := []) rfl rfl rfl rfl d15_11 ⟨rfl, a, k1, rfl, Nat.le_of_eq e1.symm, ext_keep E1 K2 (allS (Nat.le_of_eq e1.symm) all0), _, by rw [List.length_set, List.length_set]; exact el, F2⟩ all0 (by decide) (by decide)
def QBB (Z : State) (h : Heap) (x t : Addr) (cod : Int32) (v : Option Value) (h' : Heap) (out : List Addr) : Prop := v = none ∧ out = [] ∧ Keep h h' [x] ∧ Exa Z h' x "java/lang/String" ∧ Fld Z h' x "java/lang/String" "value" "[B" (.ref t) ∧ Fld Z h' x "java/lang/String" "coder" "B" (.int cod)
theorem d16_0 : decode jdk_42_method_151_code 0 = .ok (.aload_n 0, 1) := by decide +kernel
theorem d16_1 : decode jdk_42_method_151_code 1 = .ok (.invokespecial 1, 3) := by decide +kernel
theorem d16_4 : decode jdk_42_method_151_code 4 = .ok (.aload_n 0, 1) := by decide +kernel
theorem d16_5 : decode jdk_42_method_151_code 5 = .ok (.aload_n 1, 1) := by decide +kernel
theorem d16_6 : decode jdk_42_method_151_code 6 = .ok (.putfield 9, 3) := by decide +kernel
theorem d16_9 : decode jdk_42_method_151_code 9 = .ok (.aload_n 0, 1) := by decide +kernel
theorem d16_10 : decode jdk_42_method_151_code 10 = .ok (.iload_n 2, 1) := by decide +kernel
theorem d16_11 : decode jdk_42_method_151_code 11 = .ok (.putfield 15, 3) := by decide +kernel
theorem d16_14 : decode jdk_42_method_151_code 14 = .ok (.return_, 1) := by decide +kernel
theorem pd13 : parseMethodDescriptor "([BB)V" = some ⟨[(.array .byte), .byte], none⟩ := by decide +kernel
theorem ef15 (m : MethodId) (a0 : Addr) (a1 : Addr) (i2 : Int32) : entryFrame m #[(.ref a0), (.ref a1), (.int i2)] 3 = mkF m 0 #[.val (.ref a0), .val (.ref a1), .val (.int i2)] [] := by first | (simp [entryFrame, mkF, argsToLocals, Value.category]; done) | rfl
abbrev r_conBB0 : Room := { frames := 1, cells := 0, slots := 0, locals := 12 }
set_option maxRecDepth 65536 in
set_option maxHeartbeats 4000000 in
theorem conBB0 {l : Launch} {Z : State} {a0 : Array Value} {G1 : Int32} {G3 : Value} {h : Heap} {x t : Addr} {v0 c0 : Value} (B : Base Z a0 G1 G3) (E0 : Ext Z.heap h) (A : Exa Z h x "java/lang/String") (V : Fld Z h x "java/lang/String" "value" "[B" v0) (Cf : Fld Z h x "java/lang/String" "coder" "B" c0) : Con l false Z [] (⟨"java/lang/String", "<init>", "([BB)V"⟩ : MethodName) jdk_42_method_151_code 3 none [] r_conBB0 #[(.ref x), (.ref t), (.int (Int32.ofNat 0))] h [x] (QBB Z h x t (Int32.ofNat 0)) := by
  have hw := B.hw
  refine con_of_go pn3_String (fun m => ef15 m x t (Int32.ofNat 0)) E0 EW.none ?_
  refine go_aloadN (q := 1) d16_0 rfl rfl rfl ?_
  refine go_initObj (q := 4) (W := 0) d16_1 rfl (hw _ (List.mem_of_getElem? (i := 17) rfl)) (hw _ (List.mem_of_getElem? (i := 18) rfl)) (hw _ (List.mem_of_getElem? (i := 19) rfl)) rfl (by decide) (Nat.le_of_ble_eq_true rfl) (by decide) ?_
  refine go_aloadN (q := 5) d16_4 rfl rfl rfl ?_
  refine go_aloadN (q := 6) d16_5 rfl rfl rfl ?_
  have vc : RoadKit.slotOf Z "java/lang/String" "coder" "B" ≠ RoadKit.slotOf Z "java/lang/String" "value" "[B" := (slot_ne (C := "java/lang/String") (t := .byte) (t' := .array .byte) (Or.inr (hw _ (List.mem_of_getElem? (i := 33) rfl))) (Or.inr (hw _ (List.mem_of_getElem? (i := 35) rfl))) (by decide) (by decide +kernel) (by decide +kernel))
  refine go_putfield (q := 9) (ty := .array .byte) d16_6 rfl (hw _ (List.mem_of_getElem? (i := 34) rfl)) Via.refl V A (Or.inr ⟨(hw _ (List.mem_of_getElem? (i := 35) rfl)), rfl, rfl⟩) (hw _ (List.mem_of_getElem? (i := 7) rfl)) (by decide +kernel) rfl rfl (List.mem_cons_self ..) fun h1 W1 => ?_
  refine go_aloadN (q := 10) d16_9 rfl rfl rfl ?_
  refine go_iloadN (q := 11) d16_10 rfl rfl ?_
  refine go_putfield (q := 14) (ty := .byte) d16_11 rfl (hw _ (List.mem_of_getElem? (i := 32) rfl)) Via.refl (Cf.other W1 (Or.inr vc)) (A.wr W1) (Or.inr ⟨(hw _ (List.mem_of_getElem? (i := 33) rfl)), rfl, rfl⟩) (hw _ (List.mem_of_getElem? (i := 7) rfl)) (by decide +kernel) rfl rfl (List.mem_cons_self ..) fun h2 W2 => ?_
  exact go_return (out := []) rfl d16_14 ⟨rfl, rfl, ((Keep.refl h [x]).wr W1 (Or.inl (List.mem_cons_self ..))).wr W2 (Or.inl (List.mem_cons_self ..)), (A.wr W1).wr W2, (V.same W1).other W2 (Or.inr vc.symm), (Cf.other W1 (Or.inr vc)).same W2⟩ all0 (by decide) (by decide)
abbrev r_conBB1 : Room := { frames := 1, cells := 0, slots := 0, locals := 12 }
set_option maxRecDepth 65536 in
set_option maxHeartbeats 4000000 in
theorem conBB1 {l : Launch} {Z : State} {a0 : Array Value} {G1 : Int32} {G3 : Value} {h : Heap} {x t : Addr} {v0 c0 : Value} (B : Base Z a0 G1 G3) (E0 : Ext Z.heap h) (A : Exa Z h x "java/lang/String") (V : Fld Z h x "java/lang/String" "value" "[B" v0) (Cf : Fld Z h x "java/lang/String" "coder" "B" c0) : Con l false Z [] (⟨"java/lang/String", "<init>", "([BB)V"⟩ : MethodName) jdk_42_method_151_code 3 none [] r_conBB1 #[(.ref x), (.ref t), (.int (Int32.ofNat 1))] h [x] (QBB Z h x t (Int32.ofNat 1)) := by
  have hw := B.hw
  refine con_of_go pn3_String (fun m => ef15 m x t (Int32.ofNat 1)) E0 EW.none ?_
  refine go_aloadN (q := 1) d16_0 rfl rfl rfl ?_
  refine go_initObj (q := 4) (W := 0) d16_1 rfl (hw _ (List.mem_of_getElem? (i := 17) rfl)) (hw _ (List.mem_of_getElem? (i := 18) rfl)) (hw _ (List.mem_of_getElem? (i := 19) rfl)) rfl (by decide) (Nat.le_of_ble_eq_true rfl) (by decide) ?_
  refine go_aloadN (q := 5) d16_4 rfl rfl rfl ?_
  refine go_aloadN (q := 6) d16_5 rfl rfl rfl ?_
  have vc : RoadKit.slotOf Z "java/lang/String" "coder" "B" ≠ RoadKit.slotOf Z "java/lang/String" "value" "[B" := (slot_ne (C := "java/lang/String") (t := .byte) (t' := .array .byte) (Or.inr (hw _ (List.mem_of_getElem? (i := 33) rfl))) (Or.inr (hw _ (List.mem_of_getElem? (i := 35) rfl))) (by decide) (by decide +kernel) (by decide +kernel))
  refine go_putfield (q := 9) (ty := .array .byte) d16_6 rfl (hw _ (List.mem_of_getElem? (i := 34) rfl)) Via.refl V A (Or.inr ⟨(hw _ (List.mem_of_getElem? (i := 35) rfl)), rfl, rfl⟩) (hw _ (List.mem_of_getElem? (i := 7) rfl)) (by decide +kernel) rfl rfl (List.mem_cons_self ..) fun h1 W1 => ?_
  refine go_aloadN (q := 10) d16_9 rfl rfl rfl ?_
  refine go_iloadN (q := 11) d16_10 rfl rfl ?_
  refine go_putfield (q := 14) (ty := .byte) d16_11 rfl (hw _ (List.mem_of_getElem? (i := 32) rfl)) Via.refl (Cf.other W1 (Or.inr vc)) (A.wr W1) (Or.inr ⟨(hw _ (List.mem_of_getElem? (i := 33) rfl)), rfl, rfl⟩) (hw _ (List.mem_of_getElem? (i := 7) rfl)) (by decide +kernel) rfl rfl (List.mem_cons_self ..) fun h2 W2 => ?_
  exact go_return (out := []) rfl d16_14 ⟨rfl, rfl, ((Keep.refl h [x]).wr W1 (Or.inl (List.mem_cons_self ..))).wr W2 (Or.inl (List.mem_cons_self ..)), (A.wr W1).wr W2, (V.same W1).other W2 (Or.inr vc.symm), (Cf.other W1 (Or.inr vc)).same W2⟩ all0 (by decide) (by decide)
def QVO (Z : State) (h : Heap) (v : Option Value) (h' : Heap) (out : List Addr) : Prop := out = [] ∧ Ext h h' ∧ ∃ (x t : Addr) (kb : ClassId), v = some (.ref x) ∧ (WStr Z h' x t kb (Int32.ofNat 0) 1 ∨ WStr Z h' x t kb (Int32.ofNat 1) 2)
theorem d17_0 : decode jdk_42_method_139_code 0 = .ok (.getstatic 38, 3) := by decide +kernel
theorem d17_3 : decode jdk_42_method_139_code 3 = .ok (.ifCond .eq 23, 3) := by decide +kernel
theorem d17_6 : decode jdk_42_method_139_code 6 = .ok (.iload_n 0, 1) := by decide +kernel
theorem d17_7 : decode jdk_42_method_139_code 7 = .ok (.invokestatic 1015, 3) := by decide +kernel
theorem d17_10 : decode jdk_42_method_139_code 10 = .ok (.ifCond .eq 16, 3) := by decide +kernel
theorem d17_13 : decode jdk_42_method_139_code 13 = .ok (.new 10, 3) := by decide +kernel
theorem d17_16 : decode jdk_42_method_139_code 16 = .ok (.dup, 1) := by decide +kernel
theorem d17_17 : decode jdk_42_method_139_code 17 = .ok (.iload_n 0, 1) := by decide +kernel
theorem d17_18 : decode jdk_42_method_139_code 18 = .ok (.invokestatic 1018, 3) := by decide +kernel
theorem d17_21 : decode jdk_42_method_139_code 21 = .ok (.iconst 0, 1) := by decide +kernel
theorem d17_22 : decode jdk_42_method_139_code 22 = .ok (.invokespecial 209, 3) := by decide +kernel
theorem d17_25 : decode jdk_42_method_139_code 25 = .ok (.areturn, 1) := by decide +kernel
theorem d17_26 : decode jdk_42_method_139_code 26 = .ok (.new 10, 3) := by decide +kernel
theorem d17_29 : decode jdk_42_method_139_code 29 = .ok (.dup, 1) := by decide +kernel
theorem d17_30 : decode jdk_42_method_139_code 30 = .ok (.iload_n 0, 1) := by decide +kernel
theorem d17_31 : decode jdk_42_method_139_code 31 = .ok (.invokestatic 1021, 3) := by decide +kernel
theorem d17_34 : decode jdk_42_method_139_code 34 = .ok (.iconst 1, 1) := by decide +kernel
theorem d17_35 : decode jdk_42_method_139_code 35 = .ok (.invokespecial 209, 3) := by decide +kernel
theorem d17_38 : decode jdk_42_method_139_code 38 = .ok (.areturn, 1) := by decide +kernel
theorem pd14 : parseMethodDescriptor "(C)Ljava/lang/String;" = some ⟨[.char], some (.object "java/lang/String")⟩ := by decide +kernel
theorem ef16 (m : MethodId) (i0 : Int32) : entryFrame m #[(.int i0)] 1 = mkF m 0 #[.val (.int i0)] [] := by first | (simp [entryFrame, mkF, argsToLocals, Value.category]; done) | rfl
abbrev r_conVO : Room := { frames := 2, cells := 2, slots := 6, locals := 29 }
set_option maxRecDepth 65536 in
set_option maxHeartbeats 4000000 in
theorem conVO {l : Launch} {Z : State} {a0 : Array Value} {G1 : Int32} {G3 : Value} {h : Heap} {n : Nat} (B : Base Z a0 G1 G3) (E0 : Ext Z.heap h) (h16 : n < 65536) : Con l false Z [] (⟨"java/lang/String", "valueOf", "(C)Ljava/lang/String;"⟩ : MethodName) jdk_42_method_139_code 1 (some (.object "java/lang/String")) [] r_conVO #[(.int (Int32.ofNat n))] h [] (QVO Z h) := by
  have hw := B.hw
  refine con_of_go pn3_String (fun m => ef16 m (Int32.ofNat n)) E0 EW.none ?_
  refine go_getstatic (q := 3) d17_0 rfl (hw _ (List.mem_of_getElem? (i := 20) rfl)) Via.refl B.O2 ?_
  refine go_if (q := 26) (q2 := 6) d17_3 (by decide) (by decide) rfl (fun hc => absurd hc (by simpa [ifCond.holds] using B.P5)) (fun _ => ?_)
  refine go_iloadN (q := 7) d17_6 rfl rfl ?_
  by_cases hn : n ≤ 255
  · refine go_pS (q := 10) (y := (⟨"java/lang/StringLatin1", "canEncode", "(C)Z"⟩ : MethodName)) (W := 0) (argsL := [(.int (Int32.ofNat n))]) (rest := []) (v := some (.int (1 : Int32))) d17_7 rfl (hw _ (List.mem_of_getElem? (i := 39) rfl)) (hw _ (List.mem_of_getElem? (i := 40) rfl)) (hw _ (List.mem_of_getElem? (i := 41) rfl)) (hw _ (List.mem_of_getElem? (i := 42) rfl)) (by decide) (conCEy B E0 hn h16) rfl rfl (lenOf pd1 rfl) (Nat.le_of_ble_eq_true rfl) (by decide) (by decide) rfl rfl (by decide) (by decide) ?_
    show Go l false Z [] _ _ _ _ _ _ _ _ _ _ _ 10 #[.val (.int (Int32.ofNat n))] [(.int (1 : Int32))]
    refine go_if (q := 26) (q2 := 13) d17_10 (by decide) (by decide) rfl (fun hc => absurd hc (by decide)) (fun _ => ?_)
    refine go_new (q := 16) d17_13 rfl (hw _ (List.mem_of_getElem? (i := 43) rfl)) (hw _ (List.mem_of_getElem? (i := 7) rfl)) (hw _ (List.mem_of_getElem? (i := 8) rfl)) (by decide) (by decide) fun h1 x e1 E1 A1 D1 => ?_
    refine go_dup (q := 17) d17_16 rfl rfl ?_
    refine go_iloadN (q := 18) d17_17 rfl rfl ?_
    refine go_callS (q := 21) (y := (⟨"java/lang/StringLatin1", "toBytes", "(C)[B"⟩ : MethodName)) (W := 2) (argsL := [(.int (Int32.ofNat n))]) (rest := [(.ref x), (.ref x)]) (ws := []) (P := fun v h' L => ∃ out, (QT1 Z h1 1 v h' out) ∧ Fr Z.heap.size L ∧ Ext Z.heap h' ∧ ∀ x ∈ out, Z.heap.size ≤ x ∧ x < h'.size) d17_18 rfl (hw _ (List.mem_of_getElem? (i := 44) rfl)) (hw _ (List.mem_of_getElem? (i := 45) rfl)) (hw _ (List.mem_of_getElem? (i := 41) rfl)) (hw _ (List.mem_of_getElem? (i := 46) rfl)) (by decide) (con_pay (conT1 B (ext_tr E0 E1)) all0 (hw _ (List.mem_of_getElem? (i := 46) rfl)) (hw _ (List.mem_of_getElem? (i := 41) rfl)) (by decide) (by decide)) rfl rfl (lenOf pd12 rfl) (Nat.le_of_ble_eq_true rfl) (by decide) (by decide) (fun v h' L hP => ?_) all0 (fun v h2 L hP => ?_)
    · obtain ⟨out, hq, N, -⟩ := hP; exact ⟨N, (by obtain ⟨_, _, _, _, _, E, _⟩ := hq; exact keep_ext E _)⟩
    obtain ⟨out, hq, -, X, hO⟩ := hP
    obtain ⟨rfl, t, kb, rfl, ht, E2, F2⟩ := hq
    refine ⟨[], all0, ?_⟩
    show Go l false Z [] _ _ _ _ _ _ _ _ _ _ _ 21 #[.val (.int (Int32.ofNat n))] [(.ref t), (.ref x), (.ref x)]
    refine go_iconst (q := 22) (z := (Int32.ofNat 0)) d17_21 rfl rfl ?_
    refine go_mine fun hM => ?_
    refine go_callI (q := 25) (y := (⟨"java/lang/String", "<init>", "([BB)V"⟩ : MethodName)) (W := 1) (argsL := [(.ref t), (.int (Int32.ofNat 0))]) (rest := [(.ref x)]) (ws := [x]) (P := fun v h' L => ∃ out, (QBB Z h2 x t (Int32.ofNat 0) v h' out) ∧ Fr Z.heap.size L ∧ Ext Z.heap h' ∧ ∀ x ∈ out, Z.heap.size ≤ x ∧ x < h'.size) d17_22 rfl rfl (hw _ (List.mem_of_getElem? (i := 47) rfl)) (hw _ (List.mem_of_getElem? (i := 48) rfl)) (hw _ (List.mem_of_getElem? (i := 49) rfl)) (by decide) (con_pay (conBB0 B X (A1.ext E2) ((D1 (Or.inr (hw _ (List.mem_of_getElem? (i := 35) rfl))) (ty := .array .byte) (by decide +kernel)).ext E2) ((D1 (Or.inr (hw _ (List.mem_of_getElem? (i := 33) rfl))) (ty := .byte) (by decide +kernel)).ext E2)) hM (hw _ (List.mem_of_getElem? (i := 49) rfl)) (hw _ (List.mem_of_getElem? (i := 8) rfl)) (by decide) (by decide)) rfl rfl (lenOf pd13 rfl) (Nat.le_of_ble_eq_true rfl) (by decide) (by decide) (fun v h' L hP => ?_) (fun _ z => z) (fun v h3 L hP => ?_)
    · obtain ⟨out, hq, N, -⟩ := hP; exact ⟨N, hq.2.2.1⟩
    obtain ⟨out, hq, -, X, hO⟩ := hP
    obtain ⟨rfl, rfl, K3, A3, V3, C3⟩ := hq
    refine ⟨[], all0, ?_⟩
    show Go l false Z [] _ _ _ _ _ _ _ _ _ _ _ 25 #[.val (.int (Int32.ofNat n))] [(.ref x)]
    have nt : t ≠ x := Ne.symm (Nat.ne_of_lt (Nat.lt_of_lt_of_le A1.lt ht))
    exact go_areturn (out := []) rfl rfl rfl rfl d17_25 ⟨rfl, ext_keep (ext_tr E1 E2) K3 (allS (Nat.le_of_eq e1.symm) all0), x, t, kb, rfl, Or.inl ⟨A3, V3, C3, F2.keep K3 (ninS nt nin0)⟩⟩ all0 (by decide) (by decide)
  · refine go_pS (q := 10) (y := (⟨"java/lang/StringLatin1", "canEncode", "(C)Z"⟩ : MethodName)) (W := 0) (argsL := [(.int (Int32.ofNat n))]) (rest := []) (v := some (.int (0 : Int32))) d17_7 rfl (hw _ (List.mem_of_getElem? (i := 39) rfl)) (hw _ (List.mem_of_getElem? (i := 40) rfl)) (hw _ (List.mem_of_getElem? (i := 41) rfl)) (hw _ (List.mem_of_getElem? (i := 42) rfl)) (by decide) (conCEn B E0 (Nat.lt_of_not_le hn) h16) rfl rfl (lenOf pd1 rfl) (Nat.le_of_ble_eq_true rfl) (by decide) (by decide) rfl rfl (by decide) (by decide) ?_
    show Go l false Z [] _ _ _ _ _ _ _ _ _ _ _ 10 #[.val (.int (Int32.ofNat n))] [(.int (0 : Int32))]
    refine go_if (q := 26) (q2 := 13) d17_10 (by decide) (by decide) rfl (fun _ => ?_) (fun hc => absurd hc (by decide))
    refine go_new (q := 29) d17_26 rfl (hw _ (List.mem_of_getElem? (i := 43) rfl)) (hw _ (List.mem_of_getElem? (i := 7) rfl)) (hw _ (List.mem_of_getElem? (i := 8) rfl)) (by decide) (by decide) fun h1 x e1 E1 A1 D1 => ?_
    refine go_dup (q := 30) d17_29 rfl rfl ?_
    refine go_iloadN (q := 31) d17_30 rfl rfl ?_
    refine go_callS (q := 34) (y := (⟨"java/lang/StringUTF16", "toBytes", "(C)[B"⟩ : MethodName)) (W := 2) (argsL := [(.int (Int32.ofNat n))]) (rest := [(.ref x), (.ref x)]) (ws := []) (P := fun v h' L => ∃ out, (QT1 Z h1 2 v h' out) ∧ Fr Z.heap.size L ∧ Ext Z.heap h' ∧ ∀ x ∈ out, Z.heap.size ≤ x ∧ x < h'.size) d17_31 rfl (hw _ (List.mem_of_getElem? (i := 226) rfl)) (hw _ (List.mem_of_getElem? (i := 227) rfl)) (hw _ (List.mem_of_getElem? (i := 23) rfl)) (hw _ (List.mem_of_getElem? (i := 228) rfl)) (by decide) (con_pay (conT2 B (ext_tr E0 E1)) all0 (hw _ (List.mem_of_getElem? (i := 228) rfl)) (hw _ (List.mem_of_getElem? (i := 23) rfl)) (by decide) (by decide)) rfl rfl (lenOf pd12 rfl) (Nat.le_of_ble_eq_true rfl) (by decide) (by decide) (fun v h' L hP => ?_) all0 (fun v h2 L hP => ?_)
    · obtain ⟨out, hq, N, -⟩ := hP; exact ⟨N, (by obtain ⟨_, _, _, _, _, E, _⟩ := hq; exact keep_ext E _)⟩
    obtain ⟨out, hq, -, X, hO⟩ := hP
    obtain ⟨rfl, t, kb, rfl, ht, E2, F2⟩ := hq
    refine ⟨[], all0, ?_⟩
    show Go l false Z [] _ _ _ _ _ _ _ _ _ _ _ 34 #[.val (.int (Int32.ofNat n))] [(.ref t), (.ref x), (.ref x)]
    refine go_iconst (q := 35) (z := (Int32.ofNat 1)) d17_34 rfl rfl ?_
    refine go_mine fun hM => ?_
    refine go_callI (q := 38) (y := (⟨"java/lang/String", "<init>", "([BB)V"⟩ : MethodName)) (W := 1) (argsL := [(.ref t), (.int (Int32.ofNat 1))]) (rest := [(.ref x)]) (ws := [x]) (P := fun v h' L => ∃ out, (QBB Z h2 x t (Int32.ofNat 1) v h' out) ∧ Fr Z.heap.size L ∧ Ext Z.heap h' ∧ ∀ x ∈ out, Z.heap.size ≤ x ∧ x < h'.size) d17_35 rfl rfl (hw _ (List.mem_of_getElem? (i := 47) rfl)) (hw _ (List.mem_of_getElem? (i := 48) rfl)) (hw _ (List.mem_of_getElem? (i := 49) rfl)) (by decide) (con_pay (conBB1 B X (A1.ext E2) ((D1 (Or.inr (hw _ (List.mem_of_getElem? (i := 35) rfl))) (ty := .array .byte) (by decide +kernel)).ext E2) ((D1 (Or.inr (hw _ (List.mem_of_getElem? (i := 33) rfl))) (ty := .byte) (by decide +kernel)).ext E2)) hM (hw _ (List.mem_of_getElem? (i := 49) rfl)) (hw _ (List.mem_of_getElem? (i := 8) rfl)) (by decide) (by decide)) rfl rfl (lenOf pd13 rfl) (Nat.le_of_ble_eq_true rfl) (by decide) (by decide) (fun v h' L hP => ?_) (fun _ z => z) (fun v h3 L hP => ?_)
    · obtain ⟨out, hq, N, -⟩ := hP; exact ⟨N, hq.2.2.1⟩
    obtain ⟨out, hq, -, X, hO⟩ := hP
    obtain ⟨rfl, rfl, K3, A3, V3, C3⟩ := hq
    refine ⟨[], all0, ?_⟩
    show Go l false Z [] _ _ _ _ _ _ _ _ _ _ _ 38 #[.val (.int (Int32.ofNat n))] [(.ref x)]
    have nt : t ≠ x := Ne.symm (Nat.ne_of_lt (Nat.lt_of_lt_of_le A1.lt ht))
    exact go_areturn (out := []) rfl rfl rfl rfl d17_38 ⟨rfl, ext_keep (ext_tr E1 E2) K3 (allS (Nat.le_of_eq e1.symm) all0), x, t, kb, rfl, Or.inr ⟨A3, V3, C3, F2.keep K3 (ninS nt nin0)⟩⟩ all0 (by decide) (by decide)
theorem d18_0 : decode jdk_42_method_152_code 0 = .ok (.getstatic 38, 3) := by decide +kernel
theorem d18_3 : decode jdk_42_method_152_code 3 = .ok (.ifCond .eq 10, 3) := by decide +kernel
theorem d18_6 : decode jdk_42_method_152_code 6 = .ok (.aload_n 0, 1) := by decide +kernel
theorem d18_7 : decode jdk_42_method_152_code 7 = .ok (.getfield 15, 3) := by decide +kernel
theorem d18_10 : decode jdk_42_method_152_code 10 = .ok (.goto 4, 3) := by decide +kernel
theorem d18_13 : decode jdk_42_method_152_code 13 = .ok (.iconst 1, 1) := by decide +kernel
theorem d18_14 : decode jdk_42_method_152_code 14 = .ok (.ireturn, 1) := by decide +kernel
theorem pd15 : parseMethodDescriptor "()B" = some ⟨[], some .byte⟩ := by decide +kernel
theorem ef17 (m : MethodId) (a0 : Addr) : entryFrame m #[(.ref a0)] 1 = mkF m 0 #[.val (.ref a0)] [] := by first | (simp [entryFrame, mkF, argsToLocals, Value.category]; done) | rfl
abbrev r_conCd : Room := { frames := 0, cells := 0, slots := 0, locals := 0 }
set_option maxRecDepth 65536 in
set_option maxHeartbeats 4000000 in
theorem conCd {l : Launch} {Z : State} {a0 : Array Value} {G1 : Int32} {G3 : Value} {h : Heap} {x : Addr} {cod : Int32} (B : Base Z a0 G1 G3) (E0 : Ext Z.heap h) (hb : narrow .byte (.int cod) = .int cod) (Cf : Fld Z h x "java/lang/String" "coder" "B" (.int cod)) : Con l false Z [] (⟨"java/lang/String", "coder", "()B"⟩ : MethodName) jdk_42_method_152_code 1 (some .byte) [] r_conCd #[(.ref x)] h [] (PQ (some (.int cod)) h) := by
  have hw := B.hw
  refine con_of_go pn3_String (fun m => ef17 m x) E0 EW.none ?_
  refine go_getstatic (q := 3) d18_0 rfl (hw _ (List.mem_of_getElem? (i := 20) rfl)) Via.refl B.O2 ?_
  refine go_if (q := 13) (q2 := 6) d18_3 (by decide) (by decide) rfl (fun hc => absurd hc (by simpa [ifCond.holds] using B.P5)) (fun _ => ?_)
  refine go_aloadN (q := 7) d18_6 rfl rfl rfl ?_
  refine go_getfield (q := 10) d18_7 rfl (hw _ (List.mem_of_getElem? (i := 32) rfl)) Via.refl Cf ?_
  refine go_goto (q := 14) d18_10 (by decide) (by decide) ?_
  exact go_ireturn (out := []) rfl (by simp) hb d18_14 ⟨rfl, rfl, rfl⟩ all0 (by decide) (by decide)
theorem d19_0 : decode jdk_42_method_54_code 0 = .ok (.aload_n 0, 1) := by decide +kernel
theorem d19_1 : decode jdk_42_method_54_code 1 = .ok (.getfield 9, 3) := by decide +kernel
theorem d19_4 : decode jdk_42_method_54_code 4 = .ok (.arraylength, 1) := by decide +kernel
theorem d19_5 : decode jdk_42_method_54_code 5 = .ok (.aload_n 0, 1) := by decide +kernel
theorem d19_6 : decode jdk_42_method_54_code 6 = .ok (.invokevirtual 335, 3) := by decide +kernel
theorem d19_9 : decode jdk_42_method_54_code 9 = .ok (.ishr, 1) := by decide +kernel
theorem d19_10 : decode jdk_42_method_54_code 10 = .ok (.ireturn, 1) := by decide +kernel
theorem pd16 : parseMethodDescriptor "()I" = some ⟨[], some .int⟩ := by decide +kernel
theorem ef18 (m : MethodId) (a0 : Addr) : entryFrame m #[(.ref a0)] 1 = mkF m 0 #[.val (.ref a0)] [] := by first | (simp [entryFrame, mkF, argsToLocals, Value.category]; done) | rfl
abbrev r_conLn : Room := { frames := 1, cells := 0, slots := 0, locals := 13 }
set_option maxRecDepth 65536 in
set_option maxHeartbeats 4000000 in
theorem conLn {l : Launch} {Z : State} {a0 : Array Value} {G1 : Int32} {G3 : Value} {h : Heap} {x t : Addr} {k : ClassId} {cod z r : Int32} {vs : List Value} {d : Value} (B : Base Z a0 G1 G3) (E0 : Ext Z.heap h) (hb : narrow .byte (.int cod) = .int cod) (A : Exa Z h x "java/lang/String") (V : Fld Z h x "java/lang/String" "value" "[B" (.ref t)) (Cf : Fld Z h x "java/lang/String" "coder" "B" (.int cod)) (F : Arv Z h t k .byte z vs d) (hr : z >>> (cod &&& 31) = r) : Con l false Z [] (⟨"java/lang/String", "length", "()I"⟩ : MethodName) jdk_42_method_54_code 1 (some .int) [] r_conLn #[(.ref x)] h [] (PQ (some (.int r)) h) := by
  have hw := B.hw
  refine con_of_go pn3_String (fun m => ef18 m x) E0 EW.none ?_
  refine go_aloadN (q := 1) d19_0 rfl rfl rfl ?_
  refine go_getfield (q := 4) d19_1 rfl (hw _ (List.mem_of_getElem? (i := 34) rfl)) Via.refl V ?_
  refine go_arraylength (q := 5) d19_4 rfl F ?_
  refine go_aloadN (q := 6) d19_5 rfl rfl rfl ?_
  refine go_pV (q := 9) (y := (⟨"java/lang/String", "coder", "()B"⟩ : MethodName)) (W := 1) (argsL := []) (rest := [(.int z)]) (v := some (.int cod)) d19_6 rfl (hw _ (List.mem_of_getElem? (i := 87) rfl)) (hw _ (List.mem_of_getElem? (i := 88) rfl)) (fun s hZ => nf_of (args := #[]) (mvT hZ (hw _ (List.mem_of_getElem? (i := 85) rfl))) rfl) (hw _ (List.mem_of_getElem? (i := 90) rfl)) (hw _ (List.mem_of_getElem? (i := 89) rfl)) A (hw _ (List.mem_of_getElem? (i := 91) rfl)) (hw _ (List.mem_of_getElem? (i := 8) rfl)) (by decide) (conCd B E0 hb Cf) rfl rfl (lenOf pd15 rfl) (Nat.le_of_ble_eq_true rfl) (by decide) (by decide) rfl rfl (by decide) (by decide) ?_
  show Go l false Z [] _ _ _ _ _ _ _ _ _ _ _ 9 #[.val (.ref x)] [(.int cod), (.int z)]
  refine go_ishr (q := 10) d19_9 rfl ?_
  rw [hr]
  exact go_ireturn (out := []) rfl (by simp) rfl d19_10 ⟨rfl, rfl, rfl⟩ all0 (by decide) (by decide)
theorem d20_0 : decode jdk_42_method_154_code 0 = .ok (.getstatic 38, 3) := by decide +kernel
theorem d20_3 : decode jdk_42_method_154_code 3 = .ok (.ifCond .eq 14, 3) := by decide +kernel
theorem d20_6 : decode jdk_42_method_154_code 6 = .ok (.aload_n 0, 1) := by decide +kernel
theorem d20_7 : decode jdk_42_method_154_code 7 = .ok (.getfield 15, 3) := by decide +kernel
theorem d20_10 : decode jdk_42_method_154_code 10 = .ok (.ifCond .ne 7, 3) := by decide +kernel
theorem d20_13 : decode jdk_42_method_154_code 13 = .ok (.iconst 1, 1) := by decide +kernel
theorem d20_14 : decode jdk_42_method_154_code 14 = .ok (.goto 4, 3) := by decide +kernel
theorem d20_17 : decode jdk_42_method_154_code 17 = .ok (.iconst 0, 1) := by decide +kernel
theorem d20_18 : decode jdk_42_method_154_code 18 = .ok (.ireturn, 1) := by decide +kernel
theorem pd17 : parseMethodDescriptor "()Z" = some ⟨[], some .boolean⟩ := by decide +kernel
theorem ef19 (m : MethodId) (a0 : Addr) : entryFrame m #[(.ref a0)] 1 = mkF m 0 #[.val (.ref a0)] [] := by first | (simp [entryFrame, mkF, argsToLocals, Value.category]; done) | rfl
abbrev r_conIL0 : Room := { frames := 0, cells := 0, slots := 0, locals := 0 }
set_option maxRecDepth 65536 in
set_option maxHeartbeats 4000000 in
theorem conIL0 {l : Launch} {Z : State} {a0 : Array Value} {G1 : Int32} {G3 : Value} {h : Heap} {x : Addr} (B : Base Z a0 G1 G3) (E0 : Ext Z.heap h) (Cf : Fld Z h x "java/lang/String" "coder" "B" (.int 0)) : Con l false Z [] (⟨"java/lang/String", "isLatin1", "()Z"⟩ : MethodName) jdk_42_method_154_code 1 (some .boolean) [] r_conIL0 #[(.ref x)] h [] (PQ (some (.int 1)) h) := by
  have hw := B.hw
  refine con_of_go pn3_String (fun m => ef19 m x) E0 EW.none ?_
  refine go_getstatic (q := 3) d20_0 rfl (hw _ (List.mem_of_getElem? (i := 20) rfl)) Via.refl B.O2 ?_
  refine go_if (q := 17) (q2 := 6) d20_3 (by decide) (by decide) rfl (fun hc => absurd hc (by simpa [ifCond.holds] using B.P5)) (fun _ => ?_)
  refine go_aloadN (q := 7) d20_6 rfl rfl rfl ?_
  refine go_getfield (q := 10) d20_7 rfl (hw _ (List.mem_of_getElem? (i := 32) rfl)) Via.refl Cf ?_
  refine go_if (q := 17) (q2 := 13) d20_10 (by decide) (by decide) rfl (fun hc => absurd hc (by decide)) (fun _ => ?_)
  refine go_iconst (q := 14) (z := (1 : Int32)) d20_13 rfl rfl ?_
  refine go_goto (q := 18) d20_14 (by decide) (by decide) ?_
  exact go_ireturn (out := []) rfl (by simp) rfl d20_18 ⟨rfl, rfl, rfl⟩ all0 (by decide) (by decide)
abbrev r_conIL1 : Room := { frames := 0, cells := 0, slots := 0, locals := 0 }
set_option maxRecDepth 65536 in
set_option maxHeartbeats 4000000 in
theorem conIL1 {l : Launch} {Z : State} {a0 : Array Value} {G1 : Int32} {G3 : Value} {h : Heap} {x : Addr} (B : Base Z a0 G1 G3) (E0 : Ext Z.heap h) (Cf : Fld Z h x "java/lang/String" "coder" "B" (.int 1)) : Con l false Z [] (⟨"java/lang/String", "isLatin1", "()Z"⟩ : MethodName) jdk_42_method_154_code 1 (some .boolean) [] r_conIL1 #[(.ref x)] h [] (PQ (some (.int 0)) h) := by
  have hw := B.hw
  refine con_of_go pn3_String (fun m => ef19 m x) E0 EW.none ?_
  refine go_getstatic (q := 3) d20_0 rfl (hw _ (List.mem_of_getElem? (i := 20) rfl)) Via.refl B.O2 ?_
  refine go_if (q := 17) (q2 := 6) d20_3 (by decide) (by decide) rfl (fun hc => absurd hc (by simpa [ifCond.holds] using B.P5)) (fun _ => ?_)
  refine go_aloadN (q := 7) d20_6 rfl rfl rfl ?_
  refine go_getfield (q := 10) d20_7 rfl (hw _ (List.mem_of_getElem? (i := 32) rfl)) Via.refl Cf ?_
  refine go_if (q := 17) (q2 := 13) d20_10 (by decide) (by decide) rfl (fun _ => ?_) (fun hc => absurd hc (by decide))
  refine go_iconst (q := 18) (z := (0 : Int32)) d20_17 rfl rfl ?_
  exact go_ireturn (out := []) rfl (by simp) rfl d20_18 ⟨rfl, rfl, rfl⟩ all0 (by decide) (by decide)
theorem d21_0 : decode jdk_42_method_55_code 0 = .ok (.aload_n 0, 1) := by decide +kernel
theorem d21_1 : decode jdk_42_method_55_code 1 = .ok (.getfield 9, 3) := by decide +kernel
theorem d21_4 : decode jdk_42_method_55_code 4 = .ok (.arraylength, 1) := by decide +kernel
theorem d21_5 : decode jdk_42_method_55_code 5 = .ok (.ifCond .ne 7, 3) := by decide +kernel
theorem d21_8 : decode jdk_42_method_55_code 8 = .ok (.iconst 1, 1) := by decide +kernel
theorem d21_9 : decode jdk_42_method_55_code 9 = .ok (.goto 4, 3) := by decide +kernel
theorem d21_12 : decode jdk_42_method_55_code 12 = .ok (.iconst 0, 1) := by decide +kernel
theorem d21_13 : decode jdk_42_method_55_code 13 = .ok (.ireturn, 1) := by decide +kernel
theorem ef20 (m : MethodId) (a0 : Addr) : entryFrame m #[(.ref a0)] 1 = mkF m 0 #[.val (.ref a0)] [] := by first | (simp [entryFrame, mkF, argsToLocals, Value.category]; done) | rfl
abbrev r_conEm : Room := { frames := 0, cells := 0, slots := 0, locals := 0 }
set_option maxRecDepth 65536 in
set_option maxHeartbeats 4000000 in
theorem conEm {l : Launch} {Z : State} {a0 : Array Value} {G1 : Int32} {G3 : Value} {h : Heap} {x t : Addr} {k : ClassId} {N : Nat} {vs : List Value} {d : Value} (B : Base Z a0 G1 G3) (E0 : Ext Z.heap h) (V : Fld Z h x "java/lang/String" "value" "[B" (.ref t)) (F : Arv Z h t k .byte (Int32.ofNat N) vs d) (h1 : 1 ≤ N) (h4 : N ≤ 4000) : Con l false Z [] (⟨"java/lang/String", "isEmpty", "()Z"⟩ : MethodName) jdk_42_method_55_code 1 (some .boolean) [] r_conEm #[(.ref x)] h [] (PQ (some (.int 0)) h) := by
  have hw := B.hw
  refine con_of_go pn3_String (fun m => ef20 m x) E0 EW.none ?_
  refine go_aloadN (q := 1) d21_0 rfl rfl rfl ?_
  refine go_getfield (q := 4) d21_1 rfl (hw _ (List.mem_of_getElem? (i := 34) rfl)) Via.refl V ?_
  refine go_arraylength (q := 5) d21_4 rfl F ?_
  refine go_if (q := 12) (q2 := 8) d21_5 (by decide) (by decide) rfl (fun _ => ?_) (fun hc => absurd hc (by rw [if_ne _ (by omega), decide_eq_false_iff_not]; omega))
  refine go_iconst (q := 13) (z := (0 : Int32)) d21_12 rfl rfl ?_
  exact go_ireturn (out := []) rfl (by simp) rfl d21_13 ⟨rfl, rfl, rfl⟩ all0 (by decide) (by decide)
theorem d22_0 : decode jdk_29_method_65_code 0 = .ok (.iload_n 0, 1) := by decide +kernel
theorem d22_1 : decode jdk_29_method_65_code 1 = .ok (.iload_n 1, 1) := by decide +kernel
theorem d22_2 : decode jdk_29_method_65_code 2 = .ok (.if_icmp .lt 7, 3) := by decide +kernel
theorem d22_5 : decode jdk_29_method_65_code 5 = .ok (.iload_n 0, 1) := by decide +kernel
theorem d22_6 : decode jdk_29_method_65_code 6 = .ok (.goto 4, 3) := by decide +kernel
theorem d22_9 : decode jdk_29_method_65_code 9 = .ok (.iload_n 1, 1) := by decide +kernel
theorem d22_10 : decode jdk_29_method_65_code 10 = .ok (.ireturn, 1) := by decide +kernel
theorem pd18 : parseMethodDescriptor "(II)I" = some ⟨[.int, .int], some .int⟩ := by decide +kernel
theorem ef21 (m : MethodId) (i0 : Int32) (i1 : Int32) : entryFrame m #[(.int i0), (.int i1)] 2 = mkF m 0 #[.val (.int i0), .val (.int i1)] [] := by first | (simp [entryFrame, mkF, argsToLocals, Value.category]; done) | rfl
abbrev r_conMx : Room := { frames := 0, cells := 0, slots := 0, locals := 0 }
set_option maxRecDepth 65536 in
set_option maxHeartbeats 4000000 in
theorem conMx {l : Launch} {Z : State} {a0 : Array Value} {G1 : Int32} {G3 : Value} {h : Heap}  (B : Base Z a0 G1 G3) (E0 : Ext Z.heap h)  : Con l false Z [] (⟨"java/lang/Math", "max", "(II)I"⟩ : MethodName) jdk_29_method_65_code 2 (some .int) [] r_conMx #[(.int (Int32.ofNat 0)), (.int (Int32.ofNat 0))] h [] (PQ (some (.int (Int32.ofNat 0))) h) := by
  have hw := B.hw
  refine con_of_goF (Jvm.Free.JP.mathPlain rfl (by decide)) (fun m => ef21 m (Int32.ofNat 0) (Int32.ofNat 0)) E0 EW.none ?_
  refine go_iloadN (q := 1) d22_0 rfl rfl ?_
  refine go_iloadN (q := 2) d22_1 rfl rfl ?_
  refine go_icmp (q := 9) (q2 := 5) d22_2 (by decide) (by decide) rfl (fun hc => absurd hc (by decide)) (fun _ => ?_)
  refine go_iloadN (q := 6) d22_5 rfl rfl ?_
  refine go_goto (q := 10) d22_6 (by decide) (by decide) ?_
  exact go_ireturn (out := []) rfl (by simp) rfl d22_10 ⟨rfl, rfl, rfl⟩ all0 (by decide) (by decide)
theorem d23_0 : decode jdk_29_method_69_code 0 = .ok (.iload_n 0, 1) := by decide +kernel
theorem d23_1 : decode jdk_29_method_69_code 1 = .ok (.iload_n 1, 1) := by decide +kernel
theorem d23_2 : decode jdk_29_method_69_code 2 = .ok (.if_icmp .gt 7, 3) := by decide +kernel
theorem d23_5 : decode jdk_29_method_69_code 5 = .ok (.iload_n 0, 1) := by decide +kernel
theorem d23_6 : decode jdk_29_method_69_code 6 = .ok (.goto 4, 3) := by decide +kernel
theorem d23_9 : decode jdk_29_method_69_code 9 = .ok (.iload_n 1, 1) := by decide +kernel
theorem d23_10 : decode jdk_29_method_69_code 10 = .ok (.ireturn, 1) := by decide +kernel
theorem ef22 (m : MethodId) (i0 : Int32) (i1 : Int32) : entryFrame m #[(.int i0), (.int i1)] 2 = mkF m 0 #[.val (.int i0), .val (.int i1)] [] := by first | (simp [entryFrame, mkF, argsToLocals, Value.category]; done) | rfl
abbrev r_conMn : Room := { frames := 0, cells := 0, slots := 0, locals := 0 }
set_option maxRecDepth 65536 in
set_option maxHeartbeats 4000000 in
theorem conMn {l : Launch} {Z : State} {a0 : Array Value} {G1 : Int32} {G3 : Value} {h : Heap} {n : Nat} (B : Base Z a0 G1 G3) (E0 : Ext Z.heap h) (hn : n ≤ 4000) : Con l false Z [] (⟨"java/lang/Math", "min", "(II)I"⟩ : MethodName) jdk_29_method_69_code 2 (some .int) [] r_conMn #[(.int (Int32.ofNat n)), (.int (Int32.ofNat n))] h [] (PQ (some (.int (Int32.ofNat n))) h) := by
  have hw := B.hw
  refine con_of_goF (Jvm.Free.JP.mathPlain rfl (by decide)) (fun m => ef22 m (Int32.ofNat n) (Int32.ofNat n)) E0 EW.none ?_
  refine go_iloadN (q := 1) d23_0 rfl rfl ?_
  refine go_iloadN (q := 2) d23_1 rfl rfl ?_
  refine go_icmp (q := 9) (q2 := 5) d23_2 (by decide) (by decide) rfl (fun hc => absurd hc (by rw [ic_gt _ _ (by omega) (by omega), decide_eq_true_iff]; omega)) (fun _ => ?_)
  refine go_iloadN (q := 6) d23_5 rfl rfl ?_
  refine go_goto (q := 10) d23_6 (by decide) (by decide) ?_
  exact go_ireturn (out := []) rfl (by simp) rfl d23_10 ⟨rfl, rfl, rfl⟩ all0 (by decide) (by decide)
theorem lb_ne {c : Nat} (h1 : 1 ≤ c) (h2 : c ≤ 255) : ¬ if_icmp.holds .ne (Int32.ofNat c).toInt8.toInt32 (Int32.ofNat 0) = false := by
  have t : ∀ k : Fin 256, 1 ≤ k.val → if_icmp.holds .ne (Int32.ofNat k.val).toInt8.toInt32 (Int32.ofNat 0) = true := by decide +kernel
  rw [t ⟨c, by omega⟩ h1]; decide
theorem d24_0 : decode jdk_43_method_23_code 0 = .ok (.iload_n 1, 1) := by decide +kernel
theorem d24_1 : decode jdk_43_method_23_code 1 = .ok (.i2b, 1) := by decide +kernel
theorem d24_2 : decode jdk_43_method_23_code 2 = .ok (.istore 4, 2) := by decide +kernel
theorem d24_4 : decode jdk_43_method_23_code 4 = .ok (.iload_n 2, 1) := by decide +kernel
theorem d24_5 : decode jdk_43_method_23_code 5 = .ok (.istore 5, 2) := by decide +kernel
theorem d24_7 : decode jdk_43_method_23_code 7 = .ok (.iload 5, 2) := by decide +kernel
theorem d24_9 : decode jdk_43_method_23_code 9 = .ok (.iload_n 3, 1) := by decide +kernel
theorem d24_10 : decode jdk_43_method_23_code 10 = .ok (.if_icmp .ge 21, 3) := by decide +kernel
theorem d24_13 : decode jdk_43_method_23_code 13 = .ok (.aload_n 0, 1) := by decide +kernel
theorem d24_14 : decode jdk_43_method_23_code 14 = .ok (.iload 5, 2) := by decide +kernel
theorem d24_16 : decode jdk_43_method_23_code 16 = .ok (.baload, 1) := by decide +kernel
theorem d24_17 : decode jdk_43_method_23_code 17 = .ok (.iload 4, 2) := by decide +kernel
theorem d24_19 : decode jdk_43_method_23_code 19 = .ok (.if_icmp .ne 6, 3) := by decide +kernel
theorem d24_22 : decode jdk_43_method_23_code 22 = .ok (.iload 5, 2) := by decide +kernel
theorem d24_24 : decode jdk_43_method_23_code 24 = .ok (.ireturn, 1) := by decide +kernel
theorem d24_25 : decode jdk_43_method_23_code 25 = .ok (.iinc 5 1, 3) := by decide +kernel
theorem d24_28 : decode jdk_43_method_23_code 28 = .ok (.goto (-21), 3) := by decide +kernel
theorem d24_31 : decode jdk_43_method_23_code 31 = .ok (.iconst (-1), 1) := by decide +kernel
theorem d24_32 : decode jdk_43_method_23_code 32 = .ok (.ireturn, 1) := by decide +kernel
theorem pd19 : parseMethodDescriptor "([BIII)I" = some ⟨[(.array .byte), .int, .int, .int], some .int⟩ := by decide +kernel
abbrev r_conLI : Room := { frames := 0, cells := 0, slots := 0, locals := 0 }
set_option maxRecDepth 65536 in
set_option maxHeartbeats 4000000 in
theorem loopLI {l : Launch} {Z : State} {a0 : Array Value} {G1 : Int32} {G3 : Value} {h : Heap} {t : Addr} {k : ClassId} {cs : List Nat} {d : Value} (B : Base Z a0 G1 G3) (hn : cs.length ≤ 4) (hp : ∀ c ∈ cs, 1 ≤ c ∧ c ≤ 255) (F : Arv Z h t k .byte (Int32.ofNat cs.length) (cs.map lb) d) (rem : List Nat) : ∀ (done : List Nat) (j : Nat), j = done.length → cs = done ++ rem →
    Go l false Z [] "java/lang/StringLatin1" "indexOfChar" jdk_43_method_23_code 6 (some .int) r_conLI (PQ (some (.int (-1))) h) h [] 0 0 7 #[.val (.ref t), .val (.int (Int32.ofNat 0)), .val (.int (Int32.ofNat 0)), .val (.int (Int32.ofNat cs.length)), .val (.int (Int32.ofNat 0)), .val (.int (Int32.ofNat j))] [] := by
  have hw := B.hw
  induction rem with
  | nil =>
    intro done j hj hcs
    have hl : done.length = cs.length := by rw [hcs]; simp
    refine go_iload (q := 9) d24_7 rfl rfl ?_
    refine go_iloadN (q := 10) d24_9 rfl rfl ?_
    refine go_icmp (q := 31) (q2 := 13) d24_10 (by decide) (by decide) rfl (fun _ => ?_) (fun hc => absurd hc (by rw [ic_ge _ _ (by omega) (by omega), decide_eq_false_iff_not]; omega))
    refine go_iconst (q := 32) (z := (-1 : Int32)) d24_31 rfl rfl ?_
    exact go_ireturn (out := []) rfl (by simp) rfl d24_32 ⟨rfl, rfl, rfl⟩ all0 (by decide) (by decide)
  | cons c rem ih =>
    intro done j hj hcs
    have hl : done.length < cs.length := by rw [hcs]; simp
    have hc1 := hp c (by rw [hcs]; simp)
    refine go_iload (q := 9) d24_7 rfl rfl ?_
    refine go_iloadN (q := 10) d24_9 rfl rfl ?_
    refine go_icmp (q := 31) (q2 := 13) d24_10 (by decide) (by decide) rfl (fun hc => absurd hc (by rw [ic_ge _ _ (by omega) (by omega), decide_eq_true_iff]; omega)) (fun _ => ?_)
    refine go_aloadN (q := 14) d24_13 rfl rfl rfl ?_
    refine go_iload (q := 16) d24_14 rfl rfl ?_
    refine go_baload (q := 17) (v := lb c) d24_16 rfl F (inb (by omega) (by omega)) (by rw [clampN (by omega), hcs, List.map_append]; exact get_mid (by simp [hj])) ?_
    refine go_iload (q := 19) d24_17 rfl rfl ?_
    refine go_icmp (q := 25) (q2 := 22) d24_19 (by decide) (by decide) rfl (fun _ => ?_) (fun hc => absurd hc (lb_ne hc1.1 hc1.2))
    refine go_iinc (q := 28) (l' := #[.val (.ref t), .val (.int (Int32.ofNat 0)), .val (.int (Int32.ofNat 0)), .val (.int (Int32.ofNat cs.length)), .val (.int (Int32.ofNat 0)), .val (.int ((Int32.ofNat j) + (1 : Int32)))]) d24_25 rfl rfl rfl ?_
    rw [Jvm.Free.XT.succ32]
    refine go_goto (q := 7) d24_28 (by decide) (by decide) ?_
    exact ih (done ++ [c]) (j + 1) (by simp [hj]) (by rw [hcs]; simp)
theorem ef23 (m : MethodId) (a0 : Addr) (i1 : Int32) (i2 : Int32) (i3 : Int32) : entryFrame m #[(.ref a0), (.int i1), (.int i2), (.int i3)] 6 = mkF m 0 #[.val (.ref a0), .val (.int i1), .val (.int i2), .val (.int i3), .unset, .unset] [] := by first | (simp [entryFrame, mkF, argsToLocals, Value.category]; done) | rfl
set_option maxRecDepth 65536 in
set_option maxHeartbeats 4000000 in
theorem conLI {l : Launch} {Z : State} {a0 : Array Value} {G1 : Int32} {G3 : Value} {h : Heap} {t : Addr} {k : ClassId} {cs : List Nat} {d : Value} (B : Base Z a0 G1 G3) (E0 : Ext Z.heap h) (hn : cs.length ≤ 4) (hp : ∀ c ∈ cs, 1 ≤ c ∧ c ≤ 255) (F : Arv Z h t k .byte (Int32.ofNat cs.length) (cs.map lb) d) : Con l false Z [] (⟨"java/lang/StringLatin1", "indexOfChar", "([BIII)I"⟩ : MethodName) jdk_43_method_23_code 6 (some .int) [] r_conLI #[(.ref t), (.int (Int32.ofNat 0)), (.int (Int32.ofNat 0)), (.int (Int32.ofNat cs.length))] h [] (PQ (some (.int (-1))) h) := by
  have hw := B.hw
  refine con_of_go pn1_StringLatin1 (fun m => ef23 m t (Int32.ofNat 0) (Int32.ofNat 0) (Int32.ofNat cs.length)) E0 EW.none ?_
  refine go_iloadN (q := 1) d24_0 rfl rfl ?_
  refine go_i2b (q := 2) d24_1 rfl ?_
  show Go l false Z [] _ _ _ _ _ _ _ _ _ _ _ 2 #[.val (.ref t), .val (.int (Int32.ofNat 0)), .val (.int (Int32.ofNat 0)), .val (.int (Int32.ofNat cs.length)), .unset, .unset] [(.int (Int32.ofNat 0))]
  refine go_istore (q := 4) (l' := #[.val (.ref t), .val (.int (Int32.ofNat 0)), .val (.int (Int32.ofNat 0)), .val (.int (Int32.ofNat cs.length)), .val (.int (Int32.ofNat 0)), .unset]) d24_2 rfl rfl ?_
  refine go_iloadN (q := 5) d24_4 rfl rfl ?_
  refine go_istore (q := 7) (l' := #[.val (.ref t), .val (.int (Int32.ofNat 0)), .val (.int (Int32.ofNat 0)), .val (.int (Int32.ofNat cs.length)), .val (.int (Int32.ofNat 0)), .val (.int (Int32.ofNat 0))]) d24_5 rfl rfl ?_
  exact loopLI B hn hp F cs [] 0 rfl rfl
theorem d25_0 : decode jdk_43_method_22_code 0 = .ok (.iload_n 1, 1) := by decide +kernel
theorem d25_1 : decode jdk_43_method_22_code 1 = .ok (.invokestatic 88, 3) := by decide +kernel
theorem d25_4 : decode jdk_43_method_22_code 4 = .ok (.ifCond .ne 5, 3) := by decide +kernel
theorem d25_7 : decode jdk_43_method_22_code 7 = .ok (.iconst (-1), 1) := by decide +kernel
theorem d25_8 : decode jdk_43_method_22_code 8 = .ok (.ireturn, 1) := by decide +kernel
theorem d25_9 : decode jdk_43_method_22_code 9 = .ok (.iload_n 2, 1) := by decide +kernel
theorem d25_10 : decode jdk_43_method_22_code 10 = .ok (.iconst 0, 1) := by decide +kernel
theorem d25_11 : decode jdk_43_method_22_code 11 = .ok (.invokestatic 92, 3) := by decide +kernel
theorem d25_14 : decode jdk_43_method_22_code 14 = .ok (.istore_n 2, 1) := by decide +kernel
theorem d25_15 : decode jdk_43_method_22_code 15 = .ok (.iload_n 3, 1) := by decide +kernel
theorem d25_16 : decode jdk_43_method_22_code 16 = .ok (.aload_n 0, 1) := by decide +kernel
theorem d25_17 : decode jdk_43_method_22_code 17 = .ok (.arraylength, 1) := by decide +kernel
theorem d25_18 : decode jdk_43_method_22_code 18 = .ok (.invokestatic 38, 3) := by decide +kernel
theorem d25_21 : decode jdk_43_method_22_code 21 = .ok (.istore_n 3, 1) := by decide +kernel
theorem d25_22 : decode jdk_43_method_22_code 22 = .ok (.iload_n 2, 1) := by decide +kernel
theorem d25_23 : decode jdk_43_method_22_code 23 = .ok (.iload_n 3, 1) := by decide +kernel
theorem d25_24 : decode jdk_43_method_22_code 24 = .ok (.if_icmp .lt 5, 3) := by decide +kernel
theorem d25_27 : decode jdk_43_method_22_code 27 = .ok (.iconst (-1), 1) := by decide +kernel
theorem d25_28 : decode jdk_43_method_22_code 28 = .ok (.ireturn, 1) := by decide +kernel
theorem d25_29 : decode jdk_43_method_22_code 29 = .ok (.aload_n 0, 1) := by decide +kernel
theorem d25_30 : decode jdk_43_method_22_code 30 = .ok (.iload_n 1, 1) := by decide +kernel
theorem d25_31 : decode jdk_43_method_22_code 31 = .ok (.iload_n 2, 1) := by decide +kernel
theorem d25_32 : decode jdk_43_method_22_code 32 = .ok (.iload_n 3, 1) := by decide +kernel
theorem d25_33 : decode jdk_43_method_22_code 33 = .ok (.invokestatic 95, 3) := by decide +kernel
theorem d25_36 : decode jdk_43_method_22_code 36 = .ok (.ireturn, 1) := by decide +kernel
theorem ef24 (m : MethodId) (a0 : Addr) (i1 : Int32) (i2 : Int32) (i3 : Int32) : entryFrame m #[(.ref a0), (.int i1), (.int i2), (.int i3)] 4 = mkF m 0 #[.val (.ref a0), .val (.int i1), .val (.int i2), .val (.int i3)] [] := by first | (simp [entryFrame, mkF, argsToLocals, Value.category]; done) | rfl
abbrev r_conLX : Room := { frames := 1, cells := 0, slots := 0, locals := 17 }
set_option maxRecDepth 65536 in
set_option maxHeartbeats 4000000 in
theorem conLX {l : Launch} {Z : State} {a0 : Array Value} {G1 : Int32} {G3 : Value} {h : Heap} {t : Addr} {k : ClassId} {cs : List Nat} {d : Value} (B : Base Z a0 G1 G3) (E0 : Ext Z.heap h) (h1n : 1 ≤ cs.length) (hn : cs.length ≤ 4) (hp : ∀ c ∈ cs, 1 ≤ c ∧ c ≤ 255) (F : Arv Z h t k .byte (Int32.ofNat cs.length) (cs.map lb) d) : Con l false Z [] (⟨"java/lang/StringLatin1", "indexOf", "([BIII)I"⟩ : MethodName) jdk_43_method_22_code 4 (some .int) [] r_conLX #[(.ref t), (.int (Int32.ofNat 0)), (.int (Int32.ofNat 0)), (.int (Int32.ofNat cs.length))] h [] (PQ (some (.int (-1))) h) := by
  have hw := B.hw
  refine con_of_go pn1_StringLatin1 (fun m => ef24 m t (Int32.ofNat 0) (Int32.ofNat 0) (Int32.ofNat cs.length)) E0 EW.none ?_
  refine go_iloadN (q := 1) d25_0 rfl rfl ?_
  refine go_pS (q := 4) (y := (⟨"java/lang/StringLatin1", "canEncode", "(I)Z"⟩ : MethodName)) (W := 0) (argsL := [(.int (Int32.ofNat 0))]) (rest := []) (v := some (.int (1 : Int32))) d25_1 rfl (hw _ (List.mem_of_getElem? (i := 193) rfl)) (hw _ (List.mem_of_getElem? (i := 194) rfl)) (hw _ (List.mem_of_getElem? (i := 41) rfl)) (hw _ (List.mem_of_getElem? (i := 195) rfl)) (by decide) (conCEi B E0) rfl rfl (lenOf pd2 rfl) (Nat.le_of_ble_eq_true rfl) (by decide) (by decide) rfl rfl (by decide) (by decide) ?_
  show Go l false Z [] _ _ _ _ _ _ _ _ _ _ _ 4 #[.val (.ref t), .val (.int (Int32.ofNat 0)), .val (.int (Int32.ofNat 0)), .val (.int (Int32.ofNat cs.length))] [(.int (1 : Int32))]
  refine go_if (q := 9) (q2 := 7) d25_4 (by decide) (by decide) rfl (fun _ => ?_) (fun hc => absurd hc (by decide))
  refine go_iloadN (q := 10) d25_9 rfl rfl ?_
  refine go_iconst (q := 11) (z := (Int32.ofNat 0)) d25_10 rfl rfl ?_
  refine go_pS (q := 14) (y := (⟨"java/lang/Math", "max", "(II)I"⟩ : MethodName)) (W := 0) (argsL := [(.int (Int32.ofNat 0)), (.int (Int32.ofNat 0))]) (rest := []) (v := some (.int (Int32.ofNat 0))) d25_11 rfl (hw _ (List.mem_of_getElem? (i := 196) rfl)) (hw _ (List.mem_of_getElem? (i := 197) rfl)) (hw _ (List.mem_of_getElem? (i := 198) rfl)) (hw _ (List.mem_of_getElem? (i := 199) rfl)) (by decide) (conMx B E0) rfl rfl (lenOf pd18 rfl) (Nat.le_of_ble_eq_true rfl) (by decide) (by decide) rfl rfl (by decide) (by decide) ?_
  show Go l false Z [] _ _ _ _ _ _ _ _ _ _ _ 14 #[.val (.ref t), .val (.int (Int32.ofNat 0)), .val (.int (Int32.ofNat 0)), .val (.int (Int32.ofNat cs.length))] [(.int (Int32.ofNat 0))]
  refine go_istoreN (q := 15) (l' := #[.val (.ref t), .val (.int (Int32.ofNat 0)), .val (.int (Int32.ofNat 0)), .val (.int (Int32.ofNat cs.length))]) d25_14 rfl rfl ?_
  refine go_iloadN (q := 16) d25_15 rfl rfl ?_
  refine go_aloadN (q := 17) d25_16 rfl rfl rfl ?_
  refine go_arraylength (q := 18) d25_17 rfl F ?_
  refine go_pS (q := 21) (y := (⟨"java/lang/Math", "min", "(II)I"⟩ : MethodName)) (W := 0) (argsL := [(.int (Int32.ofNat cs.length)), (.int (Int32.ofNat cs.length))]) (rest := []) (v := some (.int (Int32.ofNat cs.length))) d25_18 rfl (hw _ (List.mem_of_getElem? (i := 200) rfl)) (hw _ (List.mem_of_getElem? (i := 201) rfl)) (hw _ (List.mem_of_getElem? (i := 198) rfl)) (hw _ (List.mem_of_getElem? (i := 202) rfl)) (by decide) (conMn B E0 (by omega)) rfl rfl (lenOf pd18 rfl) (Nat.le_of_ble_eq_true rfl) (by decide) (by decide) rfl rfl (by decide) (by decide) ?_
  show Go l false Z [] _ _ _ _ _ _ _ _ _ _ _ 21 #[.val (.ref t), .val (.int (Int32.ofNat 0)), .val (.int (Int32.ofNat 0)), .val (.int (Int32.ofNat cs.length))] [(.int (Int32.ofNat cs.length))]
  refine go_istoreN (q := 22) (l' := #[.val (.ref t), .val (.int (Int32.ofNat 0)), .val (.int (Int32.ofNat 0)), .val (.int (Int32.ofNat cs.length))]) d25_21 rfl rfl ?_
  refine go_iloadN (q := 23) d25_22 rfl rfl ?_
  refine go_iloadN (q := 24) d25_23 rfl rfl ?_
  refine go_icmp (q := 29) (q2 := 27) d25_24 (by decide) (by decide) rfl (fun _ => ?_) (fun hc => absurd hc (by rw [ic_lt _ _ (by omega) (by omega), decide_eq_false_iff_not]; omega))
  refine go_aloadN (q := 30) d25_29 rfl rfl rfl ?_
  refine go_iloadN (q := 31) d25_30 rfl rfl ?_
  refine go_iloadN (q := 32) d25_31 rfl rfl ?_
  refine go_iloadN (q := 33) d25_32 rfl rfl ?_
  refine go_pS (q := 36) (y := (⟨"java/lang/StringLatin1", "indexOfChar", "([BIII)I"⟩ : MethodName)) (W := 0) (argsL := [(.ref t), (.int (Int32.ofNat 0)), (.int (Int32.ofNat 0)), (.int (Int32.ofNat cs.length))]) (rest := []) (v := some (.int (-1 : Int32))) d25_33 rfl (hw _ (List.mem_of_getElem? (i := 203) rfl)) (hw _ (List.mem_of_getElem? (i := 204) rfl)) (hw _ (List.mem_of_getElem? (i := 41) rfl)) (hw _ (List.mem_of_getElem? (i := 205) rfl)) (by decide) (conLI B E0 hn hp F) rfl rfl (lenOf pd19 rfl) (Nat.le_of_ble_eq_true rfl) (by decide) (by decide) rfl rfl (by decide) (by decide) ?_
  show Go l false Z [] _ _ _ _ _ _ _ _ _ _ _ 36 #[.val (.ref t), .val (.int (Int32.ofNat 0)), .val (.int (Int32.ofNat 0)), .val (.int (Int32.ofNat cs.length))] [(.int (-1 : Int32))]
  exact go_ireturn (out := []) rfl (by simp) rfl d25_36 ⟨rfl, rfl, rfl⟩ all0 (by decide) (by decide)
theorem d26_0 : decode jdk_52_method_48_code 0 = .ok (.iload_n 2, 1) := by decide +kernel
theorem d26_1 : decode jdk_52_method_48_code 1 = .ok (.istore 4, 2) := by decide +kernel
theorem d26_3 : decode jdk_52_method_48_code 3 = .ok (.iload 4, 2) := by decide +kernel
theorem d26_5 : decode jdk_52_method_48_code 5 = .ok (.iload_n 3, 1) := by decide +kernel
theorem d26_6 : decode jdk_52_method_48_code 6 = .ok (.if_icmp .ge 22, 3) := by decide +kernel
theorem d26_9 : decode jdk_52_method_48_code 9 = .ok (.aload_n 0, 1) := by decide +kernel
theorem d26_10 : decode jdk_52_method_48_code 10 = .ok (.iload 4, 2) := by decide +kernel
theorem d26_12 : decode jdk_52_method_48_code 12 = .ok (.invokestatic 71, 3) := by decide +kernel
theorem d26_15 : decode jdk_52_method_48_code 15 = .ok (.iload_n 1, 1) := by decide +kernel
theorem d26_16 : decode jdk_52_method_48_code 16 = .ok (.if_icmp .ne 6, 3) := by decide +kernel
theorem d26_19 : decode jdk_52_method_48_code 19 = .ok (.iload 4, 2) := by decide +kernel
theorem d26_21 : decode jdk_52_method_48_code 21 = .ok (.ireturn, 1) := by decide +kernel
theorem d26_22 : decode jdk_52_method_48_code 22 = .ok (.iinc 4 1, 3) := by decide +kernel
theorem d26_25 : decode jdk_52_method_48_code 25 = .ok (.goto (-22), 3) := by decide +kernel
theorem d26_28 : decode jdk_52_method_48_code 28 = .ok (.iconst (-1), 1) := by decide +kernel
theorem d26_29 : decode jdk_52_method_48_code 29 = .ok (.ireturn, 1) := by decide +kernel
abbrev r_conUI : Room := { frames := 1, cells := 0, slots := 0, locals := 13 }
set_option maxRecDepth 65536 in
set_option maxHeartbeats 4000000 in
theorem loopUI {l : Launch} {Z : State} {a0 : Array Value} {G1 : Int32} {G3 : Value} {h : Heap} {t : Addr} {k : ClassId} {cs : List Nat} (B : Base Z a0 G1 G3) (E0 : Ext Z.heap h) (hn : cs.length ≤ 4) (hp : ∀ c ∈ cs, 1 ≤ c ∧ c < 65536) (F : Arv Z h t k .byte (Int32.ofNat (2 * cs.length)) (ub cs) (.int 0)) (rem : List Nat) : ∀ (done : List Nat) (j : Nat), j = done.length → cs = done ++ rem →
    Go l false Z [] "java/lang/StringUTF16" "indexOfCharUnsafe" jdk_52_method_48_code 5 (some .int) r_conUI (PQ (some (.int (-1))) h) h [] 0 0 3 #[.val (.ref t), .val (.int (Int32.ofNat 0)), .val (.int (Int32.ofNat 0)), .val (.int (Int32.ofNat cs.length)), .val (.int (Int32.ofNat j))] [] := by
  have hw := B.hw
  induction rem with
  | nil =>
    intro done j hj hcs
    have hl : done.length = cs.length := by rw [hcs]; simp
    refine go_iload (q := 5) d26_3 rfl rfl ?_
    refine go_iloadN (q := 6) d26_5 rfl rfl ?_
    refine go_icmp (q := 28) (q2 := 9) d26_6 (by decide) (by decide) rfl (fun _ => ?_) (fun hc => absurd hc (by rw [ic_ge _ _ (by omega) (by omega), decide_eq_false_iff_not]; omega))
    refine go_iconst (q := 29) (z := (-1 : Int32)) d26_28 rfl rfl ?_
    exact go_ireturn (out := []) rfl (by simp) rfl d26_29 ⟨rfl, rfl, rfl⟩ all0 (by decide) (by decide)
  | cons c rem ih =>
    intro done j hj hcs
    have hl : done.length < cs.length := by rw [hcs]; simp
    have hc := hp c (by rw [hcs]; simp)
    refine go_iload (q := 5) d26_3 rfl rfl ?_
    refine go_iloadN (q := 6) d26_5 rfl rfl ?_
    refine go_icmp (q := 28) (q2 := 9) d26_6 (by decide) (by decide) rfl (fun hc => absurd hc (by rw [ic_ge _ _ (by omega) (by omega), decide_eq_true_iff]; omega)) (fun _ => ?_)
    refine go_aloadN (q := 10) d26_9 rfl rfl rfl ?_
    refine go_iload (q := 12) d26_10 rfl rfl ?_
    refine go_pS (q := 15) (y := (⟨"java/lang/StringUTF16", "getChar", "([BI)C"⟩ : MethodName)) (W := 0) (argsL := [(.ref t), (.int (Int32.ofNat j))]) (rest := []) (v := some (.int (Int32.ofNat c))) d26_12 rfl (hw _ (List.mem_of_getElem? (i := 223) rfl)) (hw _ (List.mem_of_getElem? (i := 224) rfl)) (hw _ (List.mem_of_getElem? (i := 23) rfl)) (hw _ (List.mem_of_getElem? (i := 225) rfl)) (by decide) (conGC B E0 F (c := c) (by omega) (by omega) (by rw [hcs, ub_app]; exact get_mid (by rw [ub_len, hj])) (by rw [hcs, ub_app]; exact get_mid1 (by rw [ub_len, hj])) hc.2) rfl rfl (lenOf pd6 rfl) (Nat.le_of_ble_eq_true rfl) (by decide) (by decide) rfl rfl (by decide) (by decide) ?_
    show Go l false Z [] _ _ _ _ _ _ _ _ _ _ _ 15 #[.val (.ref t), .val (.int (Int32.ofNat 0)), .val (.int (Int32.ofNat 0)), .val (.int (Int32.ofNat cs.length)), .val (.int (Int32.ofNat j))] [(.int (Int32.ofNat c))]
    refine go_iloadN (q := 16) d26_15 rfl rfl ?_
    refine go_icmp (q := 22) (q2 := 19) d26_16 (by decide) (by decide) rfl (fun _ => ?_) (fun hc => absurd hc (by rw [ic_ne _ _ (by omega) (by omega), decide_eq_false_iff_not]; omega))
    refine go_iinc (q := 25) (l' := #[.val (.ref t), .val (.int (Int32.ofNat 0)), .val (.int (Int32.ofNat 0)), .val (.int (Int32.ofNat cs.length)), .val (.int ((Int32.ofNat j) + (1 : Int32)))]) d26_22 rfl rfl rfl ?_
    rw [Jvm.Free.XT.succ32]
    refine go_goto (q := 3) d26_25 (by decide) (by decide) ?_
    exact ih (done ++ [c]) (j + 1) (by simp [hj]) (by rw [hcs]; simp)
theorem ef25 (m : MethodId) (a0 : Addr) (i1 : Int32) (i2 : Int32) (i3 : Int32) : entryFrame m #[(.ref a0), (.int i1), (.int i2), (.int i3)] 5 = mkF m 0 #[.val (.ref a0), .val (.int i1), .val (.int i2), .val (.int i3), .unset] [] := by first | (simp [entryFrame, mkF, argsToLocals, Value.category]; done) | rfl
set_option maxRecDepth 65536 in
set_option maxHeartbeats 4000000 in
theorem conUI {l : Launch} {Z : State} {a0 : Array Value} {G1 : Int32} {G3 : Value} {h : Heap} {t : Addr} {k : ClassId} {cs : List Nat} (B : Base Z a0 G1 G3) (E0 : Ext Z.heap h) (hn : cs.length ≤ 4) (hp : ∀ c ∈ cs, 1 ≤ c ∧ c < 65536) (F : Arv Z h t k .byte (Int32.ofNat (2 * cs.length)) (ub cs) (.int 0)) : Con l false Z [] (⟨"java/lang/StringUTF16", "indexOfCharUnsafe", "([BIII)I"⟩ : MethodName) jdk_52_method_48_code 5 (some .int) [] r_conUI #[(.ref t), (.int (Int32.ofNat 0)), (.int (Int32.ofNat 0)), (.int (Int32.ofNat cs.length))] h [] (PQ (some (.int (-1))) h) := by
  have hw := B.hw
  refine con_of_go pn2_StringUTF16 (fun m => ef25 m t (Int32.ofNat 0) (Int32.ofNat 0) (Int32.ofNat cs.length)) E0 EW.none ?_
  refine go_iloadN (q := 1) d26_0 rfl rfl ?_
  refine go_istore (q := 3) (l' := #[.val (.ref t), .val (.int (Int32.ofNat 0)), .val (.int (Int32.ofNat 0)), .val (.int (Int32.ofNat cs.length)), .val (.int (Int32.ofNat 0))]) d26_1 rfl rfl ?_
  exact loopUI B E0 hn hp F cs [] 0 rfl rfl
theorem d27_0 : decode jdk_52_method_6_code 0 = .ok (.aload_n 0, 1) := by decide +kernel
theorem d27_1 : decode jdk_52_method_6_code 1 = .ok (.arraylength, 1) := by decide +kernel
theorem d27_2 : decode jdk_52_method_6_code 2 = .ok (.iconst 1, 1) := by decide +kernel
theorem d27_3 : decode jdk_52_method_6_code 3 = .ok (.ishr, 1) := by decide +kernel
theorem d27_4 : decode jdk_52_method_6_code 4 = .ok (.ireturn, 1) := by decide +kernel
theorem pd20 : parseMethodDescriptor "([B)I" = some ⟨[(.array .byte)], some .int⟩ := by decide +kernel
theorem ef26 (m : MethodId) (a0 : Addr) : entryFrame m #[(.ref a0)] 1 = mkF m 0 #[.val (.ref a0)] [] := by first | (simp [entryFrame, mkF, argsToLocals, Value.category]; done) | rfl
abbrev r_conUL : Room := { frames := 0, cells := 0, slots := 0, locals := 0 }
set_option maxRecDepth 65536 in
set_option maxHeartbeats 4000000 in
theorem conUL {l : Launch} {Z : State} {a0 : Array Value} {G1 : Int32} {G3 : Value} {h : Heap} {t : Addr} {k : ClassId} {n : Nat} {vs : List Value} {d : Value} (B : Base Z a0 G1 G3) (E0 : Ext Z.heap h) (F : Arv Z h t k .byte (Int32.ofNat (2 * n)) vs d) (hn : n ≤ 4000) : Con l false Z [] (⟨"java/lang/StringUTF16", "length", "([B)I"⟩ : MethodName) jdk_52_method_6_code 1 (some .int) [] r_conUL #[(.ref t)] h [] (PQ (some (.int (Int32.ofNat n))) h) := by
  have hw := B.hw
  refine con_of_go pn2_StringUTF16 (fun m => ef26 m t) E0 EW.none ?_
  refine go_aloadN (q := 1) d27_0 rfl rfl rfl ?_
  refine go_arraylength (q := 2) d27_1 rfl F ?_
  refine go_iconst (q := 3) (z := (Int32.ofNat 1)) d27_2 rfl rfl ?_
  refine go_ishr (q := 4) d27_3 rfl ?_
  rw [shr1 n (by omega)]
  exact go_ireturn (out := []) rfl (by simp) rfl d27_4 ⟨rfl, rfl, rfl⟩ all0 (by decide) (by decide)
theorem d28_0 : decode jdk_41_method_12_code 0 = .ok (.iload_n 0, 1) := by decide +kernel
theorem d28_1 : decode jdk_41_method_12_code 1 = .ok (.ifCond .lt 13, 3) := by decide +kernel
theorem d28_4 : decode jdk_41_method_12_code 4 = .ok (.iload_n 0, 1) := by decide +kernel
theorem d28_5 : decode jdk_41_method_12_code 5 = .ok (.iload_n 1, 1) := by decide +kernel
theorem d28_6 : decode jdk_41_method_12_code 6 = .ok (.if_icmp .gt 8, 3) := by decide +kernel
theorem d28_9 : decode jdk_41_method_12_code 9 = .ok (.iload_n 1, 1) := by decide +kernel
theorem d28_10 : decode jdk_41_method_12_code 10 = .ok (.iload_n 2, 1) := by decide +kernel
theorem d28_11 : decode jdk_41_method_12_code 11 = .ok (.if_icmp .le 11, 3) := by decide +kernel
theorem d28_14 : decode jdk_41_method_12_code 14 = .ok (.aload_n 3, 1) := by decide +kernel
theorem d28_15 : decode jdk_41_method_12_code 15 = .ok (.iload_n 0, 1) := by decide +kernel
theorem d28_16 : decode jdk_41_method_12_code 16 = .ok (.iload_n 1, 1) := by decide +kernel
theorem d28_17 : decode jdk_41_method_12_code 17 = .ok (.iload_n 2, 1) := by decide +kernel
theorem d28_18 : decode jdk_41_method_12_code 18 = .ok (.invokestatic 99, 3) := by decide +kernel
theorem d28_21 : decode jdk_41_method_12_code 21 = .ok (.athrow, 1) := by decide +kernel
theorem d28_22 : decode jdk_41_method_12_code 22 = .ok (.iload_n 0, 1) := by decide +kernel
theorem d28_23 : decode jdk_41_method_12_code 23 = .ok (.ireturn, 1) := by decide +kernel
theorem pn4_Preconditions : plainName "jdk/internal/util/Preconditions" = true := by first | (simp [plainName, overriddenIn]; done) | decide +kernel
theorem pd21 : parseMethodDescriptor "(IIILjava/util/function/BiFunction;)I" = some ⟨[.int, .int, .int, (.object "java/util/function/BiFunction")], some .int⟩ := by decide +kernel
theorem ef27 (m : MethodId) (i0 : Int32) (i1 : Int32) (i2 : Int32) : entryFrame m #[(.int i0), (.int i1), (.int i2), (.null)] 4 = mkF m 0 #[.val (.int i0), .val (.int i1), .val (.int i2), .val (.null)] [] := by first | (simp [entryFrame, mkF, argsToLocals, Value.category]; done) | rfl
abbrev r_conFTn : Room := { frames := 0, cells := 0, slots := 0, locals := 0 }
set_option maxRecDepth 65536 in
set_option maxHeartbeats 4000000 in
theorem conFTn {l : Launch} {Z : State} {a0 : Array Value} {G1 : Int32} {G3 : Value} {h : Heap}  {n : Nat} (B : Base Z a0 G1 G3) (E0 : Ext Z.heap h) (hn : n ≤ 4000) : Con l false Z [] (⟨"jdk/internal/util/Preconditions", "checkFromToIndex", "(IIILjava/util/function/BiFunction;)I"⟩ : MethodName) jdk_41_method_12_code 4 (some .int) [] r_conFTn #[(.int (Int32.ofNat 0)), (.int (Int32.ofNat n)), (.int (Int32.ofNat n)), (.null)] h [] (PQ (some (.int (Int32.ofNat 0))) h) := by
  have hw := B.hw
  refine con_of_go pn4_Preconditions (fun m => ef27 m (Int32.ofNat 0) (Int32.ofNat n) (Int32.ofNat n)) E0 EW.none ?_
  refine go_iloadN (q := 1) d28_0 rfl rfl ?_
  refine go_if (q := 14) (q2 := 4) d28_1 (by decide) (by decide) rfl (fun hc => absurd hc (by decide)) (fun _ => ?_)
  refine go_iloadN (q := 5) d28_4 rfl rfl ?_
  refine go_iloadN (q := 6) d28_5 rfl rfl ?_
  refine go_icmp (q := 14) (q2 := 9) d28_6 (by decide) (by decide) rfl (fun hc => absurd hc (by rw [ic_gt _ _ (by omega) (by omega), decide_eq_true_iff]; omega)) (fun _ => ?_)
  refine go_iloadN (q := 10) d28_9 rfl rfl ?_
  refine go_iloadN (q := 11) d28_10 rfl rfl ?_
  refine go_icmp (q := 22) (q2 := 14) d28_11 (by decide) (by decide) rfl (fun _ => ?_) (fun hc => absurd hc (by rw [ic_le _ _ (by omega) (by omega), decide_eq_false_iff_not]; omega))
  refine go_iloadN (q := 23) d28_22 rfl rfl ?_
  exact go_ireturn (out := []) rfl (by simp) rfl d28_23 ⟨rfl, rfl, rfl⟩ all0 (by decide) (by decide)
theorem ef28 (m : MethodId) (i0 : Int32) (i1 : Int32) (i2 : Int32) (a3 : Addr) : entryFrame m #[(.int i0), (.int i1), (.int i2), (.ref a3)] 4 = mkF m 0 #[.val (.int i0), .val (.int i1), .val (.int i2), .val (.ref a3)] [] := by first | (simp [entryFrame, mkF, argsToLocals, Value.category]; done) | rfl
abbrev r_conFTr : Room := { frames := 0, cells := 0, slots := 0, locals := 0 }
set_option maxRecDepth 65536 in
set_option maxHeartbeats 4000000 in
theorem conFTr {l : Launch} {Z : State} {a0 : Array Value} {G1 : Int32} {G3 : Value} {h : Heap} {g : Addr} {n : Nat} (B : Base Z a0 G1 G3) (E0 : Ext Z.heap h) (hn : n ≤ 4000) : Con l false Z [] (⟨"jdk/internal/util/Preconditions", "checkFromToIndex", "(IIILjava/util/function/BiFunction;)I"⟩ : MethodName) jdk_41_method_12_code 4 (some .int) [] r_conFTr #[(.int (Int32.ofNat 0)), (.int (Int32.ofNat n)), (.int (Int32.ofNat n)), (.ref g)] h [] (PQ (some (.int (Int32.ofNat 0))) h) := by
  have hw := B.hw
  refine con_of_go pn4_Preconditions (fun m => ef28 m (Int32.ofNat 0) (Int32.ofNat n) (Int32.ofNat n) g) E0 EW.none ?_
  refine go_iloadN (q := 1) d28_0 rfl rfl ?_
  refine go_if (q := 14) (q2 := 4) d28_1 (by decide) (by decide) rfl (fun hc => absurd hc (by decide)) (fun _ => ?_)
  refine go_iloadN (q := 5) d28_4 rfl rfl ?_
  refine go_iloadN (q := 6) d28_5 rfl rfl ?_
  refine go_icmp (q := 14) (q2 := 9) d28_6 (by decide) (by decide) rfl (fun hc => absurd hc (by rw [ic_gt _ _ (by omega) (by omega), decide_eq_true_iff]; omega)) (fun _ => ?_)
  refine go_iloadN (q := 10) d28_9 rfl rfl ?_
  refine go_iloadN (q := 11) d28_10 rfl rfl ?_
  refine go_icmp (q := 22) (q2 := 14) d28_11 (by decide) (by decide) rfl (fun _ => ?_) (fun hc => absurd hc (by rw [ic_le _ _ (by omega) (by omega), decide_eq_false_iff_not]; omega))
  refine go_iloadN (q := 23) d28_22 rfl rfl ?_
  exact go_ireturn (out := []) rfl (by simp) rfl d28_23 ⟨rfl, rfl, rfl⟩ all0 (by decide) (by decide)
theorem d29_0 : decode jdk_42_method_158_code 0 = .ok (.iload_n 0, 1) := by decide +kernel
theorem d29_1 : decode jdk_42_method_158_code 1 = .ok (.iload_n 1, 1) := by decide +kernel
theorem d29_2 : decode jdk_42_method_158_code 2 = .ok (.iload_n 2, 1) := by decide +kernel
theorem d29_3 : decode jdk_42_method_158_code 3 = .ok (.getstatic 1053, 3) := by decide +kernel
theorem d29_6 : decode jdk_42_method_158_code 6 = .ok (.invokestatic 1062, 3) := by decide +kernel
theorem d29_9 : decode jdk_42_method_158_code 9 = .ok (.pop, 1) := by decide +kernel
theorem d29_10 : decode jdk_42_method_158_code 10 = .ok (.return_, 1) := by decide +kernel
theorem pd22 : parseMethodDescriptor "(III)V" = some ⟨[.int, .int, .int], none⟩ := by decide +kernel
theorem ef29 (m : MethodId) (i0 : Int32) (i1 : Int32) (i2 : Int32) : entryFrame m #[(.int i0), (.int i1), (.int i2)] 3 = mkF m 0 #[.val (.int i0), .val (.int i1), .val (.int i2)] [] := by first | (simp [entryFrame, mkF, argsToLocals, Value.category]; done) | rfl
abbrev r_conBE : Room := { frames := 1, cells := 0, slots := 0, locals := 15 }
set_option maxRecDepth 65536 in
set_option maxHeartbeats 4000000 in
theorem conBE {l : Launch} {Z : State} {a0 : Array Value} {G1 : Int32} {G3 : Value} {h : Heap} {n : Nat} (B : Base Z a0 G1 G3) (E0 : Ext Z.heap h) (hn : n ≤ 4000) : Con l false Z [] (⟨"java/lang/String", "checkBoundsBeginEnd", "(III)V"⟩ : MethodName) jdk_42_method_158_code 3 none [] r_conBE #[(.int (Int32.ofNat 0)), (.int (Int32.ofNat n)), (.int (Int32.ofNat n))] h [] (PQ none h) := by
  have hw := B.hw
  refine con_of_go pn3_String (fun m => ef29 m (Int32.ofNat 0) (Int32.ofNat n) (Int32.ofNat n)) E0 EW.none ?_
  refine go_iloadN (q := 1) d29_0 rfl rfl ?_
  refine go_iloadN (q := 2) d29_1 rfl rfl ?_
  refine go_iloadN (q := 3) d29_2 rfl rfl ?_
  rcases ref_cases B.rG3 with rfl | ⟨g, rfl⟩
  · refine go_getstatic (q := 6) d29_3 rfl (hw _ (List.mem_of_getElem? (i := 251) rfl)) Via.refl B.O4 ?_
    refine go_pS (q := 9) (y := (⟨"jdk/internal/util/Preconditions", "checkFromToIndex", "(IIILjava/util/function/BiFunction;)I"⟩ : MethodName)) (W := 0) (argsL := [(.int (Int32.ofNat 0)), (.int (Int32.ofNat n)), (.int (Int32.ofNat n)), (.null)]) (rest := []) (v := some (.int (Int32.ofNat 0))) d29_6 rfl (hw _ (List.mem_of_getElem? (i := 274) rfl)) (hw _ (List.mem_of_getElem? (i := 275) rfl)) (hw _ (List.mem_of_getElem? (i := 252) rfl)) (hw _ (List.mem_of_getElem? (i := 276) rfl)) (by decide) (conFTn B E0 hn) rfl rfl (lenOf pd21 rfl) (Nat.le_of_ble_eq_true rfl) (by decide) (by decide) rfl rfl (by decide) (by decide) ?_
    show Go l false Z [] _ _ _ _ _ _ _ _ _ _ _ 9 #[.val (.int (Int32.ofNat 0)), .val (.int (Int32.ofNat n)), .val (.int (Int32.ofNat n))] [(.int (Int32.ofNat 0))]
    refine go_pop (q := 10) d29_9 rfl rfl ?_
    exact go_return (out := []) rfl d29_10 ⟨rfl, rfl, rfl⟩ all0 (by decide) (by decide)
  · refine go_getstatic (q := 6) d29_3 rfl (hw _ (List.mem_of_getElem? (i := 251) rfl)) Via.refl B.O4 ?_
    refine go_pS (q := 9) (y := (⟨"jdk/internal/util/Preconditions", "checkFromToIndex", "(IIILjava/util/function/BiFunction;)I"⟩ : MethodName)) (W := 0) (argsL := [(.int (Int32.ofNat 0)), (.int (Int32.ofNat n)), (.int (Int32.ofNat n)), (.ref g)]) (rest := []) (v := some (.int (Int32.ofNat 0))) d29_6 rfl (hw _ (List.mem_of_getElem? (i := 274) rfl)) (hw _ (List.mem_of_getElem? (i := 275) rfl)) (hw _ (List.mem_of_getElem? (i := 252) rfl)) (hw _ (List.mem_of_getElem? (i := 276) rfl)) (by decide) (conFTr B E0 hn) rfl rfl (lenOf pd21 rfl) (Nat.le_of_ble_eq_true rfl) (by decide) (by decide) rfl rfl (by decide) (by decide) ?_
    show Go l false Z [] _ _ _ _ _ _ _ _ _ _ _ 9 #[.val (.int (Int32.ofNat 0)), .val (.int (Int32.ofNat n)), .val (.int (Int32.ofNat n))] [(.int (Int32.ofNat 0))]
    refine go_pop (q := 10) d29_9 rfl rfl ?_
    exact go_return (out := []) rfl d29_10 ⟨rfl, rfl, rfl⟩ all0 (by decide) (by decide)
theorem d30_0 : decode jdk_52_method_93_code 0 = .ok (.iload_n 0, 1) := by decide +kernel
theorem d30_1 : decode jdk_52_method_93_code 1 = .ok (.iload_n 1, 1) := by decide +kernel
theorem d30_2 : decode jdk_52_method_93_code 2 = .ok (.aload_n 2, 1) := by decide +kernel
theorem d30_3 : decode jdk_52_method_93_code 3 = .ok (.invokestatic 48, 3) := by decide +kernel
theorem d30_6 : decode jdk_52_method_93_code 6 = .ok (.invokestatic 241, 3) := by decide +kernel
theorem d30_9 : decode jdk_52_method_93_code 9 = .ok (.return_, 1) := by decide +kernel
theorem pd23 : parseMethodDescriptor "(II[B)V" = some ⟨[.int, .int, (.array .byte)], none⟩ := by decide +kernel
theorem ef30 (m : MethodId) (i0 : Int32) (i1 : Int32) (a2 : Addr) : entryFrame m #[(.int i0), (.int i1), (.ref a2)] 3 = mkF m 0 #[.val (.int i0), .val (.int i1), .val (.ref a2)] [] := by first | (simp [entryFrame, mkF, argsToLocals, Value.category]; done) | rfl
abbrev r_conUB : Room := { frames := 2, cells := 0, slots := 0, locals := 29 }
set_option maxRecDepth 65536 in
set_option maxHeartbeats 4000000 in
theorem conUB {l : Launch} {Z : State} {a0 : Array Value} {G1 : Int32} {G3 : Value} {h : Heap} {t : Addr} {k : ClassId} {cs : List Nat} (B : Base Z a0 G1 G3) (E0 : Ext Z.heap h) (hn : cs.length ≤ 4) (F : Arv Z h t k .byte (Int32.ofNat (2 * cs.length)) (ub cs) (.int 0)) : Con l false Z [] (⟨"java/lang/StringUTF16", "checkBoundsBeginEnd", "(II[B)V"⟩ : MethodName) jdk_52_method_93_code 3 none [] r_conUB #[(.int (Int32.ofNat 0)), (.int (Int32.ofNat cs.length)), (.ref t)] h [] (PQ none h) := by
  have hw := B.hw
  refine con_of_go pn2_StringUTF16 (fun m => ef30 m (Int32.ofNat 0) (Int32.ofNat cs.length) t) E0 EW.none ?_
  refine go_iloadN (q := 1) d30_0 rfl rfl ?_
  refine go_iloadN (q := 2) d30_1 rfl rfl ?_
  refine go_aloadN (q := 3) d30_2 rfl rfl rfl ?_
  refine go_pS (q := 6) (y := (⟨"java/lang/StringUTF16", "length", "([B)I"⟩ : MethodName)) (W := 2) (argsL := [(.ref t)]) (rest := [(.int (Int32.ofNat cs.length)), (.int (Int32.ofNat 0))]) (v := some (.int (Int32.ofNat cs.length))) d30_3 rfl (hw _ (List.mem_of_getElem? (i := 245) rfl)) (hw _ (List.mem_of_getElem? (i := 246) rfl)) (hw _ (List.mem_of_getElem? (i := 23) rfl)) (hw _ (List.mem_of_getElem? (i := 247) rfl)) (by decide) (conUL B E0 F (by omega)) rfl rfl (lenOf pd20 rfl) (Nat.le_of_ble_eq_true rfl) (by decide) (by decide) rfl rfl (by decide) (by decide) ?_
  show Go l false Z [] _ _ _ _ _ _ _ _ _ _ _ 6 #[.val (.int (Int32.ofNat 0)), .val (.int (Int32.ofNat cs.length)), .val (.ref t)] [(.int (Int32.ofNat cs.length)), (.int (Int32.ofNat cs.length)), (.int (Int32.ofNat 0))]
  refine go_pS (q := 9) (y := (⟨"java/lang/String", "checkBoundsBeginEnd", "(III)V"⟩ : MethodName)) (W := 0) (argsL := [(.int (Int32.ofNat 0)), (.int (Int32.ofNat cs.length)), (.int (Int32.ofNat cs.length))]) (rest := []) (v := none) d30_6 rfl (hw _ (List.mem_of_getElem? (i := 271) rfl)) (hw _ (List.mem_of_getElem? (i := 272) rfl)) (hw _ (List.mem_of_getElem? (i := 8) rfl)) (hw _ (List.mem_of_getElem? (i := 273) rfl)) (by decide) (conBE B E0 (by omega)) rfl rfl (lenOf pd22 rfl) (Nat.le_of_ble_eq_true rfl) (by decide) (by decide) rfl rfl (by decide) (by decide) ?_
  show Go l false Z [] _ _ _ _ _ _ _ _ _ _ _ 9 #[.val (.int (Int32.ofNat 0)), .val (.int (Int32.ofNat cs.length)), .val (.ref t)] []
  exact go_return (out := []) rfl d30_9 ⟨rfl, rfl, rfl⟩ all0 (by decide) (by decide)
theorem d31_0 : decode jdk_52_method_47_code 0 = .ok (.iload_n 2, 1) := by decide +kernel
theorem d31_1 : decode jdk_52_method_47_code 1 = .ok (.iload_n 3, 1) := by decide +kernel
theorem d31_2 : decode jdk_52_method_47_code 2 = .ok (.aload_n 0, 1) := by decide +kernel
theorem d31_3 : decode jdk_52_method_47_code 3 = .ok (.invokestatic 96, 3) := by decide +kernel
theorem d31_6 : decode jdk_52_method_47_code 6 = .ok (.aload_n 0, 1) := by decide +kernel
theorem d31_7 : decode jdk_52_method_47_code 7 = .ok (.iload_n 1, 1) := by decide +kernel
theorem d31_8 : decode jdk_52_method_47_code 8 = .ok (.iload_n 2, 1) := by decide +kernel
theorem d31_9 : decode jdk_52_method_47_code 9 = .ok (.iload_n 3, 1) := by decide +kernel
theorem d31_10 : decode jdk_52_method_47_code 10 = .ok (.invokestatic 244, 3) := by decide +kernel
theorem d31_13 : decode jdk_52_method_47_code 13 = .ok (.ireturn, 1) := by decide +kernel
theorem ef31 (m : MethodId) (a0 : Addr) (i1 : Int32) (i2 : Int32) (i3 : Int32) : entryFrame m #[(.ref a0), (.int i1), (.int i2), (.int i3)] 4 = mkF m 0 #[.val (.ref a0), .val (.int i1), .val (.int i2), .val (.int i3)] [] := by first | (simp [entryFrame, mkF, argsToLocals, Value.category]; done) | rfl
abbrev r_conUC : Room := { frames := 3, cells := 0, slots := 0, locals := 43 }
set_option maxRecDepth 65536 in
set_option maxHeartbeats 4000000 in
theorem conUC {l : Launch} {Z : State} {a0 : Array Value} {G1 : Int32} {G3 : Value} {h : Heap} {t : Addr} {k : ClassId} {cs : List Nat} (B : Base Z a0 G1 G3) (E0 : Ext Z.heap h) (hn : cs.length ≤ 4) (hp : ∀ c ∈ cs, 1 ≤ c ∧ c < 65536) (F : Arv Z h t k .byte (Int32.ofNat (2 * cs.length)) (ub cs) (.int 0)) : Con l false Z [] (⟨"java/lang/StringUTF16", "indexOfChar", "([BIII)I"⟩ : MethodName) jdk_52_method_47_code 4 (some .int) [] r_conUC #[(.ref t), (.int (Int32.ofNat 0)), (.int (Int32.ofNat 0)), (.int (Int32.ofNat cs.length))] h [] (PQ (some (.int (-1))) h) := by
  have hw := B.hw
  refine con_of_go pn2_StringUTF16 (fun m => ef31 m t (Int32.ofNat 0) (Int32.ofNat 0) (Int32.ofNat cs.length)) E0 EW.none ?_
  refine go_iloadN (q := 1) d31_0 rfl rfl ?_
  refine go_iloadN (q := 2) d31_1 rfl rfl ?_
  refine go_aloadN (q := 3) d31_2 rfl rfl rfl ?_
  refine go_pS (q := 6) (y := (⟨"java/lang/StringUTF16", "checkBoundsBeginEnd", "(II[B)V"⟩ : MethodName)) (W := 0) (argsL := [(.int (Int32.ofNat 0)), (.int (Int32.ofNat cs.length)), (.ref t)]) (rest := []) (v := none) d31_3 rfl (hw _ (List.mem_of_getElem? (i := 268) rfl)) (hw _ (List.mem_of_getElem? (i := 269) rfl)) (hw _ (List.mem_of_getElem? (i := 23) rfl)) (hw _ (List.mem_of_getElem? (i := 270) rfl)) (by decide) (conUB B E0 hn F) rfl rfl (lenOf pd23 rfl) (Nat.le_of_ble_eq_true rfl) (by decide) (by decide) rfl rfl (by decide) (by decide) ?_
  show Go l false Z [] _ _ _ _ _ _ _ _ _ _ _ 6 #[.val (.ref t), .val (.int (Int32.ofNat 0)), .val (.int (Int32.ofNat 0)), .val (.int (Int32.ofNat cs.length))] []
  refine go_aloadN (q := 7) d31_6 rfl rfl rfl ?_
  refine go_iloadN (q := 8) d31_7 rfl rfl ?_
  refine go_iloadN (q := 9) d31_8 rfl rfl ?_
  refine go_iloadN (q := 10) d31_9 rfl rfl ?_
  refine go_pS (q := 13) (y := (⟨"java/lang/StringUTF16", "indexOfCharUnsafe", "([BIII)I"⟩ : MethodName)) (W := 0) (argsL := [(.ref t), (.int (Int32.ofNat 0)), (.int (Int32.ofNat 0)), (.int (Int32.ofNat cs.length))]) (rest := []) (v := some (.int (-1 : Int32))) d31_10 rfl (hw _ (List.mem_of_getElem? (i := 277) rfl)) (hw _ (List.mem_of_getElem? (i := 278) rfl)) (hw _ (List.mem_of_getElem? (i := 23) rfl)) (hw _ (List.mem_of_getElem? (i := 279) rfl)) (by decide) (conUI B E0 hn hp F) rfl rfl (lenOf pd19 rfl) (Nat.le_of_ble_eq_true rfl) (by decide) (by decide) rfl rfl (by decide) (by decide) ?_
  show Go l false Z [] _ _ _ _ _ _ _ _ _ _ _ 13 #[.val (.ref t), .val (.int (Int32.ofNat 0)), .val (.int (Int32.ofNat 0)), .val (.int (Int32.ofNat cs.length))] [(.int (-1 : Int32))]
  exact go_ireturn (out := []) rfl (by simp) rfl d31_13 ⟨rfl, rfl, rfl⟩ all0 (by decide) (by decide)
theorem d32_0 : decode jdk_52_method_40_code 0 = .ok (.iload_n 2, 1) := by decide +kernel
theorem d32_1 : decode jdk_52_method_40_code 1 = .ok (.iconst 0, 1) := by decide +kernel
theorem d32_2 : decode jdk_52_method_40_code 2 = .ok (.invokestatic 224, 3) := by decide +kernel
theorem d32_5 : decode jdk_52_method_40_code 5 = .ok (.istore_n 2, 1) := by decide +kernel
theorem d32_6 : decode jdk_52_method_40_code 6 = .ok (.iload_n 3, 1) := by decide +kernel
theorem d32_7 : decode jdk_52_method_40_code 7 = .ok (.aload_n 0, 1) := by decide +kernel
theorem d32_8 : decode jdk_52_method_40_code 8 = .ok (.arraylength, 1) := by decide +kernel
theorem d32_9 : decode jdk_52_method_40_code 9 = .ok (.iconst 1, 1) := by decide +kernel
theorem d32_10 : decode jdk_52_method_40_code 10 = .ok (.ishr, 1) := by decide +kernel
theorem d32_11 : decode jdk_52_method_40_code 11 = .ok (.invokestatic 183, 3) := by decide +kernel
theorem d32_14 : decode jdk_52_method_40_code 14 = .ok (.istore_n 3, 1) := by decide +kernel
theorem d32_15 : decode jdk_52_method_40_code 15 = .ok (.iload_n 2, 1) := by decide +kernel
theorem d32_16 : decode jdk_52_method_40_code 16 = .ok (.iload_n 3, 1) := by decide +kernel
theorem d32_17 : decode jdk_52_method_40_code 17 = .ok (.if_icmp .lt 5, 3) := by decide +kernel
theorem d32_20 : decode jdk_52_method_40_code 20 = .ok (.iconst (-1), 1) := by decide +kernel
theorem d32_21 : decode jdk_52_method_40_code 21 = .ok (.ireturn, 1) := by decide +kernel
theorem d32_22 : decode jdk_52_method_40_code 22 = .ok (.iload_n 1, 1) := by decide +kernel
theorem d32_23 : decode jdk_52_method_40_code 23 = .ok (.ldc 227, 2) := by decide +kernel
theorem d32_25 : decode jdk_52_method_40_code 25 = .ok (.if_icmp .ge 11, 3) := by decide +kernel
theorem d32_28 : decode jdk_52_method_40_code 28 = .ok (.aload_n 0, 1) := by decide +kernel
theorem d32_29 : decode jdk_52_method_40_code 29 = .ok (.iload_n 1, 1) := by decide +kernel
theorem d32_30 : decode jdk_52_method_40_code 30 = .ok (.iload_n 2, 1) := by decide +kernel
theorem d32_31 : decode jdk_52_method_40_code 31 = .ok (.iload_n 3, 1) := by decide +kernel
theorem d32_32 : decode jdk_52_method_40_code 32 = .ok (.invokestatic 228, 3) := by decide +kernel
theorem d32_35 : decode jdk_52_method_40_code 35 = .ok (.ireturn, 1) := by decide +kernel
theorem d32_36 : decode jdk_52_method_40_code 36 = .ok (.aload_n 0, 1) := by decide +kernel
theorem d32_37 : decode jdk_52_method_40_code 37 = .ok (.iload_n 1, 1) := by decide +kernel
theorem d32_38 : decode jdk_52_method_40_code 38 = .ok (.iload_n 2, 1) := by decide +kernel
theorem d32_39 : decode jdk_52_method_40_code 39 = .ok (.iload_n 3, 1) := by decide +kernel
theorem d32_40 : decode jdk_52_method_40_code 40 = .ok (.invokestatic 232, 3) := by decide +kernel
theorem d32_43 : decode jdk_52_method_40_code 43 = .ok (.ireturn, 1) := by decide +kernel
theorem ef32 (m : MethodId) (a0 : Addr) (i1 : Int32) (i2 : Int32) (i3 : Int32) : entryFrame m #[(.ref a0), (.int i1), (.int i2), (.int i3)] 4 = mkF m 0 #[.val (.ref a0), .val (.int i1), .val (.int i2), .val (.int i3)] [] := by first | (simp [entryFrame, mkF, argsToLocals, Value.category]; done) | rfl
abbrev r_conUX : Room := { frames := 4, cells := 0, slots := 0, locals := 58 }
set_option maxRecDepth 65536 in
set_option maxHeartbeats 4000000 in
theorem conUX {l : Launch} {Z : State} {a0 : Array Value} {G1 : Int32} {G3 : Value} {h : Heap} {t : Addr} {k : ClassId} {cs : List Nat} (B : Base Z a0 G1 G3) (E0 : Ext Z.heap h) (h1n : 1 ≤ cs.length) (hn : cs.length ≤ 4) (hp : ∀ c ∈ cs, 1 ≤ c ∧ c < 65536) (F : Arv Z h t k .byte (Int32.ofNat (2 * cs.length)) (ub cs) (.int 0)) : Con l false Z [] (⟨"java/lang/StringUTF16", "indexOf", "([BIII)I"⟩ : MethodName) jdk_52_method_40_code 4 (some .int) [] r_conUX #[(.ref t), (.int (Int32.ofNat 0)), (.int (Int32.ofNat 0)), (.int (Int32.ofNat cs.length))] h [] (PQ (some (.int (-1))) h) := by
  have hw := B.hw
  refine con_of_go pn2_StringUTF16 (fun m => ef32 m t (Int32.ofNat 0) (Int32.ofNat 0) (Int32.ofNat cs.length)) E0 EW.none ?_
  refine go_iloadN (q := 1) d32_0 rfl rfl ?_
  refine go_iconst (q := 2) (z := (Int32.ofNat 0)) d32_1 rfl rfl ?_
  refine go_pS (q := 5) (y := (⟨"java/lang/Math", "max", "(II)I"⟩ : MethodName)) (W := 0) (argsL := [(.int (Int32.ofNat 0)), (.int (Int32.ofNat 0))]) (rest := []) (v := some (.int (Int32.ofNat 0))) d32_2 rfl (hw _ (List.mem_of_getElem? (i := 262) rfl)) (hw _ (List.mem_of_getElem? (i := 197) rfl)) (hw _ (List.mem_of_getElem? (i := 198) rfl)) (hw _ (List.mem_of_getElem? (i := 199) rfl)) (by decide) (conMx B E0) rfl rfl (lenOf pd18 rfl) (Nat.le_of_ble_eq_true rfl) (by decide) (by decide) rfl rfl (by decide) (by decide) ?_
  show Go l false Z [] _ _ _ _ _ _ _ _ _ _ _ 5 #[.val (.ref t), .val (.int (Int32.ofNat 0)), .val (.int (Int32.ofNat 0)), .val (.int (Int32.ofNat cs.length))] [(.int (Int32.ofNat 0))]
  refine go_istoreN (q := 6) (l' := #[.val (.ref t), .val (.int (Int32.ofNat 0)), .val (.int (Int32.ofNat 0)), .val (.int (Int32.ofNat cs.length))]) d32_5 rfl rfl ?_
  refine go_iloadN (q := 7) d32_6 rfl rfl ?_
  refine go_aloadN (q := 8) d32_7 rfl rfl rfl ?_
  refine go_arraylength (q := 9) d32_8 rfl F ?_
  refine go_iconst (q := 10) (z := (Int32.ofNat 1)) d32_9 rfl rfl ?_
  refine go_ishr (q := 11) d32_10 rfl ?_
  rw [shr1 cs.length (by omega)]
  refine go_pS (q := 14) (y := (⟨"java/lang/Math", "min", "(II)I"⟩ : MethodName)) (W := 0) (argsL := [(.int (Int32.ofNat cs.length)), (.int (Int32.ofNat cs.length))]) (rest := []) (v := some (.int (Int32.ofNat cs.length))) d32_11 rfl (hw _ (List.mem_of_getElem? (i := 263) rfl)) (hw _ (List.mem_of_getElem? (i := 201) rfl)) (hw _ (List.mem_of_getElem? (i := 198) rfl)) (hw _ (List.mem_of_getElem? (i := 202) rfl)) (by decide) (conMn B E0 (by omega)) rfl rfl (lenOf pd18 rfl) (Nat.le_of_ble_eq_true rfl) (by decide) (by decide) rfl rfl (by decide) (by decide) ?_
  show Go l false Z [] _ _ _ _ _ _ _ _ _ _ _ 14 #[.val (.ref t), .val (.int (Int32.ofNat 0)), .val (.int (Int32.ofNat 0)), .val (.int (Int32.ofNat cs.length))] [(.int (Int32.ofNat cs.length))]
  refine go_istoreN (q := 15) (l' := #[.val (.ref t), .val (.int (Int32.ofNat 0)), .val (.int (Int32.ofNat 0)), .val (.int (Int32.ofNat cs.length))]) d32_14 rfl rfl ?_
  refine go_iloadN (q := 16) d32_15 rfl rfl ?_
  refine go_iloadN (q := 17) d32_16 rfl rfl ?_
  refine go_icmp (q := 22) (q2 := 20) d32_17 (by decide) (by decide) rfl (fun _ => ?_) (fun hc => absurd hc (by rw [ic_lt _ _ (by omega) (by omega), decide_eq_false_iff_not]; omega))
  refine go_iloadN (q := 23) d32_22 rfl rfl ?_
  refine go_ldcI (q := 25) (v := (Int32.ofNat 65536)) d32_23 rfl (hw _ (List.mem_of_getElem? (i := 264) rfl)) ?_
  refine go_icmp (q := 36) (q2 := 28) d32_25 (by decide) (by decide) rfl (fun hc => absurd hc (by rw [ic_ge _ _ (by omega) (by omega), decide_eq_true_iff]; omega)) (fun _ => ?_)
  refine go_aloadN (q := 29) d32_28 rfl rfl rfl ?_
  refine go_iloadN (q := 30) d32_29 rfl rfl ?_
  refine go_iloadN (q := 31) d32_30 rfl rfl ?_
  refine go_iloadN (q := 32) d32_31 rfl rfl ?_
  refine go_pS (q := 35) (y := (⟨"java/lang/StringUTF16", "indexOfChar", "([BIII)I"⟩ : MethodName)) (W := 0) (argsL := [(.ref t), (.int (Int32.ofNat 0)), (.int (Int32.ofNat 0)), (.int (Int32.ofNat cs.length))]) (rest := []) (v := some (.int (-1 : Int32))) d32_32 rfl (hw _ (List.mem_of_getElem? (i := 265) rfl)) (hw _ (List.mem_of_getElem? (i := 266) rfl)) (hw _ (List.mem_of_getElem? (i := 23) rfl)) (hw _ (List.mem_of_getElem? (i := 267) rfl)) (by decide) (conUC B E0 hn hp F) rfl rfl (lenOf pd19 rfl) (Nat.le_of_ble_eq_true rfl) (by decide) (by decide) rfl rfl (by decide) (by decide) ?_
  show Go l false Z [] _ _ _ _ _ _ _ _ _ _ _ 35 #[.val (.ref t), .val (.int (Int32.ofNat 0)), .val (.int (Int32.ofNat 0)), .val (.int (Int32.ofNat cs.length))] [(.int (-1 : Int32))]
  exact go_ireturn (out := []) rfl (by simp) rfl d32_35 ⟨rfl, rfl, rfl⟩ all0 (by decide) (by decide)
theorem d33_0 : decode jdk_42_method_80_code 0 = .ok (.aload_n 0, 1) := by decide +kernel
theorem d33_1 : decode jdk_42_method_80_code 1 = .ok (.invokevirtual 492, 3) := by decide +kernel
theorem d33_4 : decode jdk_42_method_80_code 4 = .ok (.ifCond .eq 19, 3) := by decide +kernel
theorem d33_7 : decode jdk_42_method_80_code 7 = .ok (.aload_n 0, 1) := by decide +kernel
theorem d33_8 : decode jdk_42_method_80_code 8 = .ok (.getfield 9, 3) := by decide +kernel
theorem d33_11 : decode jdk_42_method_80_code 11 = .ok (.iload_n 1, 1) := by decide +kernel
theorem d33_12 : decode jdk_42_method_80_code 12 = .ok (.iload_n 2, 1) := by decide +kernel
theorem d33_13 : decode jdk_42_method_80_code 13 = .ok (.aload_n 0, 1) := by decide +kernel
theorem d33_14 : decode jdk_42_method_80_code 14 = .ok (.invokevirtual 505, 3) := by decide +kernel
theorem d33_17 : decode jdk_42_method_80_code 17 = .ok (.invokestatic 637, 3) := by decide +kernel
theorem d33_20 : decode jdk_42_method_80_code 20 = .ok (.goto 16, 3) := by decide +kernel
theorem d33_23 : decode jdk_42_method_80_code 23 = .ok (.aload_n 0, 1) := by decide +kernel
theorem d33_24 : decode jdk_42_method_80_code 24 = .ok (.getfield 9, 3) := by decide +kernel
theorem d33_27 : decode jdk_42_method_80_code 27 = .ok (.iload_n 1, 1) := by decide +kernel
theorem d33_28 : decode jdk_42_method_80_code 28 = .ok (.iload_n 2, 1) := by decide +kernel
theorem d33_29 : decode jdk_42_method_80_code 29 = .ok (.aload_n 0, 1) := by decide +kernel
theorem d33_30 : decode jdk_42_method_80_code 30 = .ok (.invokevirtual 505, 3) := by decide +kernel
theorem d33_33 : decode jdk_42_method_80_code 33 = .ok (.invokestatic 640, 3) := by decide +kernel
theorem d33_36 : decode jdk_42_method_80_code 36 = .ok (.ireturn, 1) := by decide +kernel
theorem ef33 (m : MethodId) (a0 : Addr) (i1 : Int32) (i2 : Int32) : entryFrame m #[(.ref a0), (.int i1), (.int i2)] 3 = mkF m 0 #[.val (.ref a0), .val (.int i1), .val (.int i2)] [] := by first | (simp [entryFrame, mkF, argsToLocals, Value.category]; done) | rfl
abbrev r_conX2 : Room := { frames := 5, cells := 0, slots := 0, locals := 73 }
set_option maxRecDepth 65536 in
set_option maxHeartbeats 4000000 in
theorem conX2 {l : Launch} {Z : State} {a0 : Array Value} {G1 : Int32} {G3 : Value} {h : Heap} {x : Addr} {cs : List Nat} (B : Base Z a0 G1 G3) (E0 : Ext Z.heap h) (h1n : 1 ≤ cs.length) (hn : cs.length ≤ 4) (hp : ∀ c ∈ cs, 1 ≤ c ∧ c < 65536) (SV : StrV Z h x cs) : Con l false Z [] (⟨"java/lang/String", "indexOf", "(II)I"⟩ : MethodName) jdk_42_method_80_code 3 (some .int) [] r_conX2 #[(.ref x), (.int (Int32.ofNat 0)), (.int (Int32.ofNat 0))] h [] (PQ (some (.int (-1))) h) := by
  have hw := B.hw
  refine con_of_go pn3_String (fun m => ef33 m x (Int32.ofNat 0) (Int32.ofNat 0)) E0 EW.none ?_
  obtain ⟨A, t, k, V, ⟨Cf, hsm, F⟩ | ⟨Cf, F⟩⟩ := SV
  · refine go_aloadN (q := 1) d33_0 rfl rfl rfl ?_
    refine go_pV (q := 4) (y := (⟨"java/lang/String", "isLatin1", "()Z"⟩ : MethodName)) (W := 0) (argsL := []) (rest := []) (v := some (.int (1 : Int32))) d33_1 rfl (hw _ (List.mem_of_getElem? (i := 184) rfl)) (hw _ (List.mem_of_getElem? (i := 185) rfl)) (fun s hZ => nf_of (args := #[]) (mvT hZ (hw _ (List.mem_of_getElem? (i := 85) rfl))) rfl) (hw _ (List.mem_of_getElem? (i := 187) rfl)) (hw _ (List.mem_of_getElem? (i := 186) rfl)) A (hw _ (List.mem_of_getElem? (i := 188) rfl)) (hw _ (List.mem_of_getElem? (i := 8) rfl)) (by decide) (conIL0 B E0 Cf) rfl rfl (lenOf pd17 rfl) (Nat.le_of_ble_eq_true rfl) (by decide) (by decide) rfl rfl (by decide) (by decide) ?_
    show Go l false Z [] _ _ _ _ _ _ _ _ _ _ _ 4 #[.val (.ref x), .val (.int (Int32.ofNat 0)), .val (.int (Int32.ofNat 0))] [(.int (1 : Int32))]
    refine go_if (q := 23) (q2 := 7) d33_4 (by decide) (by decide) rfl (fun hc => absurd hc (by decide)) (fun _ => ?_)
    refine go_aloadN (q := 8) d33_7 rfl rfl rfl ?_
    refine go_getfield (q := 11) d33_8 rfl (hw _ (List.mem_of_getElem? (i := 34) rfl)) Via.refl V ?_
    refine go_iloadN (q := 12) d33_11 rfl rfl ?_
    refine go_iloadN (q := 13) d33_12 rfl rfl ?_
    refine go_aloadN (q := 14) d33_13 rfl rfl rfl ?_
    refine go_pV (q := 17) (y := (⟨"java/lang/String", "length", "()I"⟩ : MethodName)) (W := 3) (argsL := []) (rest := [(.int (Int32.ofNat 0)), (.int (Int32.ofNat 0)), (.ref t)]) (v := some (.int (Int32.ofNat cs.length))) d33_14 rfl (hw _ (List.mem_of_getElem? (i := 189) rfl)) (hw _ (List.mem_of_getElem? (i := 83) rfl)) (fun s hZ => nf_of (args := #[]) (mvT hZ (hw _ (List.mem_of_getElem? (i := 85) rfl))) rfl) (hw _ (List.mem_of_getElem? (i := 85) rfl)) (hw _ (List.mem_of_getElem? (i := 84) rfl)) A (hw _ (List.mem_of_getElem? (i := 86) rfl)) (hw _ (List.mem_of_getElem? (i := 8) rfl)) (by decide) (conLn B E0 rfl A V Cf F (r := Int32.ofNat cs.length) (shr0 _)) rfl rfl (lenOf pd16 rfl) (Nat.le_of_ble_eq_true rfl) (by decide) (by decide) rfl rfl (by decide) (by decide) ?_
    show Go l false Z [] _ _ _ _ _ _ _ _ _ _ _ 17 #[.val (.ref x), .val (.int (Int32.ofNat 0)), .val (.int (Int32.ofNat 0))] [(.int (Int32.ofNat cs.length)), (.int (Int32.ofNat 0)), (.int (Int32.ofNat 0)), (.ref t)]
    refine go_pS (q := 20) (y := (⟨"java/lang/StringLatin1", "indexOf", "([BIII)I"⟩ : MethodName)) (W := 0) (argsL := [(.ref t), (.int (Int32.ofNat 0)), (.int (Int32.ofNat 0)), (.int (Int32.ofNat cs.length))]) (rest := []) (v := some (.int (-1 : Int32))) d33_17 rfl (hw _ (List.mem_of_getElem? (i := 190) rfl)) (hw _ (List.mem_of_getElem? (i := 191) rfl)) (hw _ (List.mem_of_getElem? (i := 41) rfl)) (hw _ (List.mem_of_getElem? (i := 192) rfl)) (by decide) (conLX B E0 h1n hn (fun c hc => ⟨(hp c hc).1, hsm c hc⟩) F) rfl rfl (lenOf pd19 rfl) (Nat.le_of_ble_eq_true rfl) (by decide) (by decide) rfl rfl (by decide) (by decide) ?_
    show Go l false Z [] _ _ _ _ _ _ _ _ _ _ _ 20 #[.val (.ref x), .val (.int (Int32.ofNat 0)), .val (.int (Int32.ofNat 0))] [(.int (-1 : Int32))]
    refine go_goto (q := 36) d33_20 (by decide) (by decide) ?_
    exact go_ireturn (out := []) rfl (by simp) rfl d33_36 ⟨rfl, rfl, rfl⟩ all0 (by decide) (by decide)
  · refine go_aloadN (q := 1) d33_0 rfl rfl rfl ?_
    refine go_pV (q := 4) (y := (⟨"java/lang/String", "isLatin1", "()Z"⟩ : MethodName)) (W := 0) (argsL := []) (rest := []) (v := some (.int (0 : Int32))) d33_1 rfl (hw _ (List.mem_of_getElem? (i := 184) rfl)) (hw _ (List.mem_of_getElem? (i := 185) rfl)) (fun s hZ => nf_of (args := #[]) (mvT hZ (hw _ (List.mem_of_getElem? (i := 85) rfl))) rfl) (hw _ (List.mem_of_getElem? (i := 187) rfl)) (hw _ (List.mem_of_getElem? (i := 186) rfl)) A (hw _ (List.mem_of_getElem? (i := 188) rfl)) (hw _ (List.mem_of_getElem? (i := 8) rfl)) (by decide) (conIL1 B E0 Cf) rfl rfl (lenOf pd17 rfl) (Nat.le_of_ble_eq_true rfl) (by decide) (by decide) rfl rfl (by decide) (by decide) ?_
    show Go l false Z [] _ _ _ _ _ _ _ _ _ _ _ 4 #[.val (.ref x), .val (.int (Int32.ofNat 0)), .val (.int (Int32.ofNat 0))] [(.int (0 : Int32))]
    refine go_if (q := 23) (q2 := 7) d33_4 (by decide) (by decide) rfl (fun _ => ?_) (fun hc => absurd hc (by decide))
    refine go_aloadN (q := 24) d33_23 rfl rfl rfl ?_
    refine go_getfield (q := 27) d33_24 rfl (hw _ (List.mem_of_getElem? (i := 34) rfl)) Via.refl V ?_
    refine go_iloadN (q := 28) d33_27 rfl rfl ?_
    refine go_iloadN (q := 29) d33_28 rfl rfl ?_
    refine go_aloadN (q := 30) d33_29 rfl rfl rfl ?_
    refine go_pV (q := 33) (y := (⟨"java/lang/String", "length", "()I"⟩ : MethodName)) (W := 3) (argsL := []) (rest := [(.int (Int32.ofNat 0)), (.int (Int32.ofNat 0)), (.ref t)]) (v := some (.int (Int32.ofNat cs.length))) d33_30 rfl (hw _ (List.mem_of_getElem? (i := 189) rfl)) (hw _ (List.mem_of_getElem? (i := 83) rfl)) (fun s hZ => nf_of (args := #[]) (mvT hZ (hw _ (List.mem_of_getElem? (i := 85) rfl))) rfl) (hw _ (List.mem_of_getElem? (i := 85) rfl)) (hw _ (List.mem_of_getElem? (i := 84) rfl)) A (hw _ (List.mem_of_getElem? (i := 86) rfl)) (hw _ (List.mem_of_getElem? (i := 8) rfl)) (by decide) (conLn B E0 rfl A V Cf F (r := Int32.ofNat cs.length) (shr1 cs.length (by omega))) rfl rfl (lenOf pd16 rfl) (Nat.le_of_ble_eq_true rfl) (by decide) (by decide) rfl rfl (by decide) (by decide) ?_
    show Go l false Z [] _ _ _ _ _ _ _ _ _ _ _ 33 #[.val (.ref x), .val (.int (Int32.ofNat 0)), .val (.int (Int32.ofNat 0))] [(.int (Int32.ofNat cs.length)), (.int (Int32.ofNat 0)), (.int (Int32.ofNat 0)), (.ref t)]
    refine go_pS (q := 36) (y := (⟨"java/lang/StringUTF16", "indexOf", "([BIII)I"⟩ : MethodName)) (W := 0) (argsL := [(.ref t), (.int (Int32.ofNat 0)), (.int (Int32.ofNat 0)), (.int (Int32.ofNat cs.length))]) (rest := []) (v := some (.int (-1 : Int32))) d33_33 rfl (hw _ (List.mem_of_getElem? (i := 259) rfl)) (hw _ (List.mem_of_getElem? (i := 260) rfl)) (hw _ (List.mem_of_getElem? (i := 23) rfl)) (hw _ (List.mem_of_getElem? (i := 261) rfl)) (by decide) (conUX B E0 h1n hn hp F) rfl rfl (lenOf pd19 rfl) (Nat.le_of_ble_eq_true rfl) (by decide) (by decide) rfl rfl (by decide) (by decide) ?_
    show Go l false Z [] _ _ _ _ _ _ _ _ _ _ _ 36 #[.val (.ref x), .val (.int (Int32.ofNat 0)), .val (.int (Int32.ofNat 0))] [(.int (-1 : Int32))]
    exact go_ireturn (out := []) rfl (by simp) rfl d33_36 ⟨rfl, rfl, rfl⟩ all0 (by decide) (by decide)
theorem d34_0 : decode jdk_42_method_79_code 0 = .ok (.aload_n 0, 1) := by decide +kernel
theorem d34_1 : decode jdk_42_method_79_code 1 = .ok (.iload_n 1, 1) := by decide +kernel
theorem d34_2 : decode jdk_42_method_79_code 2 = .ok (.iconst 0, 1) := by decide +kernel
theorem d34_3 : decode jdk_42_method_79_code 3 = .ok (.invokevirtual 633, 3) := by decide +kernel
theorem d34_6 : decode jdk_42_method_79_code 6 = .ok (.ireturn, 1) := by decide +kernel
theorem ef34 (m : MethodId) (a0 : Addr) (i1 : Int32) : entryFrame m #[(.ref a0), (.int i1)] 2 = mkF m 0 #[.val (.ref a0), .val (.int i1)] [] := by first | (simp [entryFrame, mkF, argsToLocals, Value.category]; done) | rfl
abbrev r_conX1 : Room := { frames := 6, cells := 0, slots := 0, locals := 87 }
set_option maxRecDepth 65536 in
set_option maxHeartbeats 4000000 in
theorem conX1 {l : Launch} {Z : State} {a0 : Array Value} {G1 : Int32} {G3 : Value} {h : Heap} {x : Addr} {cs : List Nat} (B : Base Z a0 G1 G3) (E0 : Ext Z.heap h) (h1n : 1 ≤ cs.length) (hn : cs.length ≤ 4) (hp : ∀ c ∈ cs, 1 ≤ c ∧ c < 65536) (SV : StrV Z h x cs) : Con l false Z [] (⟨"java/lang/String", "indexOf", "(I)I"⟩ : MethodName) jdk_42_method_79_code 2 (some .int) [] r_conX1 #[(.ref x), (.int (Int32.ofNat 0))] h [] (PQ (some (.int (-1))) h) := by
  have hw := B.hw
  refine con_of_go pn3_String (fun m => ef34 m x (Int32.ofNat 0)) E0 EW.none ?_
  refine go_aloadN (q := 1) d34_0 rfl rfl rfl ?_
  refine go_iloadN (q := 2) d34_1 rfl rfl ?_
  refine go_iconst (q := 3) (z := (Int32.ofNat 0)) d34_2 rfl rfl ?_
  refine go_pV (q := 6) (y := (⟨"java/lang/String", "indexOf", "(II)I"⟩ : MethodName)) (W := 0) (argsL := [(.int (Int32.ofNat 0)), (.int (Int32.ofNat 0))]) (rest := []) (v := some (.int (-1 : Int32))) d34_3 rfl (hw _ (List.mem_of_getElem? (i := 179) rfl)) (hw _ (List.mem_of_getElem? (i := 180) rfl)) (fun s hZ => nf_of (args := #[]) (mvT hZ (hw _ (List.mem_of_getElem? (i := 85) rfl))) rfl) (hw _ (List.mem_of_getElem? (i := 182) rfl)) (hw _ (List.mem_of_getElem? (i := 181) rfl)) SV.1 (hw _ (List.mem_of_getElem? (i := 183) rfl)) (hw _ (List.mem_of_getElem? (i := 8) rfl)) (by decide) (conX2 B E0 h1n hn hp SV) rfl rfl (lenOf pd18 rfl) (Nat.le_of_ble_eq_true rfl) (by decide) (by decide) rfl rfl (by decide) (by decide) ?_
  show Go l false Z [] _ _ _ _ _ _ _ _ _ _ _ 6 #[.val (.ref x), .val (.int (Int32.ofNat 0))] [(.int (-1 : Int32))]
  exact go_ireturn (out := []) rfl (by simp) rfl d34_6 ⟨rfl, rfl, rfl⟩ all0 (by decide) (by decide)
theorem d35_0 : decode jdk_31_method_11_code 0 = .ok (.aload_n 0, 1) := by decide +kernel
theorem d35_1 : decode jdk_31_method_11_code 1 = .ok (.ifnonnull 12, 3) := by decide +kernel
theorem d35_4 : decode jdk_31_method_11_code 4 = .ok (.new 84, 3) := by decide +kernel
theorem d35_7 : decode jdk_31_method_11_code 7 = .ok (.dup, 1) := by decide +kernel
theorem d35_8 : decode jdk_31_method_11_code 8 = .ok (.aload_n 1, 1) := by decide +kernel
theorem d35_9 : decode jdk_31_method_11_code 9 = .ok (.invokespecial 87, 3) := by decide +kernel
theorem d35_12 : decode jdk_31_method_11_code 12 = .ok (.athrow, 1) := by decide +kernel
theorem d35_13 : decode jdk_31_method_11_code 13 = .ok (.aload_n 0, 1) := by decide +kernel
theorem d35_14 : decode jdk_31_method_11_code 14 = .ok (.areturn, 1) := by decide +kernel
theorem pn5_Objects : plainName "java/util/Objects" = true := by first | (simp [plainName, overriddenIn]; done) | decide +kernel
theorem pd24 : parseMethodDescriptor "(Ljava/lang/Object;Ljava/lang/String;)Ljava/lang/Object;" = some ⟨[(.object "java/lang/Object"), (.object "java/lang/String")], some (.object "java/lang/Object")⟩ := by decide +kernel
theorem ef35 (m : MethodId) (a0 : Addr) (a1 : Addr) : entryFrame m #[(.ref a0), (.ref a1)] 2 = mkF m 0 #[.val (.ref a0), .val (.ref a1)] [] := by first | (simp [entryFrame, mkF, argsToLocals, Value.category]; done) | rfl
abbrev r_conRN : Room := { frames := 0, cells := 0, slots := 0, locals := 0 }
set_option maxRecDepth 65536 in
set_option maxHeartbeats 4000000 in
theorem conRN {l : Launch} {Z : State} {a0 : Array Value} {G1 : Int32} {G3 : Value} {h : Heap} {x y : Addr} (B : Base Z a0 G1 G3) (E0 : Ext Z.heap h)  : Con l false Z [] (⟨"java/util/Objects", "requireNonNull", "(Ljava/lang/Object;Ljava/lang/String;)Ljava/lang/Object;"⟩ : MethodName) jdk_31_method_11_code 2 (some (.object "java/lang/Object")) [] r_conRN #[(.ref x), (.ref y)] h [] (PQ (some (.ref x)) h) := by
  have hw := B.hw
  refine con_of_go pn5_Objects (fun m => ef35 m x y) E0 EW.none ?_
  refine go_aloadN (q := 1) d35_0 rfl rfl rfl ?_
  refine go_ifnonnullY (q := 13) d35_1 (by decide) (by decide) ?_
  refine go_aloadN (q := 14) d35_13 rfl rfl rfl ?_
  exact go_areturn (out := []) rfl rfl rfl rfl d35_14 ⟨rfl, rfl, rfl⟩ all0 (by decide) (by decide)
/-- a builder with this byte array -/
def SBs (Z : State) (h : Heap) (x a : Addr) (k : ClassId) (cod cnt : Int32) (N : Nat) : Prop := Exa Z h x "java/lang/StringBuilder" ∧ Fld Z h x "java/lang/AbstractStringBuilder" "value" "[B" (.ref a) ∧ Fld Z h x "java/lang/AbstractStringBuilder" "coder" "B" (.int cod) ∧ Fld Z h x "java/lang/AbstractStringBuilder" "count" "I" (.int cnt) ∧ Fld Z h x "java/lang/AbstractStringBuilder" "maybeLatin1" "Z" (.int 0) ∧ Byt Z h a k N ∧ Exa Z h a "[B" ∧ a ≠ x
theorem SBs.ext {Z : State} {h h' : Heap} {x a : Addr} {k : ClassId} {cod cnt : Int32} {N : Nat} (F : SBs Z h x a k cod cnt N) (E : Ext h h') : SBs Z h' x a k cod cnt N := ⟨F.1.ext E, F.2.1.ext E, F.2.2.1.ext E, F.2.2.2.1.ext E, F.2.2.2.2.1.ext E, F.2.2.2.2.2.1.ext E, F.2.2.2.2.2.2.1.ext E, F.2.2.2.2.2.2.2⟩
theorem SBs.arr {Z : State} {h h' : Heap} {x a : Addr} {k : ClassId} {cod cnt : Int32} {N : Nat} (F : SBs Z h x a k cod cnt N) (K : Keep h h' [a]) (F2 : Byt Z h' a k N) : SBs Z h' x a k cod cnt N := by
  have nx : x ∉ [a] := ninS (Ne.symm F.2.2.2.2.2.2.2) nin0
  exact ⟨F.1.keep K, F.2.1.keep K nx, F.2.2.1.keep K nx, F.2.2.2.1.keep K nx, F.2.2.2.2.1.keep K nx, F2, F.2.2.2.2.2.2.1.keep K, F.2.2.2.2.2.2.2⟩
theorem SBs.wCount {Z : State} {h h' : Heap} {x a : Addr} {k : ClassId} {cod cnt : Int32} {N : Nat} {a0 : Array Value} {G1 : Int32} {G3 : Value} {c2 : Int32} (B : Base Z a0 G1 G3) (F : SBs Z h x a k cod cnt N) (W : Wr h h' x (RoadKit.slotOf Z "java/lang/AbstractStringBuilder" "count" "I") (.int c2)) : SBs Z h' x a k cod c2 N := by
  have hw := B.hw
  exact ⟨F.1.wr W, F.2.1.other W (Or.inr (slot_ne (C := "java/lang/StringBuilder") (t := .array .byte) (t' := .int) (Or.inl (hw _ (List.mem_of_getElem? (i := 69) rfl))) (Or.inl (hw _ (List.mem_of_getElem? (i := 93) rfl))) (by decide) (by decide +kernel) (by decide +kernel))), F.2.2.1.other W (Or.inr (slot_ne (C := "java/lang/StringBuilder") (t := .byte) (t' := .int) (Or.inl (hw _ (List.mem_of_getElem? (i := 71) rfl))) (Or.inl (hw _ (List.mem_of_getElem? (i := 93) rfl))) (by decide) (by decide +kernel) (by decide +kernel))), F.2.2.2.1.same W, F.2.2.2.2.1.other W (Or.inr (slot_ne (C := "java/lang/StringBuilder") (t := .boolean) (t' := .int) (Or.inl (hw _ (List.mem_of_getElem? (i := 258) rfl))) (Or.inl (hw _ (List.mem_of_getElem? (i := 93) rfl))) (by decide) (by decide +kernel) (by decide +kernel))), F.2.2.2.2.2.1.keep (Keep.of_wr W) (ninS F.2.2.2.2.2.2.2 nin0), F.2.2.2.2.2.2.1.wr W, F.2.2.2.2.2.2.2⟩
theorem SBs.wBoth {Z : State} {h h' h2 : Heap} {x : Addr} {cnt : Int32} {a2 : Addr} {k2 : ClassId} {N2 : Nat} {a0 : Array Value} {G1 : Int32} {G3 : Value} {c2 : Int32} {v0 c0 : Value} (B : Base Z a0 G1 G3) (A : Exa Z h x "java/lang/StringBuilder") (V : Fld Z h x "java/lang/AbstractStringBuilder" "value" "[B" (v0)) (Cf : Fld Z h x "java/lang/AbstractStringBuilder" "coder" "B" (c0)) (Nf : Fld Z h x "java/lang/AbstractStringBuilder" "count" "I" (.int cnt)) (Mf : Fld Z h x "java/lang/AbstractStringBuilder" "maybeLatin1" "Z" (.int 0)) (W : Wr h h' x (RoadKit.slotOf Z "java/lang/AbstractStringBuilder" "value" "[B") (.ref a2)) (W2 : Wr h' h2 x (RoadKit.slotOf Z "java/lang/AbstractStringBuilder" "coder" "B") (.int c2)) (F2 : Byt Z h a2 k2 N2) (G2 : Exa Z h a2 "[B") (n2 : a2 ≠ x) : SBs Z h2 x a2 k2 c2 cnt N2 := by
  have hw := B.hw
  exact ⟨(A.wr W).wr W2, (V.same W).other W2 (Or.inr (slot_ne (C := "java/lang/StringBuilder") (t := .array .byte) (t' := .byte) (Or.inl (hw _ (List.mem_of_getElem? (i := 69) rfl))) (Or.inl (hw _ (List.mem_of_getElem? (i := 71) rfl))) (by decide) (by decide +kernel) (by decide +kernel))), (Cf.other W (Or.inr (slot_ne (C := "java/lang/StringBuilder") (t := .byte) (t' := .array .byte) (Or.inl (hw _ (List.mem_of_getElem? (i := 71) rfl))) (Or.inl (hw _ (List.mem_of_getElem? (i := 69) rfl))) (by decide) (by decide +kernel) (by decide +kernel)))).same W2, (Nf.other W (Or.inr (slot_ne (C := "java/lang/StringBuilder") (t := .int) (t' := .array .byte) (Or.inl (hw _ (List.mem_of_getElem? (i := 93) rfl))) (Or.inl (hw _ (List.mem_of_getElem? (i := 69) rfl))) (by decide) (by decide +kernel) (by decide +kernel)))).other W2 (Or.inr (slot_ne (C := "java/lang/StringBuilder") (t := .int) (t' := .byte) (Or.inl (hw _ (List.mem_of_getElem? (i := 93) rfl))) (Or.inl (hw _ (List.mem_of_getElem? (i := 71) rfl))) (by decide) (by decide +kernel) (by decide +kernel))), (Mf.other W (Or.inr (slot_ne (C := "java/lang/StringBuilder") (t := .boolean) (t' := .array .byte) (Or.inl (hw _ (List.mem_of_getElem? (i := 258) rfl))) (Or.inl (hw _ (List.mem_of_getElem? (i := 69) rfl))) (by decide) (by decide +kernel) (by decide +kernel)))).other W2 (Or.inr (slot_ne (C := "java/lang/StringBuilder") (t := .boolean) (t' := .byte) (Or.inl (hw _ (List.mem_of_getElem? (i := 258) rfl))) (Or.inl (hw _ (List.mem_of_getElem? (i := 71) rfl))) (by decide) (by decide +kernel) (by decide +kernel))), (F2.keep (Keep.of_wr W) (ninS n2 nin0)).keep (Keep.of_wr W2) (ninS n2 nin0), (G2.wr W).wr W2, n2⟩
theorem arv_int {Z : State} {h : Heap} {a : Addr} {k : ClassId} {z : Int32} {vs : List Value} {d : Value} (F : Arv Z h a k .byte z vs d) {j : Nat} (hj : j < z.toNatClampNeg) : ∃ b : Int32, vs.getD j d = .int b := by
  obtain ⟨c, A, -, S, -, -, G⟩ := F
  have q := G j (by rw [S]; exact hj)
  cases hv : vs.getD j d <;> rw [hv] at q <;> first | exact ⟨_, rfl⟩ | simp [fits] at q
def QAI (Z : State) (h : Heap) (x : Addr) (v : Option Value) (h' : Heap) (out : List Addr) : Prop := v = none ∧ Keep h h' [x] ∧ ∃ (a : Addr) (k : ClassId), out = [a] ∧ h.size ≤ a ∧ a < h'.size ∧ SBs Z h' x a k (Int32.ofNat 0) (Int32.ofNat 0) 16
theorem d36_0 : decode jdk_68_method_2_code 0 = .ok (.aload_n 0, 1) := by decide +kernel
theorem d36_1 : decode jdk_68_method_2_code 1 = .ok (.invokespecial 3, 3) := by decide +kernel
theorem d36_4 : decode jdk_68_method_2_code 4 = .ok (.getstatic 18, 3) := by decide +kernel
theorem d36_7 : decode jdk_68_method_2_code 7 = .ok (.ifCond .eq 18, 3) := by decide +kernel
theorem d36_10 : decode jdk_68_method_2_code 10 = .ok (.aload_n 0, 1) := by decide +kernel
theorem d36_11 : decode jdk_68_method_2_code 11 = .ok (.iload_n 1, 1) := by decide +kernel
theorem d36_12 : decode jdk_68_method_2_code 12 = .ok (.newarray .byte, 2) := by decide +kernel
theorem d36_14 : decode jdk_68_method_2_code 14 = .ok (.putfield 15, 3) := by decide +kernel
theorem d36_17 : decode jdk_68_method_2_code 17 = .ok (.aload_n 0, 1) := by decide +kernel
theorem d36_18 : decode jdk_68_method_2_code 18 = .ok (.iconst 0, 1) := by decide +kernel
theorem d36_19 : decode jdk_68_method_2_code 19 = .ok (.putfield 22, 3) := by decide +kernel
theorem d36_22 : decode jdk_68_method_2_code 22 = .ok (.goto 16, 3) := by decide +kernel
theorem d36_25 : decode jdk_68_method_2_code 25 = .ok (.aload_n 0, 1) := by decide +kernel
theorem d36_26 : decode jdk_68_method_2_code 26 = .ok (.iload_n 1, 1) := by decide +kernel
theorem d36_27 : decode jdk_68_method_2_code 27 = .ok (.invokestatic 26, 3) := by decide +kernel
theorem d36_30 : decode jdk_68_method_2_code 30 = .ok (.putfield 15, 3) := by decide +kernel
theorem d36_33 : decode jdk_68_method_2_code 33 = .ok (.aload_n 0, 1) := by decide +kernel
theorem d36_34 : decode jdk_68_method_2_code 34 = .ok (.iconst 1, 1) := by decide +kernel
theorem d36_35 : decode jdk_68_method_2_code 35 = .ok (.putfield 22, 3) := by decide +kernel
theorem d36_38 : decode jdk_68_method_2_code 38 = .ok (.return_, 1) := by decide +kernel
theorem pn6_AbstractStringBuilder : plainName "java/lang/AbstractStringBuilder" = true := by first | (simp [plainName, overriddenIn]; done) | decide +kernel
theorem pd25 : parseMethodDescriptor "(I)V" = some ⟨[.int], none⟩ := by decide +kernel
theorem ef36 (m : MethodId) (a0 : Addr) (i1 : Int32) : entryFrame m #[(.ref a0), (.int i1)] 2 = mkF m 0 #[.val (.ref a0), .val (.int i1)] [] := by first | (simp [entryFrame, mkF, argsToLocals, Value.category]; done) | rfl
abbrev r_conAI : Room := { frames := 1, cells := 1, slots := 16, locals := 12 }
set_option maxRecDepth 65536 in
set_option maxHeartbeats 4000000 in
theorem conAI {l : Launch} {Z : State} {a0 : Array Value} {G1 : Int32} {G3 : Value} {h : Heap} {x : Addr} {v0 c0 : Value} (B : Base Z a0 G1 G3) (E0 : Ext Z.heap h) (A : Exa Z h x "java/lang/StringBuilder") (V : Fld Z h x "java/lang/AbstractStringBuilder" "value" "[B" (v0)) (Cf : Fld Z h x "java/lang/AbstractStringBuilder" "coder" "B" (c0)) (Nf : Fld Z h x "java/lang/AbstractStringBuilder" "count" "I" (.int 0)) (Mf : Fld Z h x "java/lang/AbstractStringBuilder" "maybeLatin1" "Z" (.int 0)) : Con l false Z [] (⟨"java/lang/AbstractStringBuilder", "<init>", "(I)V"⟩ : MethodName) jdk_68_method_2_code 2 none [] r_conAI #[(.ref x), (.int (Int32.ofNat 16))] h [x] (QAI Z h x) := by
  have hw := B.hw
  refine con_of_go pn6_AbstractStringBuilder (fun m => ef36 m x (Int32.ofNat 16)) E0 EW.none ?_
  refine go_aloadN (q := 1) d36_0 rfl rfl rfl ?_
  refine go_initObj (q := 4) (W := 0) d36_1 rfl (hw _ (List.mem_of_getElem? (i := 66) rfl)) (hw _ (List.mem_of_getElem? (i := 18) rfl)) (hw _ (List.mem_of_getElem? (i := 19) rfl)) rfl (by decide) (Nat.le_of_ble_eq_true rfl) (by decide) ?_
  refine go_getstatic (q := 7) d36_4 rfl (hw _ (List.mem_of_getElem? (i := 67) rfl)) Via.refl B.O2 ?_
  refine go_if (q := 25) (q2 := 10) d36_7 (by decide) (by decide) rfl (fun hc => absurd hc (by simpa [ifCond.holds] using B.P5)) (fun _ => ?_)
  refine go_aloadN (q := 11) d36_10 rfl rfl rfl ?_
  refine go_iloadN (q := 12) d36_11 rfl rfl ?_
  refine go_newarray (q := 14) (cap := 16) (ad := "[B") d36_12 rfl (hw _ (List.mem_of_getElem? (i := 25) rfl)) (by decide) (by decide) (by decide) (by decide) (by decide) rfl fun h1 a k1 e1 E1 F1 B1 => ?_
  have na : a ≠ x := Ne.symm (by rw [e1]; exact Nat.ne_of_lt A.lt)
  refine go_putfield (q := 17) (ty := .array .byte) d36_14 rfl (hw _ (List.mem_of_getElem? (i := 68) rfl)) Via.refl (V.ext E1) (A.ext E1) (Or.inl (hw _ (List.mem_of_getElem? (i := 69) rfl))) (hw _ (List.mem_of_getElem? (i := 55) rfl)) (by decide +kernel) rfl rfl (by simp) fun h2 W2 => ?_
  refine go_aloadN (q := 18) d36_17 rfl rfl rfl ?_
  refine go_iconst (q := 19) (z := (Int32.ofNat 0)) d36_18 rfl rfl ?_
  refine go_putfield (q := 22) (ty := .byte) d36_19 rfl (hw _ (List.mem_of_getElem? (i := 70) rfl)) Via.refl ((Cf.ext E1).other W2 (Or.inr (slot_ne (C := "java/lang/StringBuilder") (t := .byte) (t' := .array .byte) (Or.inl (hw _ (List.mem_of_getElem? (i := 71) rfl))) (Or.inl (hw _ (List.mem_of_getElem? (i := 69) rfl))) (by decide) (by decide +kernel) (by decide +kernel)))) ((A.ext E1).wr W2) (Or.inl (hw _ (List.mem_of_getElem? (i := 71) rfl))) (hw _ (List.mem_of_getElem? (i := 55) rfl)) (by decide +kernel) rfl rfl (by simp) fun h3 W3 => ?_
  refine go_goto (q := 38) d36_22 (by decide) (by decide) ?_
  have FF := SBs.wBoth B (A.ext E1) (V.ext E1) (Cf.ext E1) (Nf.ext E1) (Mf.ext E1) W2 W3 (Byt.new (N := 16) F1) B1 na
  exact go_return (out := [a]) rfl d36_38 ⟨rfl, ((keep_ext E1 [x]).wr W2 (Or.inl (List.mem_cons_self ..))).wr W3 (Or.inl (List.mem_cons_self ..)), a, k1, rfl, Nat.le_of_eq e1.symm, FF.2.2.2.2.2.1.lt, FF⟩ (by simp) (by decide) (by decide)
theorem d37_0 : decode jdk_67_method_1_code 0 = .ok (.aload_n 0, 1) := by decide +kernel
theorem d37_1 : decode jdk_67_method_1_code 1 = .ok (.bipush 16, 2) := by decide +kernel
theorem d37_3 : decode jdk_67_method_1_code 3 = .ok (.invokespecial 1, 3) := by decide +kernel
theorem d37_6 : decode jdk_67_method_1_code 6 = .ok (.return_, 1) := by decide +kernel
theorem pn7_StringBuilder : plainName "java/lang/StringBuilder" = true := by first | (simp [plainName, overriddenIn]; done) | decide +kernel
theorem pd26 : parseMethodDescriptor "()V" = some ⟨[], none⟩ := by decide +kernel
theorem ef37 (m : MethodId) (a0 : Addr) : entryFrame m #[(.ref a0)] 1 = mkF m 0 #[.val (.ref a0)] [] := by first | (simp [entryFrame, mkF, argsToLocals, Value.category]; done) | rfl
abbrev r_conBI : Room := { frames := 2, cells := 1, slots := 16, locals := 25 }
set_option maxRecDepth 65536 in
set_option maxHeartbeats 4000000 in
theorem conBI {l : Launch} {Z : State} {a0 : Array Value} {G1 : Int32} {G3 : Value} {h : Heap} {x : Addr} {v0 c0 : Value} (B : Base Z a0 G1 G3) (E0 : Ext Z.heap h) (hmx : ∀ y ∈ [x], Z.heap.size ≤ y ∧ y < h.size) (A : Exa Z h x "java/lang/StringBuilder") (V : Fld Z h x "java/lang/AbstractStringBuilder" "value" "[B" (v0)) (Cf : Fld Z h x "java/lang/AbstractStringBuilder" "coder" "B" (c0)) (Nf : Fld Z h x "java/lang/AbstractStringBuilder" "count" "I" (.int 0)) (Mf : Fld Z h x "java/lang/AbstractStringBuilder" "maybeLatin1" "Z" (.int 0)) : Con l false Z [] (⟨"java/lang/StringBuilder", "<init>", "()V"⟩ : MethodName) jdk_67_method_1_code 1 none [] r_conBI #[(.ref x)] h [x] (QAI Z h x) := by
  have hw := B.hw
  refine con_of_go pn7_StringBuilder (fun m => ef37 m x) E0 EW.none ?_
  refine go_aloadN (q := 1) d37_0 rfl rfl rfl ?_
  refine go_bipush (q := 3) (z := (Int32.ofNat 16)) d37_1 rfl rfl ?_
  refine go_callI (q := 6) (y := (⟨"java/lang/AbstractStringBuilder", "<init>", "(I)V"⟩ : MethodName)) (W := 0) (argsL := [(.int (Int32.ofNat 16))]) (rest := []) (ws := [x]) (P := fun v h' L => ∃ out, (QAI Z h x v h' out) ∧ Fr Z.heap.size L ∧ Ext Z.heap h' ∧ ∀ x ∈ out, Z.heap.size ≤ x ∧ x < h'.size) d37_3 rfl rfl (hw _ (List.mem_of_getElem? (i := 60) rfl)) (hw _ (List.mem_of_getElem? (i := 61) rfl)) (hw _ (List.mem_of_getElem? (i := 65) rfl)) (by decide) (con_pay (conAI B E0 A V Cf Nf Mf) hmx (hw _ (List.mem_of_getElem? (i := 65) rfl)) (hw _ (List.mem_of_getElem? (i := 64) rfl)) (by decide) (by decide)) rfl rfl (lenOf pd25 rfl) (Nat.le_of_ble_eq_true rfl) (by decide) (by decide) (fun v h' L hP => ?_) (fun _ z => z) (fun v h1 L hP => ?_)
  · obtain ⟨out, hq, N, -⟩ := hP; exact ⟨N, hq.2.1⟩
  obtain ⟨out, hq, -, X, hO⟩ := hP
  obtain ⟨rfl, K1, a, k, rfl, ha, hb, FF⟩ := hq
  refine ⟨[a], allS ⟨ha, hb⟩ all0, ?_⟩
  show Go l false Z [] _ _ _ _ _ _ _ _ _ _ _ 6 #[.val (.ref x)] []
  exact go_return (out := [a]) rfl d37_6 ⟨rfl, K1, a, k, rfl, ha, hb, FF⟩ (by simp) (by decide) (by decide)
theorem d38_0 : decode jdk_68_method_68_code 0 = .ok (.getstatic 18, 3) := by decide +kernel
theorem d38_3 : decode jdk_68_method_68_code 3 = .ok (.ifCond .eq 14, 3) := by decide +kernel
theorem d38_6 : decode jdk_68_method_68_code 6 = .ok (.aload_n 0, 1) := by decide +kernel
theorem d38_7 : decode jdk_68_method_68_code 7 = .ok (.getfield 22, 3) := by decide +kernel
theorem d38_10 : decode jdk_68_method_68_code 10 = .ok (.ifCond .ne 7, 3) := by decide +kernel
theorem d38_13 : decode jdk_68_method_68_code 13 = .ok (.iconst 1, 1) := by decide +kernel
theorem d38_14 : decode jdk_68_method_68_code 14 = .ok (.goto 4, 3) := by decide +kernel
theorem d38_17 : decode jdk_68_method_68_code 17 = .ok (.iconst 0, 1) := by decide +kernel
theorem d38_18 : decode jdk_68_method_68_code 18 = .ok (.ireturn, 1) := by decide +kernel
theorem ef38 (m : MethodId) (a0 : Addr) : entryFrame m #[(.ref a0)] 1 = mkF m 0 #[.val (.ref a0)] [] := by first | (simp [entryFrame, mkF, argsToLocals, Value.category]; done) | rfl
abbrev r_conAL0 : Room := { frames := 0, cells := 0, slots := 0, locals := 0 }
set_option maxRecDepth 65536 in
set_option maxHeartbeats 4000000 in
theorem conAL0 {l : Launch} {Z : State} {a0 : Array Value} {G1 : Int32} {G3 : Value} {h : Heap} {x a : Addr} {k : ClassId} {cnt : Int32} {N : Nat} (B : Base Z a0 G1 G3) (E0 : Ext Z.heap h) (FF : SBs Z h x a k (Int32.ofNat 0) cnt N) : Con l false Z [] (⟨"java/lang/AbstractStringBuilder", "isLatin1", "()Z"⟩ : MethodName) jdk_68_method_68_code 1 (some .boolean) [] r_conAL0 #[(.ref x)] h [] (PQ (some (.int 1)) h) := by
  have hw := B.hw
  refine con_of_go pn6_AbstractStringBuilder (fun m => ef38 m x) E0 EW.none ?_
  refine go_getstatic (q := 3) d38_0 rfl (hw _ (List.mem_of_getElem? (i := 67) rfl)) Via.refl B.O2 ?_
  refine go_if (q := 17) (q2 := 6) d38_3 (by decide) (by decide) rfl (fun hc => absurd hc (by simpa [ifCond.holds] using B.P5)) (fun _ => ?_)
  refine go_aloadN (q := 7) d38_6 rfl rfl rfl ?_
  refine go_getfield (q := 10) d38_7 rfl (hw _ (List.mem_of_getElem? (i := 70) rfl)) Via.refl FF.2.2.1 ?_
  refine go_if (q := 17) (q2 := 13) d38_10 (by decide) (by decide) rfl (fun hc => absurd hc (by decide)) (fun _ => ?_)
  refine go_iconst (q := 14) (z := (1 : Int32)) d38_13 rfl rfl ?_
  refine go_goto (q := 18) d38_14 (by decide) (by decide) ?_
  exact go_ireturn (out := []) rfl (by simp) rfl d38_18 ⟨rfl, rfl, rfl⟩ all0 (by decide) (by decide)
abbrev r_conAL1 : Room := { frames := 0, cells := 0, slots := 0, locals := 0 }
set_option maxRecDepth 65536 in
set_option maxHeartbeats 4000000 in
theorem conAL1 {l : Launch} {Z : State} {a0 : Array Value} {G1 : Int32} {G3 : Value} {h : Heap} {x a : Addr} {k : ClassId} {cnt : Int32} {N : Nat} (B : Base Z a0 G1 G3) (E0 : Ext Z.heap h) (FF : SBs Z h x a k (Int32.ofNat 1) cnt N) : Con l false Z [] (⟨"java/lang/AbstractStringBuilder", "isLatin1", "()Z"⟩ : MethodName) jdk_68_method_68_code 1 (some .boolean) [] r_conAL1 #[(.ref x)] h [] (PQ (some (.int 0)) h) := by
  have hw := B.hw
  refine con_of_go pn6_AbstractStringBuilder (fun m => ef38 m x) E0 EW.none ?_
  refine go_getstatic (q := 3) d38_0 rfl (hw _ (List.mem_of_getElem? (i := 67) rfl)) Via.refl B.O2 ?_
  refine go_if (q := 17) (q2 := 6) d38_3 (by decide) (by decide) rfl (fun hc => absurd hc (by simpa [ifCond.holds] using B.P5)) (fun _ => ?_)
  refine go_aloadN (q := 7) d38_6 rfl rfl rfl ?_
  refine go_getfield (q := 10) d38_7 rfl (hw _ (List.mem_of_getElem? (i := 70) rfl)) Via.refl FF.2.2.1 ?_
  refine go_if (q := 17) (q2 := 13) d38_10 (by decide) (by decide) rfl (fun _ => ?_) (fun hc => absurd hc (by decide))
  refine go_iconst (q := 18) (z := (0 : Int32)) d38_17 rfl rfl ?_
  exact go_ireturn (out := []) rfl (by simp) rfl d38_18 ⟨rfl, rfl, rfl⟩ all0 (by decide) (by decide)
theorem d39_0 : decode jdk_68_method_64_code 0 = .ok (.aload_n 0, 1) := by decide +kernel
theorem d39_1 : decode jdk_68_method_64_code 1 = .ok (.getfield 15, 3) := by decide +kernel
theorem d39_4 : decode jdk_68_method_64_code 4 = .ok (.areturn, 1) := by decide +kernel
theorem pd27 : parseMethodDescriptor "()[B" = some ⟨[], some (.array .byte)⟩ := by decide +kernel
theorem ef39 (m : MethodId) (a0 : Addr) : entryFrame m #[(.ref a0)] 1 = mkF m 0 #[.val (.ref a0)] [] := by first | (simp [entryFrame, mkF, argsToLocals, Value.category]; done) | rfl
abbrev r_conGV : Room := { frames := 0, cells := 0, slots := 0, locals := 0 }
set_option maxRecDepth 65536 in
set_option maxHeartbeats 4000000 in
theorem conGV {l : Launch} {Z : State} {a0 : Array Value} {G1 : Int32} {G3 : Value} {h : Heap} {x a : Addr} {k : ClassId} {cod cnt : Int32} {N : Nat} (B : Base Z a0 G1 G3) (E0 : Ext Z.heap h) (FF : SBs Z h x a k cod cnt N) : Con l false Z [] (⟨"java/lang/AbstractStringBuilder", "getValue", "()[B"⟩ : MethodName) jdk_68_method_64_code 1 (some (.array .byte)) [] r_conGV #[(.ref x)] h [] (PQ (some (.ref a)) h) := by
  have hw := B.hw
  refine con_of_go pn6_AbstractStringBuilder (fun m => ef39 m x) E0 EW.none ?_
  refine go_aloadN (q := 1) d39_0 rfl rfl rfl ?_
  refine go_getfield (q := 4) d39_1 rfl (hw _ (List.mem_of_getElem? (i := 68) rfl)) Via.refl FF.2.1 ?_
  exact go_areturn (out := []) rfl rfl rfl rfl d39_4 ⟨rfl, rfl, rfl⟩ all0 (by decide) (by decide)
theorem d40_0 : decode jdk_68_method_6_code 0 = .ok (.aload_n 0, 1) := by decide +kernel
theorem d40_1 : decode jdk_68_method_6_code 1 = .ok (.getfield 79, 3) := by decide +kernel
theorem d40_4 : decode jdk_68_method_6_code 4 = .ok (.ireturn, 1) := by decide +kernel
theorem ef40 (m : MethodId) (a0 : Addr) : entryFrame m #[(.ref a0)] 1 = mkF m 0 #[.val (.ref a0)] [] := by first | (simp [entryFrame, mkF, argsToLocals, Value.category]; done) | rfl
abbrev r_conAN : Room := { frames := 0, cells := 0, slots := 0, locals := 0 }
set_option maxRecDepth 65536 in
set_option maxHeartbeats 4000000 in
theorem conAN {l : Launch} {Z : State} {a0 : Array Value} {G1 : Int32} {G3 : Value} {h : Heap} {x a : Addr} {k : ClassId} {cod cnt : Int32} {N : Nat} (B : Base Z a0 G1 G3) (E0 : Ext Z.heap h) (FF : SBs Z h x a k cod cnt N) : Con l false Z [] (⟨"java/lang/AbstractStringBuilder", "length", "()I"⟩ : MethodName) jdk_68_method_6_code 1 (some .int) [] r_conAN #[(.ref x)] h [] (PQ (some (.int cnt)) h) := by
  have hw := B.hw
  refine con_of_go pn6_AbstractStringBuilder (fun m => ef40 m x) E0 EW.none ?_
  refine go_aloadN (q := 1) d40_0 rfl rfl rfl ?_
  refine go_getfield (q := 4) d40_1 rfl (hw _ (List.mem_of_getElem? (i := 92) rfl)) Via.refl FF.2.2.2.1 ?_
  exact go_ireturn (out := []) rfl (by simp) rfl d40_4 ⟨rfl, rfl, rfl⟩ all0 (by decide) (by decide)
theorem d41_0 : decode jdk_67_method_93_code 0 = .ok (.aload_n 0, 1) := by decide +kernel
theorem d41_1 : decode jdk_67_method_93_code 1 = .ok (.invokespecial 343, 3) := by decide +kernel
theorem d41_4 : decode jdk_67_method_93_code 4 = .ok (.ireturn, 1) := by decide +kernel
theorem ef41 (m : MethodId) (a0 : Addr) : entryFrame m #[(.ref a0)] 1 = mkF m 0 #[.val (.ref a0)] [] := by first | (simp [entryFrame, mkF, argsToLocals, Value.category]; done) | rfl
abbrev r_conSN : Room := { frames := 1, cells := 0, slots := 0, locals := 12 }
set_option maxRecDepth 65536 in
set_option maxHeartbeats 4000000 in
theorem conSN {l : Launch} {Z : State} {a0 : Array Value} {G1 : Int32} {G3 : Value} {h : Heap} {x a : Addr} {k : ClassId} {cod cnt : Int32} {N : Nat} (B : Base Z a0 G1 G3) (E0 : Ext Z.heap h) (FF : SBs Z h x a k cod cnt N) : Con l false Z [] (⟨"java/lang/StringBuilder", "length", "()I"⟩ : MethodName) jdk_67_method_93_code 1 (some .int) [] r_conSN #[(.ref x)] h [] (PQ (some (.int cnt)) h) := by
  have hw := B.hw
  refine con_of_go pn7_StringBuilder (fun m => ef41 m x) E0 EW.none ?_
  refine go_aloadN (q := 1) d41_0 rfl rfl rfl ?_
  refine go_pU (q := 4) (y := (⟨"java/lang/AbstractStringBuilder", "length", "()I"⟩ : MethodName)) (W := 0) (argsL := []) (rest := []) (v := some (.int cnt)) d41_1 rfl (hw _ (List.mem_of_getElem? (i := 145) rfl)) (same_of (hw _ (List.mem_of_getElem? (i := 141) rfl)) (hw _ (List.mem_of_getElem? (i := 97) rfl)) rfl (by decide)) (hw _ (List.mem_of_getElem? (i := 141) rfl)) (hw _ (List.mem_of_getElem? (i := 79) rfl)) (by decide) (hw _ (List.mem_of_getElem? (i := 146) rfl)) FF.1 (hw _ (List.mem_of_getElem? (i := 64) rfl)) (by decide) (conAN B E0 FF) rfl rfl (lenOf pd16 rfl) (Nat.le_of_ble_eq_true rfl) (by decide) (by decide) rfl rfl (by decide) (by decide) ?_
  show Go l false Z [] _ _ _ _ _ _ _ _ _ _ _ 4 #[.val (.ref x)] [(.int cnt)]
  exact go_ireturn (out := []) rfl (by simp) rfl d41_4 ⟨rfl, rfl, rfl⟩ all0 (by decide) (by decide)
theorem d42_0 : decode jdk_68_method_9_code 0 = .ok (.aload_n 0, 1) := by decide +kernel
theorem d42_1 : decode jdk_68_method_9_code 1 = .ok (.getfield 15, 3) := by decide +kernel
theorem d42_4 : decode jdk_68_method_9_code 4 = .ok (.arraylength, 1) := by decide +kernel
theorem d42_5 : decode jdk_68_method_9_code 5 = .ok (.aload_n 0, 1) := by decide +kernel
theorem d42_6 : decode jdk_68_method_9_code 6 = .ok (.getfield 22, 3) := by decide +kernel
theorem d42_9 : decode jdk_68_method_9_code 9 = .ok (.ishr, 1) := by decide +kernel
theorem d42_10 : decode jdk_68_method_9_code 10 = .ok (.istore_n 2, 1) := by decide +kernel
theorem d42_11 : decode jdk_68_method_9_code 11 = .ok (.iload_n 1, 1) := by decide +kernel
theorem d42_12 : decode jdk_68_method_9_code 12 = .ok (.iload_n 2, 1) := by decide +kernel
theorem d42_13 : decode jdk_68_method_9_code 13 = .ok (.isub, 1) := by decide +kernel
theorem d42_14 : decode jdk_68_method_9_code 14 = .ok (.ifCond .le 24, 3) := by decide +kernel
theorem d42_17 : decode jdk_68_method_9_code 17 = .ok (.aload_n 0, 1) := by decide +kernel
theorem d42_18 : decode jdk_68_method_9_code 18 = .ok (.aload_n 0, 1) := by decide +kernel
theorem d42_19 : decode jdk_68_method_9_code 19 = .ok (.getfield 15, 3) := by decide +kernel
theorem d42_22 : decode jdk_68_method_9_code 22 = .ok (.aload_n 0, 1) := by decide +kernel
theorem d42_23 : decode jdk_68_method_9_code 23 = .ok (.iload_n 1, 1) := by decide +kernel
theorem d42_24 : decode jdk_68_method_9_code 24 = .ok (.invokevirtual 104, 3) := by decide +kernel
theorem d42_27 : decode jdk_68_method_9_code 27 = .ok (.aload_n 0, 1) := by decide +kernel
theorem d42_28 : decode jdk_68_method_9_code 28 = .ok (.getfield 22, 3) := by decide +kernel
theorem d42_31 : decode jdk_68_method_9_code 31 = .ok (.ishl, 1) := by decide +kernel
theorem d42_32 : decode jdk_68_method_9_code 32 = .ok (.invokestatic 108, 3) := by decide +kernel
theorem d42_35 : decode jdk_68_method_9_code 35 = .ok (.putfield 15, 3) := by decide +kernel
theorem d42_38 : decode jdk_68_method_9_code 38 = .ok (.return_, 1) := by decide +kernel
theorem ef42 (m : MethodId) (a0 : Addr) (i1 : Int32) : entryFrame m #[(.ref a0), (.int i1)] 3 = mkF m 0 #[.val (.ref a0), .val (.int i1), .unset] [] := by first | (simp [entryFrame, mkF, argsToLocals, Value.category]; done) | rfl
abbrev r_conEC : Room := { frames := 0, cells := 0, slots := 0, locals := 0 }
set_option maxRecDepth 65536 in
set_option maxHeartbeats 4000000 in
theorem conEC {l : Launch} {Z : State} {a0 : Array Value} {G1 : Int32} {G3 : Value} {h : Heap} {x a : Addr} {k : ClassId} {cod cnt : Int32} {N : Nat} {mi : Int32} (B : Base Z a0 G1 G3) (E0 : Ext Z.heap h) (FF : SBs Z h x a k cod cnt N) (hz : ¬ ifCond.holds .le (mi - (Int32.ofNat N >>> (cod &&& 31))) = false) : Con l false Z [] (⟨"java/lang/AbstractStringBuilder", "ensureCapacityInternal", "(I)V"⟩ : MethodName) jdk_68_method_9_code 3 none [] r_conEC #[(.ref x), (.int mi)] h [] (PQ none h) := by
  have hw := B.hw
  refine con_of_go pn6_AbstractStringBuilder (fun m => ef42 m x mi) E0 EW.none ?_
  obtain ⟨vs, -, F⟩ := FF.2.2.2.2.2.1
  refine go_aloadN (q := 1) d42_0 rfl rfl rfl ?_
  refine go_getfield (q := 4) d42_1 rfl (hw _ (List.mem_of_getElem? (i := 68) rfl)) Via.refl FF.2.1 ?_
  refine go_arraylength (q := 5) d42_4 rfl F ?_
  refine go_aloadN (q := 6) d42_5 rfl rfl rfl ?_
  refine go_getfield (q := 9) d42_6 rfl (hw _ (List.mem_of_getElem? (i := 70) rfl)) Via.refl FF.2.2.1 ?_
  refine go_ishr (q := 10) d42_9 rfl ?_
  refine go_istoreN (q := 11) (l' := #[.val (.ref x), .val (.int mi), .val (.int ((Int32.ofNat N) >>> (cod &&& 31)))]) d42_10 rfl rfl ?_
  refine go_iloadN (q := 12) d42_11 rfl rfl ?_
  refine go_iloadN (q := 13) d42_12 rfl rfl ?_
  refine go_isub (q := 14) d42_13 rfl ?_
  refine go_if (q := 38) (q2 := 17) d42_14 (by decide) (by decide) rfl (fun _ => ?_) (fun hc => absurd hc (hz))
  exact go_return (out := []) rfl d42_38 ⟨rfl, rfl, rfl⟩ all0 (by decide) (by decide)
theorem d43_0 : decode jdk_41_method_13_code 0 = .ok (.iload_n 2, 1) := by decide +kernel
theorem d43_1 : decode jdk_41_method_13_code 1 = .ok (.iload_n 0, 1) := by decide +kernel
theorem d43_2 : decode jdk_41_method_13_code 2 = .ok (.ior, 1) := by decide +kernel
theorem d43_3 : decode jdk_41_method_13_code 3 = .ok (.iload_n 1, 1) := by decide +kernel
theorem d43_4 : decode jdk_41_method_13_code 4 = .ok (.ior, 1) := by decide +kernel
theorem d43_5 : decode jdk_41_method_13_code 5 = .ok (.ifCond .lt 10, 3) := by decide +kernel
theorem d43_8 : decode jdk_41_method_13_code 8 = .ok (.iload_n 1, 1) := by decide +kernel
theorem d43_9 : decode jdk_41_method_13_code 9 = .ok (.iload_n 2, 1) := by decide +kernel
theorem d43_10 : decode jdk_41_method_13_code 10 = .ok (.iload_n 0, 1) := by decide +kernel
theorem d43_11 : decode jdk_41_method_13_code 11 = .ok (.isub, 1) := by decide +kernel
theorem d43_12 : decode jdk_41_method_13_code 12 = .ok (.if_icmp .le 11, 3) := by decide +kernel
theorem d43_15 : decode jdk_41_method_13_code 15 = .ok (.aload_n 3, 1) := by decide +kernel
theorem d43_16 : decode jdk_41_method_13_code 16 = .ok (.iload_n 0, 1) := by decide +kernel
theorem d43_17 : decode jdk_41_method_13_code 17 = .ok (.iload_n 1, 1) := by decide +kernel
theorem d43_18 : decode jdk_41_method_13_code 18 = .ok (.iload_n 2, 1) := by decide +kernel
theorem d43_19 : decode jdk_41_method_13_code 19 = .ok (.invokestatic 103, 3) := by decide +kernel
theorem d43_22 : decode jdk_41_method_13_code 22 = .ok (.athrow, 1) := by decide +kernel
theorem d43_23 : decode jdk_41_method_13_code 23 = .ok (.iload_n 0, 1) := by decide +kernel
theorem d43_24 : decode jdk_41_method_13_code 24 = .ok (.ireturn, 1) := by decide +kernel
theorem ef43 (m : MethodId) (i0 : Int32) (i1 : Int32) (i2 : Int32) : entryFrame m #[(.int i0), (.int i1), (.int i2), (.null)] 4 = mkF m 0 #[.val (.int i0), .val (.int i1), .val (.int i2), .val (.null)] [] := by first | (simp [entryFrame, mkF, argsToLocals, Value.category]; done) | rfl
abbrev r_conFIn : Room := { frames := 0, cells := 0, slots := 0, locals := 0 }
set_option maxRecDepth 65536 in
set_option maxHeartbeats 4000000 in
theorem conFIn {l : Launch} {Z : State} {a0 : Array Value} {G1 : Int32} {G3 : Value} {h : Heap}  {off len tot : Int32} (B : Base Z a0 G1 G3) (E0 : Ext Z.heap h) (b1 : ¬ ifCond.holds .lt ((tot ||| off) ||| len) = true) (b2 : ¬ if_icmp.holds .le len (tot - off) = false) : Con l false Z [] (⟨"jdk/internal/util/Preconditions", "checkFromIndexSize", "(IIILjava/util/function/BiFunction;)I"⟩ : MethodName) jdk_41_method_13_code 4 (some .int) [] r_conFIn #[(.int off), (.int len), (.int tot), (.null)] h [] (PQ (some (.int off)) h) := by
  have hw := B.hw
  refine con_of_go pn4_Preconditions (fun m => ef43 m off len tot) E0 EW.none ?_
  refine go_iloadN (q := 1) d43_0 rfl rfl ?_
  refine go_iloadN (q := 2) d43_1 rfl rfl ?_
  refine go_ior (q := 3) d43_2 rfl ?_
  refine go_iloadN (q := 4) d43_3 rfl rfl ?_
  refine go_ior (q := 5) d43_4 rfl ?_
  refine go_if (q := 15) (q2 := 8) d43_5 (by decide) (by decide) rfl (fun hc => absurd hc (b1)) (fun _ => ?_)
  refine go_iloadN (q := 9) d43_8 rfl rfl ?_
  refine go_iloadN (q := 10) d43_9 rfl rfl ?_
  refine go_iloadN (q := 11) d43_10 rfl rfl ?_
  refine go_isub (q := 12) d43_11 rfl ?_
  refine go_icmp (q := 23) (q2 := 15) d43_12 (by decide) (by decide) rfl (fun _ => ?_) (fun hc => absurd hc (b2))
  refine go_iloadN (q := 24) d43_23 rfl rfl ?_
  exact go_ireturn (out := []) rfl (by simp) rfl d43_24 ⟨rfl, rfl, rfl⟩ all0 (by decide) (by decide)
theorem ef44 (m : MethodId) (i0 : Int32) (i1 : Int32) (i2 : Int32) (a3 : Addr) : entryFrame m #[(.int i0), (.int i1), (.int i2), (.ref a3)] 4 = mkF m 0 #[.val (.int i0), .val (.int i1), .val (.int i2), .val (.ref a3)] [] := by first | (simp [entryFrame, mkF, argsToLocals, Value.category]; done) | rfl
abbrev r_conFIr : Room := { frames := 0, cells := 0, slots := 0, locals := 0 }
set_option maxRecDepth 65536 in
set_option maxHeartbeats 4000000 in
theorem conFIr {l : Launch} {Z : State} {a0 : Array Value} {G1 : Int32} {G3 : Value} {h : Heap} {g : Addr} {off len tot : Int32} (B : Base Z a0 G1 G3) (E0 : Ext Z.heap h) (b1 : ¬ ifCond.holds .lt ((tot ||| off) ||| len) = true) (b2 : ¬ if_icmp.holds .le len (tot - off) = false) : Con l false Z [] (⟨"jdk/internal/util/Preconditions", "checkFromIndexSize", "(IIILjava/util/function/BiFunction;)I"⟩ : MethodName) jdk_41_method_13_code 4 (some .int) [] r_conFIr #[(.int off), (.int len), (.int tot), (.ref g)] h [] (PQ (some (.int off)) h) := by
  have hw := B.hw
  refine con_of_go pn4_Preconditions (fun m => ef44 m off len tot g) E0 EW.none ?_
  refine go_iloadN (q := 1) d43_0 rfl rfl ?_
  refine go_iloadN (q := 2) d43_1 rfl rfl ?_
  refine go_ior (q := 3) d43_2 rfl ?_
  refine go_iloadN (q := 4) d43_3 rfl rfl ?_
  refine go_ior (q := 5) d43_4 rfl ?_
  refine go_if (q := 15) (q2 := 8) d43_5 (by decide) (by decide) rfl (fun hc => absurd hc (b1)) (fun _ => ?_)
  refine go_iloadN (q := 9) d43_8 rfl rfl ?_
  refine go_iloadN (q := 10) d43_9 rfl rfl ?_
  refine go_iloadN (q := 11) d43_10 rfl rfl ?_
  refine go_isub (q := 12) d43_11 rfl ?_
  refine go_icmp (q := 23) (q2 := 15) d43_12 (by decide) (by decide) rfl (fun _ => ?_) (fun hc => absurd hc (b2))
  refine go_iloadN (q := 24) d43_23 rfl rfl ?_
  exact go_ireturn (out := []) rfl (by simp) rfl d43_24 ⟨rfl, rfl, rfl⟩ all0 (by decide) (by decide)
theorem d44_0 : decode jdk_42_method_157_code 0 = .ok (.iload_n 0, 1) := by decide +kernel
theorem d44_1 : decode jdk_42_method_157_code 1 = .ok (.iload_n 1, 1) := by decide +kernel
theorem d44_2 : decode jdk_42_method_157_code 2 = .ok (.iload_n 2, 1) := by decide +kernel
theorem d44_3 : decode jdk_42_method_157_code 3 = .ok (.getstatic 1053, 3) := by decide +kernel
theorem d44_6 : decode jdk_42_method_157_code 6 = .ok (.invokestatic 1065, 3) := by decide +kernel
theorem d44_9 : decode jdk_42_method_157_code 9 = .ok (.ireturn, 1) := by decide +kernel
theorem pd28 : parseMethodDescriptor "(III)I" = some ⟨[.int, .int, .int], some .int⟩ := by decide +kernel
theorem ef45 (m : MethodId) (i0 : Int32) (i1 : Int32) (i2 : Int32) : entryFrame m #[(.int i0), (.int i1), (.int i2)] 3 = mkF m 0 #[.val (.int i0), .val (.int i1), .val (.int i2)] [] := by first | (simp [entryFrame, mkF, argsToLocals, Value.category]; done) | rfl
abbrev r_conBO : Room := { frames := 1, cells := 0, slots := 0, locals := 15 }
set_option maxRecDepth 65536 in
set_option maxHeartbeats 4000000 in
theorem conBO {l : Launch} {Z : State} {a0 : Array Value} {G1 : Int32} {G3 : Value} {h : Heap} {off len tot : Int32} (B : Base Z a0 G1 G3) (E0 : Ext Z.heap h) (b1 : ¬ ifCond.holds .lt ((tot ||| off) ||| len) = true) (b2 : ¬ if_icmp.holds .le len (tot - off) = false) : Con l false Z [] (⟨"java/lang/String", "checkBoundsOffCount", "(III)I"⟩ : MethodName) jdk_42_method_157_code 3 (some .int) [] r_conBO #[(.int off), (.int len), (.int tot)] h [] (PQ (some (.int off)) h) := by
  have hw := B.hw
  refine con_of_go pn3_String (fun m => ef45 m off len tot) E0 EW.none ?_
  refine go_iloadN (q := 1) d44_0 rfl rfl ?_
  refine go_iloadN (q := 2) d44_1 rfl rfl ?_
  refine go_iloadN (q := 3) d44_2 rfl rfl ?_
  rcases ref_cases B.rG3 with rfl | ⟨g, rfl⟩
  · refine go_getstatic (q := 6) d44_3 rfl (hw _ (List.mem_of_getElem? (i := 251) rfl)) Via.refl B.O4 ?_
    refine go_pS (q := 9) (y := (⟨"jdk/internal/util/Preconditions", "checkFromIndexSize", "(IIILjava/util/function/BiFunction;)I"⟩ : MethodName)) (W := 0) (argsL := [(.int off), (.int len), (.int tot), (.null)]) (rest := []) (v := some (.int off)) d44_6 rfl (hw _ (List.mem_of_getElem? (i := 253) rfl)) (hw _ (List.mem_of_getElem? (i := 254) rfl)) (hw _ (List.mem_of_getElem? (i := 252) rfl)) (hw _ (List.mem_of_getElem? (i := 255) rfl)) (by decide) (conFIn B E0 b1 b2) rfl rfl (lenOf pd21 rfl) (Nat.le_of_ble_eq_true rfl) (by decide) (by decide) rfl rfl (by decide) (by decide) ?_
    show Go l false Z [] _ _ _ _ _ _ _ _ _ _ _ 9 #[.val (.int off), .val (.int len), .val (.int tot)] [(.int off)]
    exact go_ireturn (out := []) rfl (by simp) rfl d44_9 ⟨rfl, rfl, rfl⟩ all0 (by decide) (by decide)
  · refine go_getstatic (q := 6) d44_3 rfl (hw _ (List.mem_of_getElem? (i := 251) rfl)) Via.refl B.O4 ?_
    refine go_pS (q := 9) (y := (⟨"jdk/internal/util/Preconditions", "checkFromIndexSize", "(IIILjava/util/function/BiFunction;)I"⟩ : MethodName)) (W := 0) (argsL := [(.int off), (.int len), (.int tot), (.ref g)]) (rest := []) (v := some (.int off)) d44_6 rfl (hw _ (List.mem_of_getElem? (i := 253) rfl)) (hw _ (List.mem_of_getElem? (i := 254) rfl)) (hw _ (List.mem_of_getElem? (i := 252) rfl)) (hw _ (List.mem_of_getElem? (i := 255) rfl)) (by decide) (conFIr B E0 b1 b2) rfl rfl (lenOf pd21 rfl) (Nat.le_of_ble_eq_true rfl) (by decide) (by decide) rfl rfl (by decide) (by decide) ?_
    show Go l false Z [] _ _ _ _ _ _ _ _ _ _ _ 9 #[.val (.int off), .val (.int len), .val (.int tot)] [(.int off)]
    exact go_ireturn (out := []) rfl (by simp) rfl d44_9 ⟨rfl, rfl, rfl⟩ all0 (by decide) (by decide)
theorem d45_0 : decode jdk_52_method_94_code 0 = .ok (.iload_n 0, 1) := by decide +kernel
theorem d45_1 : decode jdk_52_method_94_code 1 = .ok (.iload_n 1, 1) := by decide +kernel
theorem d45_2 : decode jdk_52_method_94_code 2 = .ok (.aload_n 2, 1) := by decide +kernel
theorem d45_3 : decode jdk_52_method_94_code 3 = .ok (.invokestatic 48, 3) := by decide +kernel
theorem d45_6 : decode jdk_52_method_94_code 6 = .ok (.invokestatic 419, 3) := by decide +kernel
theorem d45_9 : decode jdk_52_method_94_code 9 = .ok (.pop, 1) := by decide +kernel
theorem d45_10 : decode jdk_52_method_94_code 10 = .ok (.return_, 1) := by decide +kernel
theorem ef46 (m : MethodId) (i0 : Int32) (i1 : Int32) (a2 : Addr) : entryFrame m #[(.int i0), (.int i1), (.ref a2)] 3 = mkF m 0 #[.val (.int i0), .val (.int i1), .val (.ref a2)] [] := by first | (simp [entryFrame, mkF, argsToLocals, Value.category]; done) | rfl
abbrev r_conUO : Room := { frames := 2, cells := 0, slots := 0, locals := 29 }
set_option maxRecDepth 65536 in
set_option maxHeartbeats 4000000 in
theorem conUO {l : Launch} {Z : State} {a0 : Array Value} {G1 : Int32} {G3 : Value} {h : Heap} {t : Addr} {k : ClassId} {n : Nat} {vs : List Value} {d : Value} {off len : Int32} (B : Base Z a0 G1 G3) (E0 : Ext Z.heap h) (F : Arv Z h t k .byte (Int32.ofNat (2 * n)) vs d) (hn : n ≤ 4000) (b1 : ¬ ifCond.holds .lt ((Int32.ofNat n ||| off) ||| len) = true) (b2 : ¬ if_icmp.holds .le len (Int32.ofNat n - off) = false) : Con l false Z [] (⟨"java/lang/StringUTF16", "checkBoundsOffCount", "(II[B)V"⟩ : MethodName) jdk_52_method_94_code 3 none [] r_conUO #[(.int off), (.int len), (.ref t)] h [] (PQ none h) := by
  have hw := B.hw
  refine con_of_go pn2_StringUTF16 (fun m => ef46 m off len t) E0 EW.none ?_
  refine go_iloadN (q := 1) d45_0 rfl rfl ?_
  refine go_iloadN (q := 2) d45_1 rfl rfl ?_
  refine go_aloadN (q := 3) d45_2 rfl rfl rfl ?_
  refine go_pS (q := 6) (y := (⟨"java/lang/StringUTF16", "length", "([B)I"⟩ : MethodName)) (W := 2) (argsL := [(.ref t)]) (rest := [(.int len), (.int off)]) (v := some (.int (Int32.ofNat n))) d45_3 rfl (hw _ (List.mem_of_getElem? (i := 245) rfl)) (hw _ (List.mem_of_getElem? (i := 246) rfl)) (hw _ (List.mem_of_getElem? (i := 23) rfl)) (hw _ (List.mem_of_getElem? (i := 247) rfl)) (by decide) (conUL B E0 F hn) rfl rfl (lenOf pd20 rfl) (Nat.le_of_ble_eq_true rfl) (by decide) (by decide) rfl rfl (by decide) (by decide) ?_
  show Go l false Z [] _ _ _ _ _ _ _ _ _ _ _ 6 #[.val (.int off), .val (.int len), .val (.ref t)] [(.int (Int32.ofNat n)), (.int len), (.int off)]
  refine go_pS (q := 9) (y := (⟨"java/lang/String", "checkBoundsOffCount", "(III)I"⟩ : MethodName)) (W := 0) (argsL := [(.int off), (.int len), (.int (Int32.ofNat n))]) (rest := []) (v := some (.int off)) d45_6 rfl (hw _ (List.mem_of_getElem? (i := 248) rfl)) (hw _ (List.mem_of_getElem? (i := 249) rfl)) (hw _ (List.mem_of_getElem? (i := 8) rfl)) (hw _ (List.mem_of_getElem? (i := 250) rfl)) (by decide) (conBO B E0 b1 b2) rfl rfl (lenOf pd28 rfl) (Nat.le_of_ble_eq_true rfl) (by decide) (by decide) rfl rfl (by decide) (by decide) ?_
  show Go l false Z [] _ _ _ _ _ _ _ _ _ _ _ 9 #[.val (.int off), .val (.int len), .val (.ref t)] [(.int off)]
  refine go_pop (q := 10) d45_9 rfl rfl ?_
  exact go_return (out := []) rfl d45_10 ⟨rfl, rfl, rfl⟩ all0 (by decide) (by decide)
def QIF (Z : State) (h : Heap) (d : Addr) (kd : ClassId) (v : Option Value) (h' : Heap) (out : List Addr) : Prop := v = none ∧ out = [] ∧ Keep h h' [d] ∧ Byt Z h' d kd 32
theorem d46_0 : decode jdk_52_method_86_code 0 = .ok (.iload_n 3, 1) := by decide +kernel
theorem d46_1 : decode jdk_52_method_86_code 1 = .ok (.iload 4, 2) := by decide +kernel
theorem d46_3 : decode jdk_52_method_86_code 3 = .ok (.aload_n 2, 1) := by decide +kernel
theorem d46_4 : decode jdk_52_method_86_code 4 = .ok (.invokestatic 173, 3) := by decide +kernel
theorem d46_7 : decode jdk_52_method_86_code 7 = .ok (.iconst 0, 1) := by decide +kernel
theorem d46_8 : decode jdk_52_method_86_code 8 = .ok (.istore 5, 2) := by decide +kernel
theorem d46_10 : decode jdk_52_method_86_code 10 = .ok (.iload 5, 2) := by decide +kernel
theorem d46_12 : decode jdk_52_method_86_code 12 = .ok (.iload 4, 2) := by decide +kernel
theorem d46_14 : decode jdk_52_method_86_code 14 = .ok (.if_icmp .ge 27, 3) := by decide +kernel
theorem d46_17 : decode jdk_52_method_86_code 17 = .ok (.aload_n 2, 1) := by decide +kernel
theorem d46_18 : decode jdk_52_method_86_code 18 = .ok (.iload_n 3, 1) := by decide +kernel
theorem d46_19 : decode jdk_52_method_86_code 19 = .ok (.iinc 3 1, 3) := by decide +kernel
theorem d46_22 : decode jdk_52_method_86_code 22 = .ok (.aload_n 0, 1) := by decide +kernel
theorem d46_23 : decode jdk_52_method_86_code 23 = .ok (.iload_n 1, 1) := by decide +kernel
theorem d46_24 : decode jdk_52_method_86_code 24 = .ok (.iinc 1 1, 3) := by decide +kernel
theorem d46_27 : decode jdk_52_method_86_code 27 = .ok (.baload, 1) := by decide +kernel
theorem d46_28 : decode jdk_52_method_86_code 28 = .ok (.sipush 255, 3) := by decide +kernel
theorem d46_31 : decode jdk_52_method_86_code 31 = .ok (.iand, 1) := by decide +kernel
theorem d46_32 : decode jdk_52_method_86_code 32 = .ok (.invokestatic 111, 3) := by decide +kernel
theorem d46_35 : decode jdk_52_method_86_code 35 = .ok (.iinc 5 1, 3) := by decide +kernel
theorem d46_38 : decode jdk_52_method_86_code 38 = .ok (.goto (-28), 3) := by decide +kernel
theorem d46_41 : decode jdk_52_method_86_code 41 = .ok (.return_, 1) := by decide +kernel
theorem pd29 : parseMethodDescriptor "([BI[BII)V" = some ⟨[(.array .byte), .int, (.array .byte), .int, .int], none⟩ := by decide +kernel
abbrev r_conIF : Room := { frames := 3, cells := 0, slots := 0, locals := 43 }
set_option maxRecDepth 65536 in
set_option maxHeartbeats 4000000 in
theorem loopIF {l : Launch} {Z : State} {a0 : Array Value} {G1 : Int32} {G3 : Value} {h : Heap} {s d : Addr} {ks kd : ClassId} {Ns off len : Nat} (B : Base Z a0 G1 G3) (Fs : Byt Z h s ks Ns) (hs : len ≤ Ns) (hN : Ns ≤ 4000) (hof : off + len ≤ 16) (nd : s ≠ d) (m : Nat) : ∀ (j : Nat) (h1 : Heap), j + m = len → Keep h h1 [d] → Byt Z h1 d kd 32 →
    Go l false Z [] "java/lang/StringUTF16" "inflate" jdk_52_method_86_code 6 none r_conIF (QIF Z h d kd) h1 [d] 0 0 10 #[.val (.ref s), .val (.int (Int32.ofNat j)), .val (.ref d), .val (.int (Int32.ofNat (off + j))), .val (.int (Int32.ofNat len)), .val (.int (Int32.ofNat j))] [] := by
  have hw := B.hw
  induction m with
  | zero =>
    intro j h1 hj KK F
    refine go_iload (q := 12) d46_10 rfl rfl ?_
    refine go_iload (q := 14) d46_12 rfl rfl ?_
    refine go_icmp (q := 41) (q2 := 17) d46_14 (by decide) (by decide) rfl (fun _ => ?_) (fun hc => absurd hc (by rw [ic_ge _ _ (by omega) (by omega), decide_eq_false_iff_not]; omega))
    exact go_return (out := []) rfl d46_41 ⟨rfl, rfl, KK, F⟩ all0 (by decide) (by decide)
  | succ m ih =>
    intro j h1 hj KK F
    obtain ⟨vs, el, Fv⟩ := F
    obtain ⟨us, eu, Fu⟩ := Fs.keep KK (ninS nd nin0)
    obtain ⟨bt, hbt⟩ := arv_int Fu (j := j) (by rw [clampN (by omega)]; omega)
    refine go_iload (q := 12) d46_10 rfl rfl ?_
    refine go_iload (q := 14) d46_12 rfl rfl ?_
    refine go_icmp (q := 41) (q2 := 17) d46_14 (by decide) (by decide) rfl (fun hc => absurd hc (by rw [ic_ge _ _ (by omega) (by omega), decide_eq_true_iff]; omega)) (fun _ => ?_)
    refine go_aloadN (q := 18) d46_17 rfl rfl rfl ?_
    refine go_iloadN (q := 19) d46_18 rfl rfl ?_
    refine go_iinc (q := 22) (l' := #[.val (.ref s), .val (.int (Int32.ofNat j)), .val (.ref d), .val (.int ((Int32.ofNat (off + j)) + (1 : Int32))), .val (.int (Int32.ofNat len)), .val (.int (Int32.ofNat j))]) d46_19 rfl rfl rfl ?_
    rw [Jvm.Free.XT.succ32]
    refine go_aloadN (q := 23) d46_22 rfl rfl rfl ?_
    refine go_iloadN (q := 24) d46_23 rfl rfl ?_
    refine go_iinc (q := 27) (l' := #[.val (.ref s), .val (.int ((Int32.ofNat j) + (1 : Int32))), .val (.ref d), .val (.int (Int32.ofNat (off + j + 1))), .val (.int (Int32.ofNat len)), .val (.int (Int32.ofNat j))]) d46_24 rfl rfl rfl ?_
    rw [Jvm.Free.XT.succ32]
    refine go_baload (q := 28) (v := .int bt) d46_27 rfl Fu (inb (by omega) (by omega)) (by rw [clampN (by omega)]; exact hbt) ?_
    refine go_sipush (q := 31) (z := (Int32.ofNat 255)) d46_28 rfl rfl ?_
    refine go_iand (q := 32) d46_31 rfl ?_
    refine go_old fun X1 => ?_
    refine go_mine fun hM => ?_
    refine go_callS (q := 35) (y := (⟨"java/lang/StringUTF16", "putChar", "([BII)V"⟩ : MethodName)) (W := 0) (argsL := [(.ref d), (.int (Int32.ofNat (off + j))), (.int (bt &&& (Int32.ofNat 255)))]) (rest := []) (ws := [d]) (P := fun v h' L => ∃ out, (QPC Z h1 d kd 32 (off + j) (bt &&& Int32.ofNat 255) vs v h' out) ∧ Fr Z.heap.size L ∧ Ext Z.heap h' ∧ ∀ x ∈ out, Z.heap.size ≤ x ∧ x < h'.size) d46_32 rfl (hw _ (List.mem_of_getElem? (i := 217) rfl)) (hw _ (List.mem_of_getElem? (i := 218) rfl)) (hw _ (List.mem_of_getElem? (i := 23) rfl)) (hw _ (List.mem_of_getElem? (i := 219) rfl)) (by decide) (con_pay (conPC B X1 (i := off + j) Fv el (by omega) (by omega)) hM (hw _ (List.mem_of_getElem? (i := 219) rfl)) (hw _ (List.mem_of_getElem? (i := 23) rfl)) (by decide) (by decide)) rfl rfl (lenOf pd5 rfl) (Nat.le_of_ble_eq_true rfl) (by decide) (by decide) (fun v h' L hP => ?_) (fun _ z => z) (fun v h2 L hP => ?_)
    · obtain ⟨out, hq, N, -⟩ := hP; exact ⟨N, hq.2.2.1⟩
    obtain ⟨out, hq, -, X, hO⟩ := hP
    obtain ⟨rfl, rfl, K2, F2⟩ := hq
    refine ⟨[], all0, ?_⟩
    show Go l false Z [] _ _ _ _ _ _ _ _ _ _ _ 35 #[.val (.ref s), .val (.int (Int32.ofNat (j + 1))), .val (.ref d), .val (.int (Int32.ofNat (off + j + 1))), .val (.int (Int32.ofNat len)), .val (.int (Int32.ofNat j))] []
    refine go_iinc (q := 38) (l' := #[.val (.ref s), .val (.int (Int32.ofNat (j + 1))), .val (.ref d), .val (.int (Int32.ofNat (off + j + 1))), .val (.int (Int32.ofNat len)), .val (.int ((Int32.ofNat j) + (1 : Int32)))]) d46_35 rfl rfl rfl ?_
    rw [Jvm.Free.XT.succ32]
    refine go_goto (q := 10) d46_38 (by decide) (by decide) ?_
    exact ih (j + 1) h2 (by omega) (KK.trans K2 (fun y hy => Or.inl hy)) ⟨_, by rw [List.length_set, List.length_set]; exact el, F2⟩
theorem ef47 (m : MethodId) (a0 : Addr) (i1 : Int32) (a2 : Addr) (i3 : Int32) (i4 : Int32) : entryFrame m #[(.ref a0), (.int i1), (.ref a2), (.int i3), (.int i4)] 6 = mkF m 0 #[.val (.ref a0), .val (.int i1), .val (.ref a2), .val (.int i3), .val (.int i4), .unset] [] := by first | (simp [entryFrame, mkF, argsToLocals, Value.category]; done) | rfl
set_option maxRecDepth 65536 in
set_option maxHeartbeats 4000000 in
theorem conIF {l : Launch} {Z : State} {a0 : Array Value} {G1 : Int32} {G3 : Value} {h : Heap} {s d : Addr} {ks kd : ClassId} {Ns off len : Nat} (B : Base Z a0 G1 G3) (E0 : Ext Z.heap h) (Fs : Byt Z h s ks Ns) (hs : len ≤ Ns) (hN : Ns ≤ 4000) (hof : off + len ≤ 16) (nd : s ≠ d) (Fd : Byt Z h d kd 32) (b1 : ¬ ifCond.holds .lt ((Int32.ofNat 16 ||| Int32.ofNat off) ||| Int32.ofNat len) = true) (b2 : ¬ if_icmp.holds .le (Int32.ofNat len) (Int32.ofNat 16 - Int32.ofNat off) = false) : Con l false Z [] (⟨"java/lang/StringUTF16", "inflate", "([BI[BII)V"⟩ : MethodName) jdk_52_method_86_code 6 none [] r_conIF #[(.ref s), (.int (Int32.ofNat 0)), (.ref d), (.int (Int32.ofNat off)), (.int (Int32.ofNat len))] h [d] (QIF Z h d kd) := by
  have hw := B.hw
  refine con_of_go pn2_StringUTF16 (fun m => ef47 m s (Int32.ofNat 0) d (Int32.ofNat off) (Int32.ofNat len)) E0 EW.none ?_
  obtain ⟨vs, el, Fv⟩ := id Fd
  refine go_iloadN (q := 1) d46_0 rfl rfl ?_
  refine go_iload (q := 3) d46_1 rfl rfl ?_
  refine go_aloadN (q := 4) d46_3 rfl rfl rfl ?_
  refine go_pS (q := 7) (y := (⟨"java/lang/StringUTF16", "checkBoundsOffCount", "(II[B)V"⟩ : MethodName)) (W := 0) (argsL := [(.int (Int32.ofNat off)), (.int (Int32.ofNat len)), (.ref d)]) (rest := []) (v := none) d46_4 rfl (hw _ (List.mem_of_getElem? (i := 242) rfl)) (hw _ (List.mem_of_getElem? (i := 243) rfl)) (hw _ (List.mem_of_getElem? (i := 23) rfl)) (hw _ (List.mem_of_getElem? (i := 244) rfl)) (by decide) (conUO B E0 (n := 16) Fv (by decide) b1 b2) rfl rfl (lenOf pd23 rfl) (Nat.le_of_ble_eq_true rfl) (by decide) (by decide) rfl rfl (by decide) (by decide) ?_
  show Go l false Z [] _ _ _ _ _ _ _ _ _ _ _ 7 #[.val (.ref s), .val (.int (Int32.ofNat 0)), .val (.ref d), .val (.int (Int32.ofNat off)), .val (.int (Int32.ofNat len)), .unset] []
  refine go_iconst (q := 8) (z := (Int32.ofNat 0)) d46_7 rfl rfl ?_
  refine go_istore (q := 10) (l' := #[.val (.ref s), .val (.int (Int32.ofNat 0)), .val (.ref d), .val (.int (Int32.ofNat off)), .val (.int (Int32.ofNat len)), .val (.int (Int32.ofNat 0))]) d46_8 rfl rfl ?_
  exact loopIF B Fs hs hN hof nd len 0 h (by omega) (Keep.refl _ _) Fd
theorem d47_0 : decode jdk_43_method_50_code 0 = .ok (.aload_n 0, 1) := by decide +kernel
theorem d47_1 : decode jdk_43_method_50_code 1 = .ok (.iload_n 1, 1) := by decide +kernel
theorem d47_2 : decode jdk_43_method_50_code 2 = .ok (.aload_n 2, 1) := by decide +kernel
theorem d47_3 : decode jdk_43_method_50_code 3 = .ok (.iload_n 3, 1) := by decide +kernel
theorem d47_4 : decode jdk_43_method_50_code 4 = .ok (.iload 4, 2) := by decide +kernel
theorem d47_6 : decode jdk_43_method_50_code 6 = .ok (.invokestatic 240, 3) := by decide +kernel
theorem d47_9 : decode jdk_43_method_50_code 9 = .ok (.return_, 1) := by decide +kernel
theorem ef48 (m : MethodId) (a0 : Addr) (i1 : Int32) (a2 : Addr) (i3 : Int32) (i4 : Int32) : entryFrame m #[(.ref a0), (.int i1), (.ref a2), (.int i3), (.int i4)] 5 = mkF m 0 #[.val (.ref a0), .val (.int i1), .val (.ref a2), .val (.int i3), .val (.int i4)] [] := by first | (simp [entryFrame, mkF, argsToLocals, Value.category]; done) | rfl
abbrev r_conLF : Room := { frames := 4, cells := 0, slots := 0, locals := 60 }
set_option maxRecDepth 65536 in
set_option maxHeartbeats 4000000 in
theorem conLF {l : Launch} {Z : State} {a0 : Array Value} {G1 : Int32} {G3 : Value} {h : Heap} {s d : Addr} {ks kd : ClassId} {Ns off len : Nat} (B : Base Z a0 G1 G3) (E0 : Ext Z.heap h) (hmd : ∀ y ∈ [d], Z.heap.size ≤ y ∧ y < h.size) (Fs : Byt Z h s ks Ns) (hs : len ≤ Ns) (hN : Ns ≤ 4000) (hof : off + len ≤ 16) (nd : s ≠ d) (Fd : Byt Z h d kd 32) (b1 : ¬ ifCond.holds .lt ((Int32.ofNat 16 ||| Int32.ofNat off) ||| Int32.ofNat len) = true) (b2 : ¬ if_icmp.holds .le (Int32.ofNat len) (Int32.ofNat 16 - Int32.ofNat off) = false) : Con l false Z [] (⟨"java/lang/StringLatin1", "inflate", "([BI[BII)V"⟩ : MethodName) jdk_43_method_50_code 5 none [] r_conLF #[(.ref s), (.int (Int32.ofNat 0)), (.ref d), (.int (Int32.ofNat off)), (.int (Int32.ofNat len))] h [d] (QIF Z h d kd) := by
  have hw := B.hw
  refine con_of_go pn1_StringLatin1 (fun m => ef48 m s (Int32.ofNat 0) d (Int32.ofNat off) (Int32.ofNat len)) E0 EW.none ?_
  refine go_aloadN (q := 1) d47_0 rfl rfl rfl ?_
  refine go_iloadN (q := 2) d47_1 rfl rfl ?_
  refine go_aloadN (q := 3) d47_2 rfl rfl rfl ?_
  refine go_iloadN (q := 4) d47_3 rfl rfl ?_
  refine go_iload (q := 6) d47_4 rfl rfl ?_
  refine go_callS (q := 9) (y := (⟨"java/lang/StringUTF16", "inflate", "([BI[BII)V"⟩ : MethodName)) (W := 0) (argsL := [(.ref s), (.int (Int32.ofNat 0)), (.ref d), (.int (Int32.ofNat off)), (.int (Int32.ofNat len))]) (rest := []) (ws := [d]) (P := fun v h' L => ∃ out, (QIF Z h d kd v h' out) ∧ Fr Z.heap.size L ∧ Ext Z.heap h' ∧ ∀ x ∈ out, Z.heap.size ≤ x ∧ x < h'.size) d47_6 rfl (hw _ (List.mem_of_getElem? (i := 239) rfl)) (hw _ (List.mem_of_getElem? (i := 240) rfl)) (hw _ (List.mem_of_getElem? (i := 23) rfl)) (hw _ (List.mem_of_getElem? (i := 241) rfl)) (by decide) (con_pay (conIF B E0 Fs hs hN hof nd Fd b1 b2) hmd (hw _ (List.mem_of_getElem? (i := 241) rfl)) (hw _ (List.mem_of_getElem? (i := 23) rfl)) (by decide) (by decide)) rfl rfl (lenOf pd29 rfl) (Nat.le_of_ble_eq_true rfl) (by decide) (by decide) (fun v h' L hP => ?_) (fun _ z => z) (fun v h1 L hP => ?_)
  · obtain ⟨out, hq, N, -⟩ := hP; exact ⟨N, hq.2.2.1⟩
  obtain ⟨out, hq, -, X, hO⟩ := hP
  obtain ⟨rfl, rfl, K1, F1⟩ := hq
  refine ⟨[], all0, ?_⟩
  show Go l false Z [] _ _ _ _ _ _ _ _ _ _ _ 9 #[.val (.ref s), .val (.int (Int32.ofNat 0)), .val (.ref d), .val (.int (Int32.ofNat off)), .val (.int (Int32.ofNat len))] []
  exact go_return (out := []) rfl d47_9 ⟨rfl, rfl, K1, F1⟩ all0 (by decide) (by decide)
theorem d48_0 : decode jdk_68_method_11_code 0 = .ok (.aload_n 0, 1) := by decide +kernel
theorem d48_1 : decode jdk_68_method_11_code 1 = .ok (.invokevirtual 83, 3) := by decide +kernel
theorem d48_4 : decode jdk_68_method_11_code 4 = .ok (.ifCond .ne 4, 3) := by decide +kernel
theorem d48_7 : decode jdk_68_method_11_code 7 = .ok (.return_, 1) := by decide +kernel
theorem d48_8 : decode jdk_68_method_11_code 8 = .ok (.aload_n 0, 1) := by decide +kernel
theorem d48_9 : decode jdk_68_method_11_code 9 = .ok (.getfield 15, 3) := by decide +kernel
theorem d48_12 : decode jdk_68_method_11_code 12 = .ok (.arraylength, 1) := by decide +kernel
theorem d48_13 : decode jdk_68_method_11_code 13 = .ok (.invokestatic 26, 3) := by decide +kernel
theorem d48_16 : decode jdk_68_method_11_code 16 = .ok (.astore_n 1, 1) := by decide +kernel
theorem d48_17 : decode jdk_68_method_11_code 17 = .ok (.aload_n 0, 1) := by decide +kernel
theorem d48_18 : decode jdk_68_method_11_code 18 = .ok (.getfield 15, 3) := by decide +kernel
theorem d48_21 : decode jdk_68_method_11_code 21 = .ok (.iconst 0, 1) := by decide +kernel
theorem d48_22 : decode jdk_68_method_11_code 22 = .ok (.aload_n 1, 1) := by decide +kernel
theorem d48_23 : decode jdk_68_method_11_code 23 = .ok (.iconst 0, 1) := by decide +kernel
theorem d48_24 : decode jdk_68_method_11_code 24 = .ok (.aload_n 0, 1) := by decide +kernel
theorem d48_25 : decode jdk_68_method_11_code 25 = .ok (.getfield 79, 3) := by decide +kernel
theorem d48_28 : decode jdk_68_method_11_code 28 = .ok (.invokestatic 125, 3) := by decide +kernel
theorem d48_31 : decode jdk_68_method_11_code 31 = .ok (.aload_n 0, 1) := by decide +kernel
theorem d48_32 : decode jdk_68_method_11_code 32 = .ok (.aload_n 1, 1) := by decide +kernel
theorem d48_33 : decode jdk_68_method_11_code 33 = .ok (.putfield 15, 3) := by decide +kernel
theorem d48_36 : decode jdk_68_method_11_code 36 = .ok (.aload_n 0, 1) := by decide +kernel
theorem d48_37 : decode jdk_68_method_11_code 37 = .ok (.iconst 1, 1) := by decide +kernel
theorem d48_38 : decode jdk_68_method_11_code 38 = .ok (.putfield 22, 3) := by decide +kernel
theorem d48_41 : decode jdk_68_method_11_code 41 = .ok (.return_, 1) := by decide +kernel
theorem ef49 (m : MethodId) (a0 : Addr) : entryFrame m #[(.ref a0)] 2 = mkF m 0 #[.val (.ref a0), .unset] [] := by first | (simp [entryFrame, mkF, argsToLocals, Value.category]; done) | rfl
abbrev r_conI1 : Room := { frames := 1, cells := 0, slots := 0, locals := 12 }
set_option maxRecDepth 65536 in
set_option maxHeartbeats 4000000 in
theorem conI1 {l : Launch} {Z : State} {a0 : Array Value} {G1 : Int32} {G3 : Value} {h : Heap} {x a : Addr} {k : ClassId} {cnt : Int32} {N : Nat} (B : Base Z a0 G1 G3) (E0 : Ext Z.heap h) (FF : SBs Z h x a k (Int32.ofNat 1) cnt N) : Con l false Z [] (⟨"java/lang/AbstractStringBuilder", "inflate", "()V"⟩ : MethodName) jdk_68_method_11_code 2 none [] r_conI1 #[(.ref x)] h [] (PQ none h) := by
  have hw := B.hw
  refine con_of_go pn6_AbstractStringBuilder (fun m => ef49 m x) E0 EW.none ?_
  refine go_aloadN (q := 1) d48_0 rfl rfl rfl ?_
  refine go_pV (q := 4) (y := (⟨"java/lang/AbstractStringBuilder", "isLatin1", "()Z"⟩ : MethodName)) (W := 0) (argsL := []) (rest := []) (v := some (.int (0 : Int32))) d48_1 rfl (hw _ (List.mem_of_getElem? (i := 234) rfl)) (hw _ (List.mem_of_getElem? (i := 148) rfl)) (fun s hZ => nf_of (args := #[]) (mvT hZ (hw _ (List.mem_of_getElem? (i := 97) rfl))) rfl) (hw _ (List.mem_of_getElem? (i := 150) rfl)) (hw _ (List.mem_of_getElem? (i := 149) rfl)) FF.1 (hw _ (List.mem_of_getElem? (i := 151) rfl)) (hw _ (List.mem_of_getElem? (i := 64) rfl)) (by decide) (conAL1 B E0 FF) rfl rfl (lenOf pd17 rfl) (Nat.le_of_ble_eq_true rfl) (by decide) (by decide) rfl rfl (by decide) (by decide) ?_
  show Go l false Z [] _ _ _ _ _ _ _ _ _ _ _ 4 #[.val (.ref x), .unset] [(.int (0 : Int32))]
  refine go_if (q := 8) (q2 := 7) d48_4 (by decide) (by decide) rfl (fun hc => absurd hc (by decide)) (fun _ => ?_)
  exact go_return (out := []) rfl d48_7 ⟨rfl, rfl, rfl⟩ all0 (by decide) (by decide)
def QI0 (Z : State) (h : Heap) (x : Addr) (v : Option Value) (h' : Heap) (out : List Addr) : Prop := v = none ∧ Keep h h' [x] ∧ ∃ (a : Addr) (k : ClassId), out = [a] ∧ h.size ≤ a ∧ a < h'.size ∧ SBs Z h' x a k (Int32.ofNat 1) (Int32.ofNat 0) 32
abbrev r_conI0 : Room := { frames := 5, cells := 1, slots := 32, locals := 76 }
set_option maxRecDepth 65536 in
set_option maxHeartbeats 4000000 in
theorem conI0 {l : Launch} {Z : State} {a0 : Array Value} {G1 : Int32} {G3 : Value} {h : Heap} {x a : Addr} {k : ClassId} (B : Base Z a0 G1 G3) (E0 : Ext Z.heap h) (FF : SBs Z h x a k (Int32.ofNat 0) (Int32.ofNat 0) 16) : Con l false Z [] (⟨"java/lang/AbstractStringBuilder", "inflate", "()V"⟩ : MethodName) jdk_68_method_11_code 2 none [] r_conI0 #[(.ref x)] h [x] (QI0 Z h x) := by
  have hw := B.hw
  refine con_of_go pn6_AbstractStringBuilder (fun m => ef49 m x) E0 EW.none ?_
  obtain ⟨vs, el, Fv⟩ := FF.2.2.2.2.2.1
  refine go_aloadN (q := 1) d48_0 rfl rfl rfl ?_
  refine go_pV (q := 4) (y := (⟨"java/lang/AbstractStringBuilder", "isLatin1", "()Z"⟩ : MethodName)) (W := 0) (argsL := []) (rest := []) (v := some (.int (1 : Int32))) d48_1 rfl (hw _ (List.mem_of_getElem? (i := 234) rfl)) (hw _ (List.mem_of_getElem? (i := 148) rfl)) (fun s hZ => nf_of (args := #[]) (mvT hZ (hw _ (List.mem_of_getElem? (i := 97) rfl))) rfl) (hw _ (List.mem_of_getElem? (i := 150) rfl)) (hw _ (List.mem_of_getElem? (i := 149) rfl)) FF.1 (hw _ (List.mem_of_getElem? (i := 151) rfl)) (hw _ (List.mem_of_getElem? (i := 64) rfl)) (by decide) (conAL0 B E0 FF) rfl rfl (lenOf pd17 rfl) (Nat.le_of_ble_eq_true rfl) (by decide) (by decide) rfl rfl (by decide) (by decide) ?_
  show Go l false Z [] _ _ _ _ _ _ _ _ _ _ _ 4 #[.val (.ref x), .unset] [(.int (1 : Int32))]
  refine go_if (q := 8) (q2 := 7) d48_4 (by decide) (by decide) rfl (fun _ => ?_) (fun hc => absurd hc (by decide))
  refine go_aloadN (q := 9) d48_8 rfl rfl rfl ?_
  refine go_getfield (q := 12) d48_9 rfl (hw _ (List.mem_of_getElem? (i := 68) rfl)) Via.refl FF.2.1 ?_
  refine go_arraylength (q := 13) d48_12 rfl Fv ?_
  refine go_callS (q := 16) (y := (⟨"java/lang/StringUTF16", "newBytesFor", "(I)[B"⟩ : MethodName)) (W := 0) (argsL := [(.int (Int32.ofNat 16))]) (rest := []) (ws := []) (P := fun v h' L => ∃ out, (QNB Z h 16 v h' out) ∧ Fr Z.heap.size L ∧ Ext Z.heap h' ∧ ∀ x ∈ out, Z.heap.size ≤ x ∧ x < h'.size) d48_13 rfl (hw _ (List.mem_of_getElem? (i := 235) rfl)) (hw _ (List.mem_of_getElem? (i := 211) rfl)) (hw _ (List.mem_of_getElem? (i := 23) rfl)) (hw _ (List.mem_of_getElem? (i := 212) rfl)) (by decide) (con_pay (conNB32 B E0 (n := 16) (by decide)) all0 (hw _ (List.mem_of_getElem? (i := 212) rfl)) (hw _ (List.mem_of_getElem? (i := 23) rfl)) (by decide) (by decide)) rfl rfl (lenOf pd4 rfl) (Nat.le_of_ble_eq_true rfl) (by decide) (by decide) (fun v h' L hP => ?_) all0 (fun v h1 L hP => ?_)
  · obtain ⟨out, hq, N, -⟩ := hP; exact ⟨N, (by obtain ⟨_, _, _, _, _, E, _⟩ := hq; exact keep_ext E _)⟩
  obtain ⟨out, hq, -, X, hO⟩ := hP
  obtain ⟨a2, k2, rfl, rfl, ea, E1, F1, B1⟩ := hq
  refine ⟨[a2], allS ⟨Nat.le_of_eq ea.symm, F1.lt⟩ all0, ?_⟩
  show Go l false Z [] _ _ _ _ _ _ _ _ _ _ _ 16 #[.val (.ref x), .unset] [(.ref a2)]
  refine go_astoreN (q := 17) (l' := #[.val (.ref x), .val (.ref a2)]) d48_16 rfl rfl rfl ?_
  refine go_aloadN (q := 18) d48_17 rfl rfl rfl ?_
  have FF1 := FF.ext E1
  have n1 : a ≠ a2 := by rw [ea]; exact Nat.ne_of_lt FF.2.2.2.2.2.1.lt
  have n2 : a2 ≠ x := Ne.symm (by rw [ea]; exact Nat.ne_of_lt FF.1.lt)
  refine go_getfield (q := 21) d48_18 rfl (hw _ (List.mem_of_getElem? (i := 68) rfl)) Via.refl FF1.2.1 ?_
  refine go_iconst (q := 22) (z := (Int32.ofNat 0)) d48_21 rfl rfl ?_
  refine go_aloadN (q := 23) d48_22 rfl rfl rfl ?_
  refine go_iconst (q := 24) (z := (Int32.ofNat 0)) d48_23 rfl rfl ?_
  refine go_aloadN (q := 25) d48_24 rfl rfl rfl ?_
  refine go_getfield (q := 28) d48_25 rfl (hw _ (List.mem_of_getElem? (i := 92) rfl)) Via.refl FF1.2.2.2.1 ?_
  refine go_mine fun hM => ?_
  refine go_callS (q := 31) (y := (⟨"java/lang/StringLatin1", "inflate", "([BI[BII)V"⟩ : MethodName)) (W := 0) (argsL := [(.ref a), (.int (Int32.ofNat 0)), (.ref a2), (.int (Int32.ofNat 0)), (.int (Int32.ofNat 0))]) (rest := []) (ws := [a2]) (P := fun v h' L => ∃ out, (QIF Z h1 a2 k2 v h' out) ∧ Fr Z.heap.size L ∧ Ext Z.heap h' ∧ ∀ x ∈ out, Z.heap.size ≤ x ∧ x < h'.size) d48_28 rfl (hw _ (List.mem_of_getElem? (i := 236) rfl)) (hw _ (List.mem_of_getElem? (i := 237) rfl)) (hw _ (List.mem_of_getElem? (i := 41) rfl)) (hw _ (List.mem_of_getElem? (i := 238) rfl)) (by decide) (con_pay (conLF B X (off := 0) (len := 0) (fun y hy => hM y (by simp only [List.mem_cons, List.mem_append, List.not_mem_nil, or_false] at hy ⊢; exact Or.inl hy)) FF1.2.2.2.2.2.1 (by decide) (by decide) (by decide) n1 (Byt.new (N := 32) F1) (by decide) (by decide)) (fun y hy => hM y (by simp only [List.mem_cons, List.mem_append, List.not_mem_nil, or_false] at hy ⊢; exact Or.inl hy)) (hw _ (List.mem_of_getElem? (i := 238) rfl)) (hw _ (List.mem_of_getElem? (i := 41) rfl)) (by decide) (by decide)) rfl rfl (lenOf pd29 rfl) (Nat.le_of_ble_eq_true rfl) (by decide) (by decide) (fun v h' L hP => ?_) (allS (by simp) all0) (fun v h2 L hP => ?_)
  · obtain ⟨out, hq, N, -⟩ := hP; exact ⟨N, hq.2.2.1⟩
  obtain ⟨out, hq, -, X, hO⟩ := hP
  obtain ⟨rfl, rfl, K2, F2⟩ := hq
  refine ⟨[], all0, ?_⟩
  show Go l false Z [] _ _ _ _ _ _ _ _ _ _ _ 31 #[.val (.ref x), .val (.ref a2)] []
  refine go_aloadN (q := 32) d48_31 rfl rfl rfl ?_
  refine go_aloadN (q := 33) d48_32 rfl rfl rfl ?_
  have nx : x ∉ [a2] := ninS (Ne.symm n2) nin0
  refine go_putfield (q := 36) (ty := .array .byte) d48_33 rfl (hw _ (List.mem_of_getElem? (i := 68) rfl)) Via.refl (FF1.2.1.keep K2 nx) (FF1.1.keep K2) (Or.inl (hw _ (List.mem_of_getElem? (i := 69) rfl))) (hw _ (List.mem_of_getElem? (i := 55) rfl)) (by decide +kernel) rfl rfl (by simp) fun h3 W3 => ?_
  refine go_aloadN (q := 37) d48_36 rfl rfl rfl ?_
  refine go_iconst (q := 38) (z := (Int32.ofNat 1)) d48_37 rfl rfl ?_
  refine go_putfield (q := 41) (ty := .byte) d48_38 rfl (hw _ (List.mem_of_getElem? (i := 70) rfl)) Via.refl ((FF1.2.2.1.keep K2 nx).other W3 (Or.inr (slot_ne (C := "java/lang/StringBuilder") (t := .byte) (t' := .array .byte) (Or.inl (hw _ (List.mem_of_getElem? (i := 71) rfl))) (Or.inl (hw _ (List.mem_of_getElem? (i := 69) rfl))) (by decide) (by decide +kernel) (by decide +kernel)))) ((FF1.1.keep K2).wr W3) (Or.inl (hw _ (List.mem_of_getElem? (i := 71) rfl))) (hw _ (List.mem_of_getElem? (i := 55) rfl)) (by decide +kernel) rfl rfl (by simp) fun h4 W4 => ?_
  have FG := SBs.wBoth B (FF1.1.keep K2) (FF1.2.1.keep K2 nx) (FF1.2.2.1.keep K2 nx) (FF1.2.2.2.1.keep K2 nx) (FF1.2.2.2.2.1.keep K2 nx) W3 W4 F2 (B1.keep K2) n2
  exact go_return (out := [a2]) rfl d48_41 ⟨rfl, ((((keep_ext E1 [x]).trans K2 (allS (Or.inr (Nat.le_of_eq ea.symm)) all0)).wr W3 (Or.inl (List.mem_cons_self ..))).wr W4 (Or.inl (List.mem_cons_self ..))), a2, k2, rfl, Nat.le_of_eq ea.symm, FG.2.2.2.2.2.1.lt, FG⟩ (by simp) (by decide) (by decide)
def QGB (Z : State) (h : Heap) (a : Addr) (k : ClassId) (M : Nat) (v : Option Value) (h' : Heap) (out : List Addr) : Prop := v = none ∧ out = [] ∧ Keep h h' [a] ∧ Byt Z h' a k M
def QPA (Z : State) (h : Heap) (x a : Addr) (k : ClassId) (cod cnt : Int32) (N : Nat) (v : Option Value) (h' : Heap) (out : List Addr) : Prop := v = none ∧ out = [] ∧ Keep h h' [a] ∧ SBs Z h' x a k cod cnt N
def QPB (Z : State) (h : Heap) (x : Addr) (cnt : Int32) (v : Option Value) (h' : Heap) (out : List Addr) : Prop := v = none ∧ Keep h h' [x] ∧ ∃ (a : Addr) (k : ClassId), out = [a] ∧ h.size ≤ a ∧ a < h'.size ∧ SBs Z h' x a k (Int32.ofNat 1) cnt 32
def QAA (Z : State) (h : Heap) (x a : Addr) (k : ClassId) (cod cnt : Int32) (N : Nat) (v : Option Value) (h' : Heap) (out : List Addr) : Prop := v = some (.ref x) ∧ out = [] ∧ Keep h h' [x, a] ∧ SBs Z h' x a k cod cnt N
def QAB (Z : State) (h : Heap) (x : Addr) (cnt : Int32) (v : Option Value) (h' : Heap) (out : List Addr) : Prop := v = some (.ref x) ∧ Keep h h' [x] ∧ ∃ (a : Addr) (k : ClassId), out = [a] ∧ h.size ≤ a ∧ a < h'.size ∧ SBs Z h' x a k (Int32.ofNat 1) cnt 32
theorem d49_0 : decode jdk_68_method_71_code 0 = .ok (.getstatic 18, 3) := by decide +kernel
theorem d49_3 : decode jdk_68_method_71_code 3 = .ok (.ifCond .eq 18, 3) := by decide +kernel
theorem d49_6 : decode jdk_68_method_71_code 6 = .ok (.aload_n 0, 1) := by decide +kernel
theorem d49_7 : decode jdk_68_method_71_code 7 = .ok (.getfield 22, 3) := by decide +kernel
theorem d49_10 : decode jdk_68_method_71_code 10 = .ok (.aload_n 1, 1) := by decide +kernel
theorem d49_11 : decode jdk_68_method_71_code 11 = .ok (.invokevirtual 40, 3) := by decide +kernel
theorem d49_14 : decode jdk_68_method_71_code 14 = .ok (.if_icmp .eq 7, 3) := by decide +kernel
theorem d49_17 : decode jdk_68_method_71_code 17 = .ok (.aload_n 0, 1) := by decide +kernel
theorem d49_18 : decode jdk_68_method_71_code 18 = .ok (.invokevirtual 195, 3) := by decide +kernel
theorem d49_21 : decode jdk_68_method_71_code 21 = .ok (.return_, 1) := by decide +kernel
theorem pd30 : parseMethodDescriptor "(Ljava/lang/String;)V" = some ⟨[(.object "java/lang/String")], none⟩ := by decide +kernel
theorem ef50 (m : MethodId) (a0 : Addr) (a1 : Addr) : entryFrame m #[(.ref a0), (.ref a1)] 2 = mkF m 0 #[.val (.ref a0), .val (.ref a1)] [] := by first | (simp [entryFrame, mkF, argsToLocals, Value.category]; done) | rfl
abbrev r_conINA : Room := { frames := 1, cells := 0, slots := 0, locals := 13 }
set_option maxRecDepth 65536 in
set_option maxHeartbeats 4000000 in
theorem conINA {l : Launch} {Z : State} {a0 : Array Value} {G1 : Int32} {G3 : Value} {h : Heap} {x a : Addr} {k : ClassId} {y t : Addr} {kb : ClassId} (B : Base Z a0 G1 G3) (E0 : Ext Z.heap h) (FF : SBs Z h x a k (Int32.ofNat 0) (Int32.ofNat 0) 16) (WS : WStr Z h y t kb (Int32.ofNat 0) 1) : Con l false Z [] (⟨"java/lang/AbstractStringBuilder", "inflateIfNeededFor", "(Ljava/lang/String;)V"⟩ : MethodName) jdk_68_method_71_code 2 none [] r_conINA #[(.ref x), (.ref y)] h [] (PQ none h) := by
  have hw := B.hw
  refine con_of_go pn6_AbstractStringBuilder (fun m => ef50 m x y) E0 EW.none ?_
  refine go_getstatic (q := 3) d49_0 rfl (hw _ (List.mem_of_getElem? (i := 67) rfl)) Via.refl B.O2 ?_
  refine go_if (q := 21) (q2 := 6) d49_3 (by decide) (by decide) rfl (fun hc => absurd hc (by simpa [ifCond.holds] using B.P5)) (fun _ => ?_)
  refine go_aloadN (q := 7) d49_6 rfl rfl rfl ?_
  refine go_getfield (q := 10) d49_7 rfl (hw _ (List.mem_of_getElem? (i := 70) rfl)) Via.refl FF.2.2.1 ?_
  refine go_aloadN (q := 11) d49_10 rfl rfl rfl ?_
  refine go_pV (q := 14) (y := (⟨"java/lang/String", "coder", "()B"⟩ : MethodName)) (W := 1) (argsL := []) (rest := [(.int (Int32.ofNat 0))]) (v := some (.int (Int32.ofNat 0))) d49_11 rfl (hw _ (List.mem_of_getElem? (i := 109) rfl)) (hw _ (List.mem_of_getElem? (i := 88) rfl)) (fun s hZ => nf_of (args := #[]) (mvT hZ (hw _ (List.mem_of_getElem? (i := 85) rfl))) rfl) (hw _ (List.mem_of_getElem? (i := 90) rfl)) (hw _ (List.mem_of_getElem? (i := 89) rfl)) WS.1 (hw _ (List.mem_of_getElem? (i := 91) rfl)) (hw _ (List.mem_of_getElem? (i := 8) rfl)) (by decide) (conCd B E0 rfl WS.2.2.1) rfl rfl (lenOf pd15 rfl) (Nat.le_of_ble_eq_true rfl) (by decide) (by decide) rfl rfl (by decide) (by decide) ?_
  show Go l false Z [] _ _ _ _ _ _ _ _ _ _ _ 14 #[.val (.ref x), .val (.ref y)] [(.int (Int32.ofNat 0)), (.int (Int32.ofNat 0))]
  refine go_icmp (q := 21) (q2 := 17) d49_14 (by decide) (by decide) rfl (fun _ => ?_) (fun hc => absurd hc (by decide))
  exact go_return (out := []) rfl d49_21 ⟨rfl, rfl, rfl⟩ all0 (by decide) (by decide)
theorem d50_0 : decode jdk_42_method_147_code 0 = .ok (.aload_n 0, 1) := by decide +kernel
theorem d50_1 : decode jdk_42_method_147_code 1 = .ok (.invokevirtual 335, 3) := by decide +kernel
theorem d50_4 : decode jdk_42_method_147_code 4 = .ok (.iload_n 3, 1) := by decide +kernel
theorem d50_5 : decode jdk_42_method_147_code 5 = .ok (.if_icmp .ne 23, 3) := by decide +kernel
theorem d50_8 : decode jdk_42_method_147_code 8 = .ok (.aload_n 0, 1) := by decide +kernel
theorem d50_9 : decode jdk_42_method_147_code 9 = .ok (.getfield 9, 3) := by decide +kernel
theorem d50_12 : decode jdk_42_method_147_code 12 = .ok (.iconst 0, 1) := by decide +kernel
theorem d50_13 : decode jdk_42_method_147_code 13 = .ok (.aload_n 1, 1) := by decide +kernel
theorem d50_14 : decode jdk_42_method_147_code 14 = .ok (.iload_n 2, 1) := by decide +kernel
theorem d50_15 : decode jdk_42_method_147_code 15 = .ok (.iload_n 3, 1) := by decide +kernel
theorem d50_16 : decode jdk_42_method_147_code 16 = .ok (.ishl, 1) := by decide +kernel
theorem d50_17 : decode jdk_42_method_147_code 17 = .ok (.aload_n 0, 1) := by decide +kernel
theorem d50_18 : decode jdk_42_method_147_code 18 = .ok (.getfield 9, 3) := by decide +kernel
theorem d50_21 : decode jdk_42_method_147_code 21 = .ok (.arraylength, 1) := by decide +kernel
theorem d50_22 : decode jdk_42_method_147_code 22 = .ok (.invokestatic 212, 3) := by decide +kernel
theorem d50_25 : decode jdk_42_method_147_code 25 = .ok (.goto 18, 3) := by decide +kernel
theorem d50_28 : decode jdk_42_method_147_code 28 = .ok (.aload_n 0, 1) := by decide +kernel
theorem d50_29 : decode jdk_42_method_147_code 29 = .ok (.getfield 9, 3) := by decide +kernel
theorem d50_32 : decode jdk_42_method_147_code 32 = .ok (.iconst 0, 1) := by decide +kernel
theorem d50_33 : decode jdk_42_method_147_code 33 = .ok (.aload_n 1, 1) := by decide +kernel
theorem d50_34 : decode jdk_42_method_147_code 34 = .ok (.iload_n 2, 1) := by decide +kernel
theorem d50_35 : decode jdk_42_method_147_code 35 = .ok (.aload_n 0, 1) := by decide +kernel
theorem d50_36 : decode jdk_42_method_147_code 36 = .ok (.getfield 9, 3) := by decide +kernel
theorem d50_39 : decode jdk_42_method_147_code 39 = .ok (.arraylength, 1) := by decide +kernel
theorem d50_40 : decode jdk_42_method_147_code 40 = .ok (.invokestatic 106, 3) := by decide +kernel
theorem d50_43 : decode jdk_42_method_147_code 43 = .ok (.return_, 1) := by decide +kernel
theorem pd31 : parseMethodDescriptor "([BIB)V" = some ⟨[(.array .byte), .int, .byte], none⟩ := by decide +kernel
theorem ef51 (m : MethodId) (a0 : Addr) (a1 : Addr) (i2 : Int32) (i3 : Int32) : entryFrame m #[(.ref a0), (.ref a1), (.int i2), (.int i3)] 4 = mkF m 0 #[.val (.ref a0), .val (.ref a1), .val (.int i2), .val (.int i3)] [] := by first | (simp [entryFrame, mkF, argsToLocals, Value.category]; done) | rfl
abbrev r_conGBA : Room := { frames := 1, cells := 0, slots := 0, locals := 40 }
set_option maxRecDepth 65536 in
set_option maxHeartbeats 4000000 in
theorem conGBA {l : Launch} {Z : State} {a0 : Array Value} {G1 : Int32} {G3 : Value} {h : Heap} {a : Addr} {k : ClassId} {y t : Addr} {kb : ClassId} (B : Base Z a0 G1 G3) (E0 : Ext Z.heap h) (hma : ∀ z ∈ [a], Z.heap.size ≤ z ∧ z < h.size) (WS : WStr Z h y t kb (Int32.ofNat 0) 1) (Fa : Byt Z h a k 16) (nt : t ≠ a) : Con l false Z [] (⟨"java/lang/String", "getBytes", "([BIB)V"⟩ : MethodName) jdk_42_method_147_code 4 none [] r_conGBA #[(.ref y), (.ref a), (.int (Int32.ofNat 0)), (.int (Int32.ofNat 0))] h [a] (QGB Z h a k 16) := by
  have hw := B.hw
  refine con_of_go pn3_String (fun m => ef51 m y a (Int32.ofNat 0) (Int32.ofNat 0)) E0 EW.none ?_
  obtain ⟨us, eu, Fu⟩ := WS.2.2.2
  obtain ⟨vs, ev, Fv⟩ := id Fa
  refine go_aloadN (q := 1) d50_0 rfl rfl rfl ?_
  refine go_pV (q := 4) (y := (⟨"java/lang/String", "coder", "()B"⟩ : MethodName)) (W := 0) (argsL := []) (rest := []) (v := some (.int (Int32.ofNat 0))) d50_1 rfl (hw _ (List.mem_of_getElem? (i := 87) rfl)) (hw _ (List.mem_of_getElem? (i := 88) rfl)) (fun s hZ => nf_of (args := #[]) (mvT hZ (hw _ (List.mem_of_getElem? (i := 85) rfl))) rfl) (hw _ (List.mem_of_getElem? (i := 90) rfl)) (hw _ (List.mem_of_getElem? (i := 89) rfl)) WS.1 (hw _ (List.mem_of_getElem? (i := 91) rfl)) (hw _ (List.mem_of_getElem? (i := 8) rfl)) (by decide) (conCd B E0 rfl WS.2.2.1) rfl rfl (lenOf pd15 rfl) (Nat.le_of_ble_eq_true rfl) (by decide) (by decide) rfl rfl (by decide) (by decide) ?_
  show Go l false Z [] _ _ _ _ _ _ _ _ _ _ _ 4 #[.val (.ref y), .val (.ref a), .val (.int (Int32.ofNat 0)), .val (.int (Int32.ofNat 0))] [(.int (Int32.ofNat 0))]
  refine go_iloadN (q := 5) d50_4 rfl rfl ?_
  refine go_icmp (q := 28) (q2 := 8) d50_5 (by decide) (by decide) rfl (fun hc => absurd hc (by decide)) (fun _ => ?_)
  refine go_aloadN (q := 9) d50_8 rfl rfl rfl ?_
  refine go_getfield (q := 12) d50_9 rfl (hw _ (List.mem_of_getElem? (i := 34) rfl)) Via.refl WS.2.1 ?_
  refine go_iconst (q := 13) (z := (Int32.ofNat 0)) d50_12 rfl rfl ?_
  refine go_aloadN (q := 14) d50_13 rfl rfl rfl ?_
  refine go_iloadN (q := 15) d50_14 rfl rfl ?_
  refine go_iloadN (q := 16) d50_15 rfl rfl ?_
  refine go_ishl (q := 17) d50_16 rfl ?_
  refine go_aloadN (q := 18) d50_17 rfl rfl rfl ?_
  refine go_getfield (q := 21) d50_18 rfl (hw _ (List.mem_of_getElem? (i := 34) rfl)) Via.refl WS.2.1 ?_
  refine go_arraylength (q := 22) d50_21 rfl Fu ?_
  refine go_copyB (q := 25) (W := 0) (o := 0) (n := 1) (qq := 0) d50_22 rfl (hw _ (List.mem_of_getElem? (i := 115) rfl)) (hw _ (List.mem_of_getElem? (i := 118) rfl)) (hw _ (List.mem_of_getElem? (i := 116) rfl)) (hw _ (List.mem_of_getElem? (i := 117) rfl)) Fu Fv rfl (by decide) rfl (by decide) (by decide) rfl (by decide) (Nat.le_of_ble_eq_true rfl) (by decide) (List.mem_cons_self ..) fun h1 K1 F1 => ?_
  refine go_goto (q := 43) d50_25 (by decide) (by decide) ?_
  exact go_return (out := []) rfl d50_43 ⟨rfl, rfl, K1, F1⟩ all0 (by decide) (by decide)
theorem d51_0 : decode jdk_68_method_73_code 0 = .ok (.aload_n 0, 1) := by decide +kernel
theorem d51_1 : decode jdk_68_method_73_code 1 = .ok (.aload_n 2, 1) := by decide +kernel
theorem d51_2 : decode jdk_68_method_73_code 2 = .ok (.invokevirtual 397, 3) := by decide +kernel
theorem d51_5 : decode jdk_68_method_73_code 5 = .ok (.aload_n 2, 1) := by decide +kernel
theorem d51_6 : decode jdk_68_method_73_code 6 = .ok (.aload_n 0, 1) := by decide +kernel
theorem d51_7 : decode jdk_68_method_73_code 7 = .ok (.getfield 15, 3) := by decide +kernel
theorem d51_10 : decode jdk_68_method_73_code 10 = .ok (.iload_n 1, 1) := by decide +kernel
theorem d51_11 : decode jdk_68_method_73_code 11 = .ok (.aload_n 0, 1) := by decide +kernel
theorem d51_12 : decode jdk_68_method_73_code 12 = .ok (.getfield 22, 3) := by decide +kernel
theorem d51_15 : decode jdk_68_method_73_code 15 = .ok (.invokevirtual 399, 3) := by decide +kernel
theorem d51_18 : decode jdk_68_method_73_code 18 = .ok (.return_, 1) := by decide +kernel
theorem pd32 : parseMethodDescriptor "(ILjava/lang/String;)V" = some ⟨[.int, (.object "java/lang/String")], none⟩ := by decide +kernel
theorem ef52 (m : MethodId) (a0 : Addr) (i1 : Int32) (a2 : Addr) : entryFrame m #[(.ref a0), (.int i1), (.ref a2)] 3 = mkF m 0 #[.val (.ref a0), .val (.int i1), .val (.ref a2)] [] := by first | (simp [entryFrame, mkF, argsToLocals, Value.category]; done) | rfl
abbrev r_conPSA : Room := { frames := 2, cells := 0, slots := 0, locals := 55 }
set_option maxRecDepth 65536 in
set_option maxHeartbeats 4000000 in
theorem conPSA {l : Launch} {Z : State} {a0 : Array Value} {G1 : Int32} {G3 : Value} {h : Heap} {x a : Addr} {k : ClassId} {y t : Addr} {kb : ClassId} (B : Base Z a0 G1 G3) (E0 : Ext Z.heap h) (hm : ∀ z ∈ [a], Z.heap.size ≤ z ∧ z < h.size) (nt : t ≠ a) (FF : SBs Z h x a k (Int32.ofNat 0) (Int32.ofNat 0) 16) (WS : WStr Z h y t kb (Int32.ofNat 0) 1) : Con l false Z [] (⟨"java/lang/AbstractStringBuilder", "putStringAt", "(ILjava/lang/String;)V"⟩ : MethodName) jdk_68_method_73_code 3 none [] r_conPSA #[(.ref x), (.int (Int32.ofNat 0)), (.ref y)] h [a] (QPA Z h x a k (Int32.ofNat 0) (Int32.ofNat 0) 16) := by
  have hw := B.hw
  refine con_of_go pn6_AbstractStringBuilder (fun m => ef52 m x (Int32.ofNat 0) y) E0 EW.none ?_
  refine go_aloadN (q := 1) d51_0 rfl rfl rfl ?_
  refine go_aloadN (q := 2) d51_1 rfl rfl rfl ?_
  refine go_pP (q := 5) (y := (⟨"java/lang/AbstractStringBuilder", "inflateIfNeededFor", "(Ljava/lang/String;)V"⟩ : MethodName)) (W := 0) (argsL := [(.ref y)]) (rest := []) (v := none) d51_2 rfl (hw _ (List.mem_of_getElem? (i := 104) rfl)) (hw _ (List.mem_of_getElem? (i := 105) rfl)) (self_of (hw _ (List.mem_of_getElem? (i := 105) rfl)) (hw _ (List.mem_of_getElem? (i := 107) rfl)) (hw _ (List.mem_of_getElem? (i := 106) rfl)) (by decide)) (hw _ (List.mem_of_getElem? (i := 106) rfl)) (hw _ (List.mem_of_getElem? (i := 108) rfl)) FF.1 (hw _ (List.mem_of_getElem? (i := 64) rfl)) (by decide) (conINA B E0 FF WS) rfl rfl (lenOf pd30 rfl) (Nat.le_of_ble_eq_true rfl) (by decide) (by decide) rfl rfl (by decide) (by decide) ?_
  show Go l false Z [] _ _ _ _ _ _ _ _ _ _ _ 5 #[.val (.ref x), .val (.int (Int32.ofNat 0)), .val (.ref y)] []
  refine go_aloadN (q := 6) d51_5 rfl rfl rfl ?_
  refine go_aloadN (q := 7) d51_6 rfl rfl rfl ?_
  refine go_getfield (q := 10) d51_7 rfl (hw _ (List.mem_of_getElem? (i := 68) rfl)) Via.refl FF.2.1 ?_
  refine go_iloadN (q := 11) d51_10 rfl rfl ?_
  refine go_aloadN (q := 12) d51_11 rfl rfl rfl ?_
  refine go_getfield (q := 15) d51_12 rfl (hw _ (List.mem_of_getElem? (i := 70) rfl)) Via.refl FF.2.2.1 ?_
  refine go_callV (q := 18) (y := (⟨"java/lang/String", "getBytes", "([BIB)V"⟩ : MethodName)) (W := 0) (argsL := [(.ref a), (.int (Int32.ofNat 0)), (.int (Int32.ofNat 0))]) (rest := []) (ws := [a]) (P := fun v h' L => ∃ out, (QGB Z h a k 16 v h' out) ∧ Fr Z.heap.size L ∧ Ext Z.heap h' ∧ ∀ x ∈ out, Z.heap.size ≤ x ∧ x < h'.size) d51_15 rfl (hw _ (List.mem_of_getElem? (i := 110) rfl)) (hw _ (List.mem_of_getElem? (i := 111) rfl)) (fun s hZ => nf_of (args := #[]) (mvT hZ (hw _ (List.mem_of_getElem? (i := 85) rfl))) rfl) (hw _ (List.mem_of_getElem? (i := 113) rfl)) (hw _ (List.mem_of_getElem? (i := 112) rfl)) WS.1 (by decide) (con_pay (conGBA B E0 hm WS FF.2.2.2.2.2.1 nt) hm (hw _ (List.mem_of_getElem? (i := 114) rfl)) (hw _ (List.mem_of_getElem? (i := 8) rfl)) (by decide) (by decide)) rfl rfl (lenOf pd31 rfl) (Nat.le_of_ble_eq_true rfl) (by decide) (by decide) (fun v h' L hP => ?_) (fun _ z => z) (fun v h1 L hP => ?_)
  · obtain ⟨out, hq, N, -⟩ := hP; exact ⟨N, hq.2.2.1⟩
  obtain ⟨out, hq, -, X, hO⟩ := hP
  obtain ⟨rfl, rfl, K1, F1⟩ := hq
  refine ⟨[], all0, ?_⟩
  show Go l false Z [] _ _ _ _ _ _ _ _ _ _ _ 18 #[.val (.ref x), .val (.int (Int32.ofNat 0)), .val (.ref y)] []
  exact go_return (out := []) rfl d51_18 ⟨rfl, rfl, K1, FF.arr K1 F1⟩ all0 (by decide) (by decide)
theorem d52_0 : decode jdk_68_method_22_code 0 = .ok (.aload_n 1, 1) := by decide +kernel
theorem d52_1 : decode jdk_68_method_22_code 1 = .ok (.ifnonnull 8, 3) := by decide +kernel
theorem d52_4 : decode jdk_68_method_22_code 4 = .ok (.aload_n 0, 1) := by decide +kernel
theorem d52_5 : decode jdk_68_method_22_code 5 = .ok (.invokevirtual 204, 3) := by decide +kernel
theorem d52_8 : decode jdk_68_method_22_code 8 = .ok (.areturn, 1) := by decide +kernel
theorem d52_9 : decode jdk_68_method_22_code 9 = .ok (.aload_n 1, 1) := by decide +kernel
theorem d52_10 : decode jdk_68_method_22_code 10 = .ok (.invokevirtual 32, 3) := by decide +kernel
theorem d52_13 : decode jdk_68_method_22_code 13 = .ok (.istore_n 2, 1) := by decide +kernel
theorem d52_14 : decode jdk_68_method_22_code 14 = .ok (.aload_n 0, 1) := by decide +kernel
theorem d52_15 : decode jdk_68_method_22_code 15 = .ok (.aload_n 0, 1) := by decide +kernel
theorem d52_16 : decode jdk_68_method_22_code 16 = .ok (.getfield 79, 3) := by decide +kernel
theorem d52_19 : decode jdk_68_method_22_code 19 = .ok (.iload_n 2, 1) := by decide +kernel
theorem d52_20 : decode jdk_68_method_22_code 20 = .ok (.iadd, 1) := by decide +kernel
theorem d52_21 : decode jdk_68_method_22_code 21 = .ok (.invokevirtual 100, 3) := by decide +kernel
theorem d52_24 : decode jdk_68_method_22_code 24 = .ok (.aload_n 0, 1) := by decide +kernel
theorem d52_25 : decode jdk_68_method_22_code 25 = .ok (.aload_n 0, 1) := by decide +kernel
theorem d52_26 : decode jdk_68_method_22_code 26 = .ok (.getfield 79, 3) := by decide +kernel
theorem d52_29 : decode jdk_68_method_22_code 29 = .ok (.aload_n 1, 1) := by decide +kernel
theorem d52_30 : decode jdk_68_method_22_code 30 = .ok (.invokevirtual 208, 3) := by decide +kernel
theorem d52_33 : decode jdk_68_method_22_code 33 = .ok (.aload_n 0, 1) := by decide +kernel
theorem d52_34 : decode jdk_68_method_22_code 34 = .ok (.dup, 1) := by decide +kernel
theorem d52_35 : decode jdk_68_method_22_code 35 = .ok (.getfield 79, 3) := by decide +kernel
theorem d52_38 : decode jdk_68_method_22_code 38 = .ok (.iload_n 2, 1) := by decide +kernel
theorem d52_39 : decode jdk_68_method_22_code 39 = .ok (.iadd, 1) := by decide +kernel
theorem d52_40 : decode jdk_68_method_22_code 40 = .ok (.putfield 79, 3) := by decide +kernel
theorem d52_43 : decode jdk_68_method_22_code 43 = .ok (.aload_n 0, 1) := by decide +kernel
theorem d52_44 : decode jdk_68_method_22_code 44 = .ok (.areturn, 1) := by decide +kernel
theorem pd33 : parseMethodDescriptor "(Ljava/lang/String;)Ljava/lang/AbstractStringBuilder;" = some ⟨[(.object "java/lang/String")], some (.object "java/lang/AbstractStringBuilder")⟩ := by decide +kernel
theorem ef53 (m : MethodId) (a0 : Addr) (a1 : Addr) : entryFrame m #[(.ref a0), (.ref a1)] 3 = mkF m 0 #[.val (.ref a0), .val (.ref a1), .unset] [] := by first | (simp [entryFrame, mkF, argsToLocals, Value.category]; done) | rfl
abbrev r_conAPA : Room := { frames := 3, cells := 0, slots := 0, locals := 69 }
set_option maxRecDepth 65536 in
set_option maxHeartbeats 4000000 in
theorem conAPA {l : Launch} {Z : State} {a0 : Array Value} {G1 : Int32} {G3 : Value} {h : Heap} {x a : Addr} {k : ClassId} {y t : Addr} {kb : ClassId} (B : Base Z a0 G1 G3) (E0 : Ext Z.heap h) (hm : ∀ z ∈ [x, a], Z.heap.size ≤ z ∧ z < h.size) (ny : y ≠ x) (nt : t ≠ x) (nta : t ≠ a) (FF : SBs Z h x a k (Int32.ofNat 0) (Int32.ofNat 0) 16) (WS : WStr Z h y t kb (Int32.ofNat 0) 1) : Con l false Z [] (⟨"java/lang/AbstractStringBuilder", "append", "(Ljava/lang/String;)Ljava/lang/AbstractStringBuilder;"⟩ : MethodName) jdk_68_method_22_code 3 (some (.object "java/lang/AbstractStringBuilder")) [] r_conAPA #[(.ref x), (.ref y)] h [x, a] (QAA Z h x a k (Int32.ofNat 0) (Int32.ofNat 0 + Int32.ofNat 1) 16) := by
  have hw := B.hw
  refine con_of_go pn6_AbstractStringBuilder (fun m => ef53 m x y) E0 EW.none ?_
  obtain ⟨us, eu, Fu⟩ := WS.2.2.2
  refine go_aloadN (q := 1) d52_0 rfl rfl rfl ?_
  refine go_ifnonnullY (q := 9) d52_1 (by decide) (by decide) ?_
  refine go_aloadN (q := 10) d52_9 rfl rfl rfl ?_
  refine go_pV (q := 13) (y := (⟨"java/lang/String", "length", "()I"⟩ : MethodName)) (W := 0) (argsL := []) (rest := []) (v := some (.int (Int32.ofNat 1))) d52_10 rfl (hw _ (List.mem_of_getElem? (i := 82) rfl)) (hw _ (List.mem_of_getElem? (i := 83) rfl)) (fun s hZ => nf_of (args := #[]) (mvT hZ (hw _ (List.mem_of_getElem? (i := 85) rfl))) rfl) (hw _ (List.mem_of_getElem? (i := 85) rfl)) (hw _ (List.mem_of_getElem? (i := 84) rfl)) WS.1 (hw _ (List.mem_of_getElem? (i := 86) rfl)) (hw _ (List.mem_of_getElem? (i := 8) rfl)) (by decide) (conLn B E0 rfl WS.1 WS.2.1 WS.2.2.1 Fu (r := Int32.ofNat 1) (by decide)) rfl rfl (lenOf pd16 rfl) (Nat.le_of_ble_eq_true rfl) (by decide) (by decide) rfl rfl (by decide) (by decide) ?_
  show Go l false Z [] _ _ _ _ _ _ _ _ _ _ _ 13 #[.val (.ref x), .val (.ref y), .unset] [(.int (Int32.ofNat 1))]
  refine go_istoreN (q := 14) (l' := #[.val (.ref x), .val (.ref y), .val (.int (Int32.ofNat 1))]) d52_13 rfl rfl ?_
  refine go_aloadN (q := 15) d52_14 rfl rfl rfl ?_
  refine go_aloadN (q := 16) d52_15 rfl rfl rfl ?_
  refine go_getfield (q := 19) d52_16 rfl (hw _ (List.mem_of_getElem? (i := 92) rfl)) Via.refl FF.2.2.2.1 ?_
  refine go_iloadN (q := 20) d52_19 rfl rfl ?_
  refine go_iadd (q := 21) d52_20 rfl ?_
  refine go_pP (q := 24) (y := (⟨"java/lang/AbstractStringBuilder", "ensureCapacityInternal", "(I)V"⟩ : MethodName)) (W := 0) (argsL := [(.int ((Int32.ofNat 0) + (Int32.ofNat 1)))]) (rest := []) (v := none) d52_21 rfl (hw _ (List.mem_of_getElem? (i := 94) rfl)) (hw _ (List.mem_of_getElem? (i := 95) rfl)) (self_of (hw _ (List.mem_of_getElem? (i := 95) rfl)) (hw _ (List.mem_of_getElem? (i := 97) rfl)) (hw _ (List.mem_of_getElem? (i := 96) rfl)) (by decide)) (hw _ (List.mem_of_getElem? (i := 96) rfl)) (hw _ (List.mem_of_getElem? (i := 98) rfl)) FF.1 (hw _ (List.mem_of_getElem? (i := 64) rfl)) (by decide) (conEC B E0 FF (by decide)) rfl rfl (lenOf pd25 rfl) (Nat.le_of_ble_eq_true rfl) (by decide) (by decide) rfl rfl (by decide) (by decide) ?_
  show Go l false Z [] _ _ _ _ _ _ _ _ _ _ _ 24 #[.val (.ref x), .val (.ref y), .val (.int (Int32.ofNat 1))] []
  refine go_aloadN (q := 25) d52_24 rfl rfl rfl ?_
  refine go_aloadN (q := 26) d52_25 rfl rfl rfl ?_
  refine go_getfield (q := 29) d52_26 rfl (hw _ (List.mem_of_getElem? (i := 92) rfl)) Via.refl FF.2.2.2.1 ?_
  refine go_aloadN (q := 30) d52_29 rfl rfl rfl ?_
  refine go_callP (q := 33) (y := (⟨"java/lang/AbstractStringBuilder", "putStringAt", "(ILjava/lang/String;)V"⟩ : MethodName)) (W := 0) (argsL := [(.int (Int32.ofNat 0)), (.ref y)]) (rest := []) (ws := [a]) (P := fun v h' L => ∃ out, (QPA Z h x a k (Int32.ofNat 0) (Int32.ofNat 0) 16 v h' out) ∧ Fr Z.heap.size L ∧ Ext Z.heap h' ∧ ∀ x ∈ out, Z.heap.size ≤ x ∧ x < h'.size) d52_30 rfl (hw _ (List.mem_of_getElem? (i := 99) rfl)) (hw _ (List.mem_of_getElem? (i := 100) rfl)) (self_of (hw _ (List.mem_of_getElem? (i := 100) rfl)) (hw _ (List.mem_of_getElem? (i := 102) rfl)) (hw _ (List.mem_of_getElem? (i := 101) rfl)) (by decide)) (hw _ (List.mem_of_getElem? (i := 101) rfl)) (hw _ (List.mem_of_getElem? (i := 103) rfl)) FF.1 (by decide) (con_pay (conPSA B E0 (fun z hz => hm z (by simp only [List.mem_cons, List.not_mem_nil, or_false] at hz; first | (subst hz; simp; done) | (rcases hz with rfl | rfl <;> simp))) nta FF WS) (fun z hz => hm z (by simp only [List.mem_cons, List.not_mem_nil, or_false] at hz; first | (subst hz; simp; done) | (rcases hz with rfl | rfl <;> simp))) (hw _ (List.mem_of_getElem? (i := 103) rfl)) (hw _ (List.mem_of_getElem? (i := 64) rfl)) (by decide) (by decide)) rfl rfl (lenOf pd32 rfl) (Nat.le_of_ble_eq_true rfl) (by decide) (by decide) (fun v h' L hP => ?_) (allS (by simp) all0) (fun v h1 L hP => ?_)
  · obtain ⟨out, hq, N, -⟩ := hP; exact ⟨N, hq.2.2.1⟩
  obtain ⟨out, hq, -, X, hO⟩ := hP
  obtain ⟨rfl, rfl, K1, FG⟩ := hq
  refine ⟨[], all0, ?_⟩
  show Go l false Z [] _ _ _ _ _ _ _ _ _ _ _ 33 #[.val (.ref x), .val (.ref y), .val (.int (Int32.ofNat 1))] []
  refine go_aloadN (q := 34) d52_33 rfl rfl rfl ?_
  refine go_dup (q := 35) d52_34 rfl rfl ?_
  refine go_getfield (q := 38) d52_35 rfl (hw _ (List.mem_of_getElem? (i := 92) rfl)) Via.refl FG.2.2.2.1 ?_
  refine go_iloadN (q := 39) d52_38 rfl rfl ?_
  refine go_iadd (q := 40) d52_39 rfl ?_
  refine go_putfield (q := 43) (ty := .int) d52_40 rfl (hw _ (List.mem_of_getElem? (i := 92) rfl)) Via.refl FG.2.2.2.1 FG.1 (Or.inl (hw _ (List.mem_of_getElem? (i := 93) rfl))) (hw _ (List.mem_of_getElem? (i := 55) rfl)) (by decide +kernel) rfl rfl (by simp) fun h2 W2 => ?_
  refine go_aloadN (q := 44) d52_43 rfl rfl rfl ?_
  exact go_areturn (out := []) rfl rfl rfl rfl d52_44 ⟨rfl, rfl, ((Keep.refl h [x, a]).trans K1 (allS (Or.inl (by simp)) all0)).wr W2 (Or.inl (by simp)), FG.wCount B W2⟩ all0 (by decide) (by decide)
theorem d53_0 : decode jdk_67_method_7_code 0 = .ok (.aload_n 0, 1) := by decide +kernel
theorem d53_1 : decode jdk_67_method_7_code 1 = .ok (.aload_n 1, 1) := by decide +kernel
theorem d53_2 : decode jdk_67_method_7_code 2 = .ok (.invokespecial 29, 3) := by decide +kernel
theorem d53_5 : decode jdk_67_method_7_code 5 = .ok (.pop, 1) := by decide +kernel
theorem d53_6 : decode jdk_67_method_7_code 6 = .ok (.aload_n 0, 1) := by decide +kernel
theorem d53_7 : decode jdk_67_method_7_code 7 = .ok (.areturn, 1) := by decide +kernel
theorem pd34 : parseMethodDescriptor "(Ljava/lang/String;)Ljava/lang/StringBuilder;" = some ⟨[(.object "java/lang/String")], some (.object "java/lang/StringBuilder")⟩ := by decide +kernel
theorem ef54 (m : MethodId) (a0 : Addr) (a1 : Addr) : entryFrame m #[(.ref a0), (.ref a1)] 2 = mkF m 0 #[.val (.ref a0), .val (.ref a1)] [] := by first | (simp [entryFrame, mkF, argsToLocals, Value.category]; done) | rfl
abbrev r_conBPA : Room := { frames := 4, cells := 0, slots := 0, locals := 83 }
set_option maxRecDepth 65536 in
set_option maxHeartbeats 4000000 in
theorem conBPA {l : Launch} {Z : State} {a0 : Array Value} {G1 : Int32} {G3 : Value} {h : Heap} {x a : Addr} {k : ClassId} {y t : Addr} {kb : ClassId} (B : Base Z a0 G1 G3) (E0 : Ext Z.heap h) (hm : ∀ z ∈ [x, a], Z.heap.size ≤ z ∧ z < h.size) (ny : y ≠ x) (nt : t ≠ x) (nta : t ≠ a) (FF : SBs Z h x a k (Int32.ofNat 0) (Int32.ofNat 0) 16) (WS : WStr Z h y t kb (Int32.ofNat 0) 1) : Con l false Z [] (⟨"java/lang/StringBuilder", "append", "(Ljava/lang/String;)Ljava/lang/StringBuilder;"⟩ : MethodName) jdk_67_method_7_code 2 (some (.object "java/lang/StringBuilder")) [] r_conBPA #[(.ref x), (.ref y)] h [x, a] (QAA Z h x a k (Int32.ofNat 0) (Int32.ofNat 0 + Int32.ofNat 1) 16) := by
  have hw := B.hw
  refine con_of_go pn7_StringBuilder (fun m => ef54 m x y) E0 EW.none ?_
  refine go_aloadN (q := 1) d53_0 rfl rfl rfl ?_
  refine go_aloadN (q := 2) d53_1 rfl rfl rfl ?_
  refine go_callU (q := 5) (y := (⟨"java/lang/AbstractStringBuilder", "append", "(Ljava/lang/String;)Ljava/lang/AbstractStringBuilder;"⟩ : MethodName)) (W := 0) (argsL := [(.ref y)]) (rest := []) (ws := [x, a]) (P := fun v h' L => ∃ out, (QAA Z h x a k (Int32.ofNat 0) (Int32.ofNat 0 + Int32.ofNat 1) 16 v h' out) ∧ Fr Z.heap.size L ∧ Ext Z.heap h' ∧ ∀ x ∈ out, Z.heap.size ≤ x ∧ x < h'.size) d53_2 rfl (hw _ (List.mem_of_getElem? (i := 77) rfl)) (same_of (hw _ (List.mem_of_getElem? (i := 78) rfl)) (hw _ (List.mem_of_getElem? (i := 97) rfl)) rfl (by decide)) (hw _ (List.mem_of_getElem? (i := 78) rfl)) (hw _ (List.mem_of_getElem? (i := 79) rfl)) (by decide) (hw _ (List.mem_of_getElem? (i := 81) rfl)) FF.1 (by decide) (con_pay (conAPA B E0 hm ny nt nta FF WS) hm (hw _ (List.mem_of_getElem? (i := 81) rfl)) (hw _ (List.mem_of_getElem? (i := 64) rfl)) (by decide) (by decide)) rfl rfl (lenOf pd33 rfl) (Nat.le_of_ble_eq_true rfl) (by decide) (by decide) (fun v h' L hP => ?_) (fun _ z => z) (fun v h1 L hP => ?_)
  · obtain ⟨out, hq, N, -⟩ := hP; exact ⟨N, hq.2.2.1⟩
  obtain ⟨out, hq, -, X, hO⟩ := hP
  obtain ⟨rfl, rfl, K1, FG⟩ := hq
  refine ⟨[], all0, ?_⟩
  show Go l false Z [] _ _ _ _ _ _ _ _ _ _ _ 5 #[.val (.ref x), .val (.ref y)] [(.ref x)]
  refine go_pop (q := 6) d53_5 rfl rfl ?_
  refine go_aloadN (q := 7) d53_6 rfl rfl rfl ?_
  exact go_areturn (out := []) rfl rfl rfl rfl d53_7 ⟨rfl, rfl, K1, FG⟩ all0 (by decide) (by decide)
abbrev r_conINB : Room := { frames := 1, cells := 0, slots := 0, locals := 13 }
set_option maxRecDepth 65536 in
set_option maxHeartbeats 4000000 in
theorem conINB {l : Launch} {Z : State} {a0 : Array Value} {G1 : Int32} {G3 : Value} {h : Heap} {x a : Addr} {k : ClassId} {y t : Addr} {kb : ClassId} (B : Base Z a0 G1 G3) (E0 : Ext Z.heap h) (FF : SBs Z h x a k (Int32.ofNat 0) (Int32.ofNat 1) 16) (WS : WStr Z h y t kb (Int32.ofNat 0) 15) : Con l false Z [] (⟨"java/lang/AbstractStringBuilder", "inflateIfNeededFor", "(Ljava/lang/String;)V"⟩ : MethodName) jdk_68_method_71_code 2 none [] r_conINB #[(.ref x), (.ref y)] h [] (PQ none h) := by
  have hw := B.hw
  refine con_of_go pn6_AbstractStringBuilder (fun m => ef50 m x y) E0 EW.none ?_
  refine go_getstatic (q := 3) d49_0 rfl (hw _ (List.mem_of_getElem? (i := 67) rfl)) Via.refl B.O2 ?_
  refine go_if (q := 21) (q2 := 6) d49_3 (by decide) (by decide) rfl (fun hc => absurd hc (by simpa [ifCond.holds] using B.P5)) (fun _ => ?_)
  refine go_aloadN (q := 7) d49_6 rfl rfl rfl ?_
  refine go_getfield (q := 10) d49_7 rfl (hw _ (List.mem_of_getElem? (i := 70) rfl)) Via.refl FF.2.2.1 ?_
  refine go_aloadN (q := 11) d49_10 rfl rfl rfl ?_
  refine go_pV (q := 14) (y := (⟨"java/lang/String", "coder", "()B"⟩ : MethodName)) (W := 1) (argsL := []) (rest := [(.int (Int32.ofNat 0))]) (v := some (.int (Int32.ofNat 0))) d49_11 rfl (hw _ (List.mem_of_getElem? (i := 109) rfl)) (hw _ (List.mem_of_getElem? (i := 88) rfl)) (fun s hZ => nf_of (args := #[]) (mvT hZ (hw _ (List.mem_of_getElem? (i := 85) rfl))) rfl) (hw _ (List.mem_of_getElem? (i := 90) rfl)) (hw _ (List.mem_of_getElem? (i := 89) rfl)) WS.1 (hw _ (List.mem_of_getElem? (i := 91) rfl)) (hw _ (List.mem_of_getElem? (i := 8) rfl)) (by decide) (conCd B E0 rfl WS.2.2.1) rfl rfl (lenOf pd15 rfl) (Nat.le_of_ble_eq_true rfl) (by decide) (by decide) rfl rfl (by decide) (by decide) ?_
  show Go l false Z [] _ _ _ _ _ _ _ _ _ _ _ 14 #[.val (.ref x), .val (.ref y)] [(.int (Int32.ofNat 0)), (.int (Int32.ofNat 0))]
  refine go_icmp (q := 21) (q2 := 17) d49_14 (by decide) (by decide) rfl (fun _ => ?_) (fun hc => absurd hc (by decide))
  exact go_return (out := []) rfl d49_21 ⟨rfl, rfl, rfl⟩ all0 (by decide) (by decide)
abbrev r_conGBB : Room := { frames := 1, cells := 0, slots := 0, locals := 40 }
set_option maxRecDepth 65536 in
set_option maxHeartbeats 4000000 in
theorem conGBB {l : Launch} {Z : State} {a0 : Array Value} {G1 : Int32} {G3 : Value} {h : Heap} {a : Addr} {k : ClassId} {y t : Addr} {kb : ClassId} (B : Base Z a0 G1 G3) (E0 : Ext Z.heap h) (hma : ∀ z ∈ [a], Z.heap.size ≤ z ∧ z < h.size) (WS : WStr Z h y t kb (Int32.ofNat 0) 15) (Fa : Byt Z h a k 16) (nt : t ≠ a) : Con l false Z [] (⟨"java/lang/String", "getBytes", "([BIB)V"⟩ : MethodName) jdk_42_method_147_code 4 none [] r_conGBB #[(.ref y), (.ref a), (.int (Int32.ofNat 1)), (.int (Int32.ofNat 0))] h [a] (QGB Z h a k 16) := by
  have hw := B.hw
  refine con_of_go pn3_String (fun m => ef51 m y a (Int32.ofNat 1) (Int32.ofNat 0)) E0 EW.none ?_
  obtain ⟨us, eu, Fu⟩ := WS.2.2.2
  obtain ⟨vs, ev, Fv⟩ := id Fa
  refine go_aloadN (q := 1) d50_0 rfl rfl rfl ?_
  refine go_pV (q := 4) (y := (⟨"java/lang/String", "coder", "()B"⟩ : MethodName)) (W := 0) (argsL := []) (rest := []) (v := some (.int (Int32.ofNat 0))) d50_1 rfl (hw _ (List.mem_of_getElem? (i := 87) rfl)) (hw _ (List.mem_of_getElem? (i := 88) rfl)) (fun s hZ => nf_of (args := #[]) (mvT hZ (hw _ (List.mem_of_getElem? (i := 85) rfl))) rfl) (hw _ (List.mem_of_getElem? (i := 90) rfl)) (hw _ (List.mem_of_getElem? (i := 89) rfl)) WS.1 (hw _ (List.mem_of_getElem? (i := 91) rfl)) (hw _ (List.mem_of_getElem? (i := 8) rfl)) (by decide) (conCd B E0 rfl WS.2.2.1) rfl rfl (lenOf pd15 rfl) (Nat.le_of_ble_eq_true rfl) (by decide) (by decide) rfl rfl (by decide) (by decide) ?_
  show Go l false Z [] _ _ _ _ _ _ _ _ _ _ _ 4 #[.val (.ref y), .val (.ref a), .val (.int (Int32.ofNat 1)), .val (.int (Int32.ofNat 0))] [(.int (Int32.ofNat 0))]
  refine go_iloadN (q := 5) d50_4 rfl rfl ?_
  refine go_icmp (q := 28) (q2 := 8) d50_5 (by decide) (by decide) rfl (fun hc => absurd hc (by decide)) (fun _ => ?_)
  refine go_aloadN (q := 9) d50_8 rfl rfl rfl ?_
  refine go_getfield (q := 12) d50_9 rfl (hw _ (List.mem_of_getElem? (i := 34) rfl)) Via.refl WS.2.1 ?_
  refine go_iconst (q := 13) (z := (Int32.ofNat 0)) d50_12 rfl rfl ?_
  refine go_aloadN (q := 14) d50_13 rfl rfl rfl ?_
  refine go_iloadN (q := 15) d50_14 rfl rfl ?_
  refine go_iloadN (q := 16) d50_15 rfl rfl ?_
  refine go_ishl (q := 17) d50_16 rfl ?_
  refine go_aloadN (q := 18) d50_17 rfl rfl rfl ?_
  refine go_getfield (q := 21) d50_18 rfl (hw _ (List.mem_of_getElem? (i := 34) rfl)) Via.refl WS.2.1 ?_
  refine go_arraylength (q := 22) d50_21 rfl Fu ?_
  refine go_copyB (q := 25) (W := 0) (o := 0) (n := 15) (qq := 1) d50_22 rfl (hw _ (List.mem_of_getElem? (i := 115) rfl)) (hw _ (List.mem_of_getElem? (i := 118) rfl)) (hw _ (List.mem_of_getElem? (i := 116) rfl)) (hw _ (List.mem_of_getElem? (i := 117) rfl)) Fu Fv rfl (by decide) rfl (by decide) (by decide) rfl (by decide) (Nat.le_of_ble_eq_true rfl) (by decide) (List.mem_cons_self ..) fun h1 K1 F1 => ?_
  refine go_goto (q := 43) d50_25 (by decide) (by decide) ?_
  exact go_return (out := []) rfl d50_43 ⟨rfl, rfl, K1, F1⟩ all0 (by decide) (by decide)
abbrev r_conPSB : Room := { frames := 2, cells := 0, slots := 0, locals := 55 }
set_option maxRecDepth 65536 in
set_option maxHeartbeats 4000000 in
theorem conPSB {l : Launch} {Z : State} {a0 : Array Value} {G1 : Int32} {G3 : Value} {h : Heap} {x a : Addr} {k : ClassId} {y t : Addr} {kb : ClassId} (B : Base Z a0 G1 G3) (E0 : Ext Z.heap h) (hm : ∀ z ∈ [a], Z.heap.size ≤ z ∧ z < h.size) (nt : t ≠ a) (FF : SBs Z h x a k (Int32.ofNat 0) (Int32.ofNat 1) 16) (WS : WStr Z h y t kb (Int32.ofNat 0) 15) : Con l false Z [] (⟨"java/lang/AbstractStringBuilder", "putStringAt", "(ILjava/lang/String;)V"⟩ : MethodName) jdk_68_method_73_code 3 none [] r_conPSB #[(.ref x), (.int (Int32.ofNat 1)), (.ref y)] h [a] (QPA Z h x a k (Int32.ofNat 0) (Int32.ofNat 1) 16) := by
  have hw := B.hw
  refine con_of_go pn6_AbstractStringBuilder (fun m => ef52 m x (Int32.ofNat 1) y) E0 EW.none ?_
  refine go_aloadN (q := 1) d51_0 rfl rfl rfl ?_
  refine go_aloadN (q := 2) d51_1 rfl rfl rfl ?_
  refine go_pP (q := 5) (y := (⟨"java/lang/AbstractStringBuilder", "inflateIfNeededFor", "(Ljava/lang/String;)V"⟩ : MethodName)) (W := 0) (argsL := [(.ref y)]) (rest := []) (v := none) d51_2 rfl (hw _ (List.mem_of_getElem? (i := 104) rfl)) (hw _ (List.mem_of_getElem? (i := 105) rfl)) (self_of (hw _ (List.mem_of_getElem? (i := 105) rfl)) (hw _ (List.mem_of_getElem? (i := 107) rfl)) (hw _ (List.mem_of_getElem? (i := 106) rfl)) (by decide)) (hw _ (List.mem_of_getElem? (i := 106) rfl)) (hw _ (List.mem_of_getElem? (i := 108) rfl)) FF.1 (hw _ (List.mem_of_getElem? (i := 64) rfl)) (by decide) (conINB B E0 FF WS) rfl rfl (lenOf pd30 rfl) (Nat.le_of_ble_eq_true rfl) (by decide) (by decide) rfl rfl (by decide) (by decide) ?_
  show Go l false Z [] _ _ _ _ _ _ _ _ _ _ _ 5 #[.val (.ref x), .val (.int (Int32.ofNat 1)), .val (.ref y)] []
  refine go_aloadN (q := 6) d51_5 rfl rfl rfl ?_
  refine go_aloadN (q := 7) d51_6 rfl rfl rfl ?_
  refine go_getfield (q := 10) d51_7 rfl (hw _ (List.mem_of_getElem? (i := 68) rfl)) Via.refl FF.2.1 ?_
  refine go_iloadN (q := 11) d51_10 rfl rfl ?_
  refine go_aloadN (q := 12) d51_11 rfl rfl rfl ?_
  refine go_getfield (q := 15) d51_12 rfl (hw _ (List.mem_of_getElem? (i := 70) rfl)) Via.refl FF.2.2.1 ?_
  refine go_callV (q := 18) (y := (⟨"java/lang/String", "getBytes", "([BIB)V"⟩ : MethodName)) (W := 0) (argsL := [(.ref a), (.int (Int32.ofNat 1)), (.int (Int32.ofNat 0))]) (rest := []) (ws := [a]) (P := fun v h' L => ∃ out, (QGB Z h a k 16 v h' out) ∧ Fr Z.heap.size L ∧ Ext Z.heap h' ∧ ∀ x ∈ out, Z.heap.size ≤ x ∧ x < h'.size) d51_15 rfl (hw _ (List.mem_of_getElem? (i := 110) rfl)) (hw _ (List.mem_of_getElem? (i := 111) rfl)) (fun s hZ => nf_of (args := #[]) (mvT hZ (hw _ (List.mem_of_getElem? (i := 85) rfl))) rfl) (hw _ (List.mem_of_getElem? (i := 113) rfl)) (hw _ (List.mem_of_getElem? (i := 112) rfl)) WS.1 (by decide) (con_pay (conGBB B E0 hm WS FF.2.2.2.2.2.1 nt) hm (hw _ (List.mem_of_getElem? (i := 114) rfl)) (hw _ (List.mem_of_getElem? (i := 8) rfl)) (by decide) (by decide)) rfl rfl (lenOf pd31 rfl) (Nat.le_of_ble_eq_true rfl) (by decide) (by decide) (fun v h' L hP => ?_) (fun _ z => z) (fun v h1 L hP => ?_)
  · obtain ⟨out, hq, N, -⟩ := hP; exact ⟨N, hq.2.2.1⟩
  obtain ⟨out, hq, -, X, hO⟩ := hP
  obtain ⟨rfl, rfl, K1, F1⟩ := hq
  refine ⟨[], all0, ?_⟩
  show Go l false Z [] _ _ _ _ _ _ _ _ _ _ _ 18 #[.val (.ref x), .val (.int (Int32.ofNat 1)), .val (.ref y)] []
  exact go_return (out := []) rfl d51_18 ⟨rfl, rfl, K1, FF.arr K1 F1⟩ all0 (by decide) (by decide)
abbrev r_conAPB : Room := { frames := 3, cells := 0, slots := 0, locals := 69 }
set_option maxRecDepth 65536 in
set_option maxHeartbeats 4000000 in
theorem conAPB {l : Launch} {Z : State} {a0 : Array Value} {G1 : Int32} {G3 : Value} {h : Heap} {x a : Addr} {k : ClassId} {y t : Addr} {kb : ClassId} (B : Base Z a0 G1 G3) (E0 : Ext Z.heap h) (hm : ∀ z ∈ [x, a], Z.heap.size ≤ z ∧ z < h.size) (ny : y ≠ x) (nt : t ≠ x) (nta : t ≠ a) (FF : SBs Z h x a k (Int32.ofNat 0) (Int32.ofNat 1) 16) (WS : WStr Z h y t kb (Int32.ofNat 0) 15) : Con l false Z [] (⟨"java/lang/AbstractStringBuilder", "append", "(Ljava/lang/String;)Ljava/lang/AbstractStringBuilder;"⟩ : MethodName) jdk_68_method_22_code 3 (some (.object "java/lang/AbstractStringBuilder")) [] r_conAPB #[(.ref x), (.ref y)] h [x, a] (QAA Z h x a k (Int32.ofNat 0) (Int32.ofNat 1 + Int32.ofNat 15) 16) := by
  have hw := B.hw
  refine con_of_go pn6_AbstractStringBuilder (fun m => ef53 m x y) E0 EW.none ?_
  obtain ⟨us, eu, Fu⟩ := WS.2.2.2
  refine go_aloadN (q := 1) d52_0 rfl rfl rfl ?_
  refine go_ifnonnullY (q := 9) d52_1 (by decide) (by decide) ?_
  refine go_aloadN (q := 10) d52_9 rfl rfl rfl ?_
  refine go_pV (q := 13) (y := (⟨"java/lang/String", "length", "()I"⟩ : MethodName)) (W := 0) (argsL := []) (rest := []) (v := some (.int (Int32.ofNat 15))) d52_10 rfl (hw _ (List.mem_of_getElem? (i := 82) rfl)) (hw _ (List.mem_of_getElem? (i := 83) rfl)) (fun s hZ => nf_of (args := #[]) (mvT hZ (hw _ (List.mem_of_getElem? (i := 85) rfl))) rfl) (hw _ (List.mem_of_getElem? (i := 85) rfl)) (hw _ (List.mem_of_getElem? (i := 84) rfl)) WS.1 (hw _ (List.mem_of_getElem? (i := 86) rfl)) (hw _ (List.mem_of_getElem? (i := 8) rfl)) (by decide) (conLn B E0 rfl WS.1 WS.2.1 WS.2.2.1 Fu (r := Int32.ofNat 15) (by decide)) rfl rfl (lenOf pd16 rfl) (Nat.le_of_ble_eq_true rfl) (by decide) (by decide) rfl rfl (by decide) (by decide) ?_
  show Go l false Z [] _ _ _ _ _ _ _ _ _ _ _ 13 #[.val (.ref x), .val (.ref y), .unset] [(.int (Int32.ofNat 15))]
  refine go_istoreN (q := 14) (l' := #[.val (.ref x), .val (.ref y), .val (.int (Int32.ofNat 15))]) d52_13 rfl rfl ?_
  refine go_aloadN (q := 15) d52_14 rfl rfl rfl ?_
  refine go_aloadN (q := 16) d52_15 rfl rfl rfl ?_
  refine go_getfield (q := 19) d52_16 rfl (hw _ (List.mem_of_getElem? (i := 92) rfl)) Via.refl FF.2.2.2.1 ?_
  refine go_iloadN (q := 20) d52_19 rfl rfl ?_
  refine go_iadd (q := 21) d52_20 rfl ?_
  refine go_pP (q := 24) (y := (⟨"java/lang/AbstractStringBuilder", "ensureCapacityInternal", "(I)V"⟩ : MethodName)) (W := 0) (argsL := [(.int ((Int32.ofNat 1) + (Int32.ofNat 15)))]) (rest := []) (v := none) d52_21 rfl (hw _ (List.mem_of_getElem? (i := 94) rfl)) (hw _ (List.mem_of_getElem? (i := 95) rfl)) (self_of (hw _ (List.mem_of_getElem? (i := 95) rfl)) (hw _ (List.mem_of_getElem? (i := 97) rfl)) (hw _ (List.mem_of_getElem? (i := 96) rfl)) (by decide)) (hw _ (List.mem_of_getElem? (i := 96) rfl)) (hw _ (List.mem_of_getElem? (i := 98) rfl)) FF.1 (hw _ (List.mem_of_getElem? (i := 64) rfl)) (by decide) (conEC B E0 FF (by decide)) rfl rfl (lenOf pd25 rfl) (Nat.le_of_ble_eq_true rfl) (by decide) (by decide) rfl rfl (by decide) (by decide) ?_
  show Go l false Z [] _ _ _ _ _ _ _ _ _ _ _ 24 #[.val (.ref x), .val (.ref y), .val (.int (Int32.ofNat 15))] []
  refine go_aloadN (q := 25) d52_24 rfl rfl rfl ?_
  refine go_aloadN (q := 26) d52_25 rfl rfl rfl ?_
  refine go_getfield (q := 29) d52_26 rfl (hw _ (List.mem_of_getElem? (i := 92) rfl)) Via.refl FF.2.2.2.1 ?_
  refine go_aloadN (q := 30) d52_29 rfl rfl rfl ?_
  refine go_callP (q := 33) (y := (⟨"java/lang/AbstractStringBuilder", "putStringAt", "(ILjava/lang/String;)V"⟩ : MethodName)) (W := 0) (argsL := [(.int (Int32.ofNat 1)), (.ref y)]) (rest := []) (ws := [a]) (P := fun v h' L => ∃ out, (QPA Z h x a k (Int32.ofNat 0) (Int32.ofNat 1) 16 v h' out) ∧ Fr Z.heap.size L ∧ Ext Z.heap h' ∧ ∀ x ∈ out, Z.heap.size ≤ x ∧ x < h'.size) d52_30 rfl (hw _ (List.mem_of_getElem? (i := 99) rfl)) (hw _ (List.mem_of_getElem? (i := 100) rfl)) (self_of (hw _ (List.mem_of_getElem? (i := 100) rfl)) (hw _ (List.mem_of_getElem? (i := 102) rfl)) (hw _ (List.mem_of_getElem? (i := 101) rfl)) (by decide)) (hw _ (List.mem_of_getElem? (i := 101) rfl)) (hw _ (List.mem_of_getElem? (i := 103) rfl)) FF.1 (by decide) (con_pay (conPSB B E0 (fun z hz => hm z (by simp only [List.mem_cons, List.not_mem_nil, or_false] at hz; first | (subst hz; simp; done) | (rcases hz with rfl | rfl <;> simp))) nta FF WS) (fun z hz => hm z (by simp only [List.mem_cons, List.not_mem_nil, or_false] at hz; first | (subst hz; simp; done) | (rcases hz with rfl | rfl <;> simp))) (hw _ (List.mem_of_getElem? (i := 103) rfl)) (hw _ (List.mem_of_getElem? (i := 64) rfl)) (by decide) (by decide)) rfl rfl (lenOf pd32 rfl) (Nat.le_of_ble_eq_true rfl) (by decide) (by decide) (fun v h' L hP => ?_) (allS (by simp) all0) (fun v h1 L hP => ?_)
  · obtain ⟨out, hq, N, -⟩ := hP; exact ⟨N, hq.2.2.1⟩
  obtain ⟨out, hq, -, X, hO⟩ := hP
  obtain ⟨rfl, rfl, K1, FG⟩ := hq
  refine ⟨[], all0, ?_⟩
  show Go l false Z [] _ _ _ _ _ _ _ _ _ _ _ 33 #[.val (.ref x), .val (.ref y), .val (.int (Int32.ofNat 15))] []
  refine go_aloadN (q := 34) d52_33 rfl rfl rfl ?_
  refine go_dup (q := 35) d52_34 rfl rfl ?_
  refine go_getfield (q := 38) d52_35 rfl (hw _ (List.mem_of_getElem? (i := 92) rfl)) Via.refl FG.2.2.2.1 ?_
  refine go_iloadN (q := 39) d52_38 rfl rfl ?_
  refine go_iadd (q := 40) d52_39 rfl ?_
  refine go_putfield (q := 43) (ty := .int) d52_40 rfl (hw _ (List.mem_of_getElem? (i := 92) rfl)) Via.refl FG.2.2.2.1 FG.1 (Or.inl (hw _ (List.mem_of_getElem? (i := 93) rfl))) (hw _ (List.mem_of_getElem? (i := 55) rfl)) (by decide +kernel) rfl rfl (by simp) fun h2 W2 => ?_
  refine go_aloadN (q := 44) d52_43 rfl rfl rfl ?_
  exact go_areturn (out := []) rfl rfl rfl rfl d52_44 ⟨rfl, rfl, ((Keep.refl h [x, a]).trans K1 (allS (Or.inl (by simp)) all0)).wr W2 (Or.inl (by simp)), FG.wCount B W2⟩ all0 (by decide) (by decide)
abbrev r_conBPB : Room := { frames := 4, cells := 0, slots := 0, locals := 83 }
set_option maxRecDepth 65536 in
set_option maxHeartbeats 4000000 in
theorem conBPB {l : Launch} {Z : State} {a0 : Array Value} {G1 : Int32} {G3 : Value} {h : Heap} {x a : Addr} {k : ClassId} {y t : Addr} {kb : ClassId} (B : Base Z a0 G1 G3) (E0 : Ext Z.heap h) (hm : ∀ z ∈ [x, a], Z.heap.size ≤ z ∧ z < h.size) (ny : y ≠ x) (nt : t ≠ x) (nta : t ≠ a) (FF : SBs Z h x a k (Int32.ofNat 0) (Int32.ofNat 1) 16) (WS : WStr Z h y t kb (Int32.ofNat 0) 15) : Con l false Z [] (⟨"java/lang/StringBuilder", "append", "(Ljava/lang/String;)Ljava/lang/StringBuilder;"⟩ : MethodName) jdk_67_method_7_code 2 (some (.object "java/lang/StringBuilder")) [] r_conBPB #[(.ref x), (.ref y)] h [x, a] (QAA Z h x a k (Int32.ofNat 0) (Int32.ofNat 1 + Int32.ofNat 15) 16) := by
  have hw := B.hw
  refine con_of_go pn7_StringBuilder (fun m => ef54 m x y) E0 EW.none ?_
  refine go_aloadN (q := 1) d53_0 rfl rfl rfl ?_
  refine go_aloadN (q := 2) d53_1 rfl rfl rfl ?_
  refine go_callU (q := 5) (y := (⟨"java/lang/AbstractStringBuilder", "append", "(Ljava/lang/String;)Ljava/lang/AbstractStringBuilder;"⟩ : MethodName)) (W := 0) (argsL := [(.ref y)]) (rest := []) (ws := [x, a]) (P := fun v h' L => ∃ out, (QAA Z h x a k (Int32.ofNat 0) (Int32.ofNat 1 + Int32.ofNat 15) 16 v h' out) ∧ Fr Z.heap.size L ∧ Ext Z.heap h' ∧ ∀ x ∈ out, Z.heap.size ≤ x ∧ x < h'.size) d53_2 rfl (hw _ (List.mem_of_getElem? (i := 77) rfl)) (same_of (hw _ (List.mem_of_getElem? (i := 78) rfl)) (hw _ (List.mem_of_getElem? (i := 97) rfl)) rfl (by decide)) (hw _ (List.mem_of_getElem? (i := 78) rfl)) (hw _ (List.mem_of_getElem? (i := 79) rfl)) (by decide) (hw _ (List.mem_of_getElem? (i := 81) rfl)) FF.1 (by decide) (con_pay (conAPB B E0 hm ny nt nta FF WS) hm (hw _ (List.mem_of_getElem? (i := 81) rfl)) (hw _ (List.mem_of_getElem? (i := 64) rfl)) (by decide) (by decide)) rfl rfl (lenOf pd33 rfl) (Nat.le_of_ble_eq_true rfl) (by decide) (by decide) (fun v h' L hP => ?_) (fun _ z => z) (fun v h1 L hP => ?_)
  · obtain ⟨out, hq, N, -⟩ := hP; exact ⟨N, hq.2.2.1⟩
  obtain ⟨out, hq, -, X, hO⟩ := hP
  obtain ⟨rfl, rfl, K1, FG⟩ := hq
  refine ⟨[], all0, ?_⟩
  show Go l false Z [] _ _ _ _ _ _ _ _ _ _ _ 5 #[.val (.ref x), .val (.ref y)] [(.ref x)]
  refine go_pop (q := 6) d53_5 rfl rfl ?_
  refine go_aloadN (q := 7) d53_6 rfl rfl rfl ?_
  exact go_areturn (out := []) rfl rfl rfl rfl d53_7 ⟨rfl, rfl, K1, FG⟩ all0 (by decide) (by decide)
abbrev r_conINC : Room := { frames := 6, cells := 1, slots := 32, locals := 89 }
set_option maxRecDepth 65536 in
set_option maxHeartbeats 4000000 in
theorem conINC {l : Launch} {Z : State} {a0 : Array Value} {G1 : Int32} {G3 : Value} {h : Heap} {x a : Addr} {k : ClassId} {y t : Addr} {kb : ClassId} (B : Base Z a0 G1 G3) (E0 : Ext Z.heap h) (hmx : ∀ z ∈ [x], Z.heap.size ≤ z ∧ z < h.size) (FF : SBs Z h x a k (Int32.ofNat 0) (Int32.ofNat 0) 16) (WS : WStr Z h y t kb (Int32.ofNat 1) 2) : Con l false Z [] (⟨"java/lang/AbstractStringBuilder", "inflateIfNeededFor", "(Ljava/lang/String;)V"⟩ : MethodName) jdk_68_method_71_code 2 none [] r_conINC #[(.ref x), (.ref y)] h [x] (QI0 Z h x) := by
  have hw := B.hw
  refine con_of_go pn6_AbstractStringBuilder (fun m => ef50 m x y) E0 EW.none ?_
  refine go_getstatic (q := 3) d49_0 rfl (hw _ (List.mem_of_getElem? (i := 67) rfl)) Via.refl B.O2 ?_
  refine go_if (q := 21) (q2 := 6) d49_3 (by decide) (by decide) rfl (fun hc => absurd hc (by simpa [ifCond.holds] using B.P5)) (fun _ => ?_)
  refine go_aloadN (q := 7) d49_6 rfl rfl rfl ?_
  refine go_getfield (q := 10) d49_7 rfl (hw _ (List.mem_of_getElem? (i := 70) rfl)) Via.refl FF.2.2.1 ?_
  refine go_aloadN (q := 11) d49_10 rfl rfl rfl ?_
  refine go_pV (q := 14) (y := (⟨"java/lang/String", "coder", "()B"⟩ : MethodName)) (W := 1) (argsL := []) (rest := [(.int (Int32.ofNat 0))]) (v := some (.int (Int32.ofNat 1))) d49_11 rfl (hw _ (List.mem_of_getElem? (i := 109) rfl)) (hw _ (List.mem_of_getElem? (i := 88) rfl)) (fun s hZ => nf_of (args := #[]) (mvT hZ (hw _ (List.mem_of_getElem? (i := 85) rfl))) rfl) (hw _ (List.mem_of_getElem? (i := 90) rfl)) (hw _ (List.mem_of_getElem? (i := 89) rfl)) WS.1 (hw _ (List.mem_of_getElem? (i := 91) rfl)) (hw _ (List.mem_of_getElem? (i := 8) rfl)) (by decide) (conCd B E0 rfl WS.2.2.1) rfl rfl (lenOf pd15 rfl) (Nat.le_of_ble_eq_true rfl) (by decide) (by decide) rfl rfl (by decide) (by decide) ?_
  show Go l false Z [] _ _ _ _ _ _ _ _ _ _ _ 14 #[.val (.ref x), .val (.ref y)] [(.int (Int32.ofNat 1)), (.int (Int32.ofNat 0))]
  refine go_icmp (q := 21) (q2 := 17) d49_14 (by decide) (by decide) rfl (fun hc => absurd hc (by decide)) (fun _ => ?_)
  refine go_aloadN (q := 18) d49_17 rfl rfl rfl ?_
  refine go_callP (q := 21) (y := (⟨"java/lang/AbstractStringBuilder", "inflate", "()V"⟩ : MethodName)) (W := 0) (argsL := []) (rest := []) (ws := [x]) (P := fun v h' L => ∃ out, (QI0 Z h x v h' out) ∧ Fr Z.heap.size L ∧ Ext Z.heap h' ∧ ∀ x ∈ out, Z.heap.size ≤ x ∧ x < h'.size) d49_18 rfl (hw _ (List.mem_of_getElem? (i := 229) rfl)) (hw _ (List.mem_of_getElem? (i := 230) rfl)) (self_of (hw _ (List.mem_of_getElem? (i := 230) rfl)) (hw _ (List.mem_of_getElem? (i := 232) rfl)) (hw _ (List.mem_of_getElem? (i := 231) rfl)) (by decide)) (hw _ (List.mem_of_getElem? (i := 231) rfl)) (hw _ (List.mem_of_getElem? (i := 233) rfl)) FF.1 (by decide) (con_pay (conI0 B E0 FF) hmx (hw _ (List.mem_of_getElem? (i := 233) rfl)) (hw _ (List.mem_of_getElem? (i := 64) rfl)) (by decide) (by decide)) rfl rfl (lenOf pd26 rfl) (Nat.le_of_ble_eq_true rfl) (by decide) (by decide) (fun v h' L hP => ?_) (fun _ z => z) (fun v h1 L hP => ?_)
  · obtain ⟨out, hq, N, -⟩ := hP; exact ⟨N, hq.2.1⟩
  obtain ⟨out, hq, -, X, hO⟩ := hP
  obtain ⟨rfl, K1, a2, k2, rfl, ha, hb, FG⟩ := hq
  refine ⟨[a2], allS ⟨ha, hb⟩ all0, ?_⟩
  show Go l false Z [] _ _ _ _ _ _ _ _ _ _ _ 21 #[.val (.ref x), .val (.ref y)] []
  exact go_return (out := [a2]) rfl d49_21 ⟨rfl, K1, a2, k2, rfl, ha, hb, FG⟩ (by simp) (by decide) (by decide)
abbrev r_conGBC : Room := { frames := 1, cells := 0, slots := 0, locals := 40 }
set_option maxRecDepth 65536 in
set_option maxHeartbeats 4000000 in
theorem conGBC {l : Launch} {Z : State} {a0 : Array Value} {G1 : Int32} {G3 : Value} {h : Heap} {a : Addr} {k : ClassId} {y t : Addr} {kb : ClassId} (B : Base Z a0 G1 G3) (E0 : Ext Z.heap h) (hma : ∀ z ∈ [a], Z.heap.size ≤ z ∧ z < h.size) (WS : WStr Z h y t kb (Int32.ofNat 1) 2) (Fa : Byt Z h a k 32) (nt : t ≠ a) : Con l false Z [] (⟨"java/lang/String", "getBytes", "([BIB)V"⟩ : MethodName) jdk_42_method_147_code 4 none [] r_conGBC #[(.ref y), (.ref a), (.int (Int32.ofNat 0)), (.int (Int32.ofNat 1))] h [a] (QGB Z h a k 32) := by
  have hw := B.hw
  refine con_of_go pn3_String (fun m => ef51 m y a (Int32.ofNat 0) (Int32.ofNat 1)) E0 EW.none ?_
  obtain ⟨us, eu, Fu⟩ := WS.2.2.2
  obtain ⟨vs, ev, Fv⟩ := id Fa
  refine go_aloadN (q := 1) d50_0 rfl rfl rfl ?_
  refine go_pV (q := 4) (y := (⟨"java/lang/String", "coder", "()B"⟩ : MethodName)) (W := 0) (argsL := []) (rest := []) (v := some (.int (Int32.ofNat 1))) d50_1 rfl (hw _ (List.mem_of_getElem? (i := 87) rfl)) (hw _ (List.mem_of_getElem? (i := 88) rfl)) (fun s hZ => nf_of (args := #[]) (mvT hZ (hw _ (List.mem_of_getElem? (i := 85) rfl))) rfl) (hw _ (List.mem_of_getElem? (i := 90) rfl)) (hw _ (List.mem_of_getElem? (i := 89) rfl)) WS.1 (hw _ (List.mem_of_getElem? (i := 91) rfl)) (hw _ (List.mem_of_getElem? (i := 8) rfl)) (by decide) (conCd B E0 rfl WS.2.2.1) rfl rfl (lenOf pd15 rfl) (Nat.le_of_ble_eq_true rfl) (by decide) (by decide) rfl rfl (by decide) (by decide) ?_
  show Go l false Z [] _ _ _ _ _ _ _ _ _ _ _ 4 #[.val (.ref y), .val (.ref a), .val (.int (Int32.ofNat 0)), .val (.int (Int32.ofNat 1))] [(.int (Int32.ofNat 1))]
  refine go_iloadN (q := 5) d50_4 rfl rfl ?_
  refine go_icmp (q := 28) (q2 := 8) d50_5 (by decide) (by decide) rfl (fun hc => absurd hc (by decide)) (fun _ => ?_)
  refine go_aloadN (q := 9) d50_8 rfl rfl rfl ?_
  refine go_getfield (q := 12) d50_9 rfl (hw _ (List.mem_of_getElem? (i := 34) rfl)) Via.refl WS.2.1 ?_
  refine go_iconst (q := 13) (z := (Int32.ofNat 0)) d50_12 rfl rfl ?_
  refine go_aloadN (q := 14) d50_13 rfl rfl rfl ?_
  refine go_iloadN (q := 15) d50_14 rfl rfl ?_
  refine go_iloadN (q := 16) d50_15 rfl rfl ?_
  refine go_ishl (q := 17) d50_16 rfl ?_
  refine go_aloadN (q := 18) d50_17 rfl rfl rfl ?_
  refine go_getfield (q := 21) d50_18 rfl (hw _ (List.mem_of_getElem? (i := 34) rfl)) Via.refl WS.2.1 ?_
  refine go_arraylength (q := 22) d50_21 rfl Fu ?_
  refine go_copyB (q := 25) (W := 0) (o := 0) (n := 2) (qq := 0) d50_22 rfl (hw _ (List.mem_of_getElem? (i := 115) rfl)) (hw _ (List.mem_of_getElem? (i := 118) rfl)) (hw _ (List.mem_of_getElem? (i := 116) rfl)) (hw _ (List.mem_of_getElem? (i := 117) rfl)) Fu Fv rfl (by decide) rfl (by decide) (by decide) rfl (by decide) (Nat.le_of_ble_eq_true rfl) (by decide) (List.mem_cons_self ..) fun h1 K1 F1 => ?_
  refine go_goto (q := 43) d50_25 (by decide) (by decide) ?_
  exact go_return (out := []) rfl d50_43 ⟨rfl, rfl, K1, F1⟩ all0 (by decide) (by decide)
abbrev r_conPSC : Room := { frames := 7, cells := 1, slots := 32, locals := 102 }
set_option maxRecDepth 65536 in
set_option maxHeartbeats 4000000 in
theorem conPSC {l : Launch} {Z : State} {a0 : Array Value} {G1 : Int32} {G3 : Value} {h : Heap} {x a : Addr} {k : ClassId} {y t : Addr} {kb : ClassId} (B : Base Z a0 G1 G3) (E0 : Ext Z.heap h) (hm : ∀ z ∈ [x], Z.heap.size ≤ z ∧ z < h.size) (ny : y ≠ x) (nt : t ≠ x) (FF : SBs Z h x a k (Int32.ofNat 0) (Int32.ofNat 0) 16) (WS : WStr Z h y t kb (Int32.ofNat 1) 2) : Con l false Z [] (⟨"java/lang/AbstractStringBuilder", "putStringAt", "(ILjava/lang/String;)V"⟩ : MethodName) jdk_68_method_73_code 3 none [] r_conPSC #[(.ref x), (.int (Int32.ofNat 0)), (.ref y)] h [x] (QPB Z h x (Int32.ofNat 0)) := by
  have hw := B.hw
  refine con_of_go pn6_AbstractStringBuilder (fun m => ef52 m x (Int32.ofNat 0) y) E0 EW.none ?_
  refine go_aloadN (q := 1) d51_0 rfl rfl rfl ?_
  refine go_aloadN (q := 2) d51_1 rfl rfl rfl ?_
  refine go_callP (q := 5) (y := (⟨"java/lang/AbstractStringBuilder", "inflateIfNeededFor", "(Ljava/lang/String;)V"⟩ : MethodName)) (W := 0) (argsL := [(.ref y)]) (rest := []) (ws := [x]) (P := fun v h' L => ∃ out, (QI0 Z h x v h' out) ∧ Fr Z.heap.size L ∧ Ext Z.heap h' ∧ ∀ x ∈ out, Z.heap.size ≤ x ∧ x < h'.size) d51_2 rfl (hw _ (List.mem_of_getElem? (i := 104) rfl)) (hw _ (List.mem_of_getElem? (i := 105) rfl)) (self_of (hw _ (List.mem_of_getElem? (i := 105) rfl)) (hw _ (List.mem_of_getElem? (i := 107) rfl)) (hw _ (List.mem_of_getElem? (i := 106) rfl)) (by decide)) (hw _ (List.mem_of_getElem? (i := 106) rfl)) (hw _ (List.mem_of_getElem? (i := 108) rfl)) FF.1 (by decide) (con_pay (conINC B E0 hm FF WS) hm (hw _ (List.mem_of_getElem? (i := 108) rfl)) (hw _ (List.mem_of_getElem? (i := 64) rfl)) (by decide) (by decide)) rfl rfl (lenOf pd30 rfl) (Nat.le_of_ble_eq_true rfl) (by decide) (by decide) (fun v h' L hP => ?_) (fun _ z => z) (fun v h1 L hP => ?_)
  · obtain ⟨out, hq, N, -⟩ := hP; exact ⟨N, hq.2.1⟩
  obtain ⟨out, hq, -, X, hO⟩ := hP
  obtain ⟨rfl, K1, a2, k2, rfl, ha, hb, FG⟩ := hq
  refine ⟨[a2], allS ⟨ha, hb⟩ all0, ?_⟩
  show Go l false Z [] _ _ _ _ _ _ _ _ _ _ _ 5 #[.val (.ref x), .val (.int (Int32.ofNat 0)), .val (.ref y)] []
  refine go_aloadN (q := 6) d51_5 rfl rfl rfl ?_
  refine go_aloadN (q := 7) d51_6 rfl rfl rfl ?_
  refine go_getfield (q := 10) d51_7 rfl (hw _ (List.mem_of_getElem? (i := 68) rfl)) Via.refl FG.2.1 ?_
  refine go_iloadN (q := 11) d51_10 rfl rfl ?_
  refine go_aloadN (q := 12) d51_11 rfl rfl rfl ?_
  refine go_getfield (q := 15) d51_12 rfl (hw _ (List.mem_of_getElem? (i := 70) rfl)) Via.refl FG.2.2.1 ?_
  have W1 := WS.keep K1 (ninS ny nin0) (ninS nt nin0)
  have nt2 : t ≠ a2 := Nat.ne_of_lt (Nat.lt_of_lt_of_le WS.2.2.2.lt ha)
  refine go_mine fun hM => ?_
  refine go_callV (q := 18) (y := (⟨"java/lang/String", "getBytes", "([BIB)V"⟩ : MethodName)) (W := 0) (argsL := [(.ref a2), (.int (Int32.ofNat 0)), (.int (Int32.ofNat 1))]) (rest := []) (ws := [a2]) (P := fun v h' L => ∃ out, (QGB Z h1 a2 k2 32 v h' out) ∧ Fr Z.heap.size L ∧ Ext Z.heap h' ∧ ∀ x ∈ out, Z.heap.size ≤ x ∧ x < h'.size) d51_15 rfl (hw _ (List.mem_of_getElem? (i := 110) rfl)) (hw _ (List.mem_of_getElem? (i := 111) rfl)) (fun s hZ => nf_of (args := #[]) (mvT hZ (hw _ (List.mem_of_getElem? (i := 85) rfl))) rfl) (hw _ (List.mem_of_getElem? (i := 113) rfl)) (hw _ (List.mem_of_getElem? (i := 112) rfl)) W1.1 (by decide) (con_pay (conGBC B X (fun z hz => hM z (by simp only [List.mem_cons, List.not_mem_nil, or_false] at hz; first | (subst hz; simp; done) | (rcases hz with rfl | rfl <;> simp))) W1 FG.2.2.2.2.2.1 nt2) (fun z hz => hM z (by simp only [List.mem_cons, List.not_mem_nil, or_false] at hz; first | (subst hz; simp; done) | (rcases hz with rfl | rfl <;> simp))) (hw _ (List.mem_of_getElem? (i := 114) rfl)) (hw _ (List.mem_of_getElem? (i := 8) rfl)) (by decide) (by decide)) rfl rfl (lenOf pd31 rfl) (Nat.le_of_ble_eq_true rfl) (by decide) (by decide) (fun v h' L hP => ?_) (allS (by simp) all0) (fun v h2 L hP => ?_)
  · obtain ⟨out, hq, N, -⟩ := hP; exact ⟨N, hq.2.2.1⟩
  obtain ⟨out, hq, -, X, hO⟩ := hP
  obtain ⟨rfl, rfl, K2, F2⟩ := hq
  refine ⟨[], all0, ?_⟩
  show Go l false Z [] _ _ _ _ _ _ _ _ _ _ _ 18 #[.val (.ref x), .val (.int (Int32.ofNat 0)), .val (.ref y)] []
  have FH := FG.arr K2 F2
  exact go_return (out := [a2]) rfl d51_18 ⟨rfl, K1.trans K2 (allS (Or.inr ha) all0), a2, k2, rfl, ha, FH.2.2.2.2.2.1.lt, FH⟩ (by simp) (by decide) (by decide)
abbrev r_conAPC : Room := { frames := 8, cells := 1, slots := 32, locals := 116 }
set_option maxRecDepth 65536 in
set_option maxHeartbeats 4000000 in
theorem conAPC {l : Launch} {Z : State} {a0 : Array Value} {G1 : Int32} {G3 : Value} {h : Heap} {x a : Addr} {k : ClassId} {y t : Addr} {kb : ClassId} (B : Base Z a0 G1 G3) (E0 : Ext Z.heap h) (hm : ∀ z ∈ [x, a], Z.heap.size ≤ z ∧ z < h.size) (ny : y ≠ x) (nt : t ≠ x) (nta : t ≠ a) (FF : SBs Z h x a k (Int32.ofNat 0) (Int32.ofNat 0) 16) (WS : WStr Z h y t kb (Int32.ofNat 1) 2) : Con l false Z [] (⟨"java/lang/AbstractStringBuilder", "append", "(Ljava/lang/String;)Ljava/lang/AbstractStringBuilder;"⟩ : MethodName) jdk_68_method_22_code 3 (some (.object "java/lang/AbstractStringBuilder")) [] r_conAPC #[(.ref x), (.ref y)] h [x, a] (QAB Z h x (Int32.ofNat 0 + Int32.ofNat 1)) := by
  have hw := B.hw
  refine con_of_go pn6_AbstractStringBuilder (fun m => ef53 m x y) E0 EW.none ?_
  obtain ⟨us, eu, Fu⟩ := WS.2.2.2
  refine go_aloadN (q := 1) d52_0 rfl rfl rfl ?_
  refine go_ifnonnullY (q := 9) d52_1 (by decide) (by decide) ?_
  refine go_aloadN (q := 10) d52_9 rfl rfl rfl ?_
  refine go_pV (q := 13) (y := (⟨"java/lang/String", "length", "()I"⟩ : MethodName)) (W := 0) (argsL := []) (rest := []) (v := some (.int (Int32.ofNat 1))) d52_10 rfl (hw _ (List.mem_of_getElem? (i := 82) rfl)) (hw _ (List.mem_of_getElem? (i := 83) rfl)) (fun s hZ => nf_of (args := #[]) (mvT hZ (hw _ (List.mem_of_getElem? (i := 85) rfl))) rfl) (hw _ (List.mem_of_getElem? (i := 85) rfl)) (hw _ (List.mem_of_getElem? (i := 84) rfl)) WS.1 (hw _ (List.mem_of_getElem? (i := 86) rfl)) (hw _ (List.mem_of_getElem? (i := 8) rfl)) (by decide) (conLn B E0 rfl WS.1 WS.2.1 WS.2.2.1 Fu (r := Int32.ofNat 1) (by decide)) rfl rfl (lenOf pd16 rfl) (Nat.le_of_ble_eq_true rfl) (by decide) (by decide) rfl rfl (by decide) (by decide) ?_
  show Go l false Z [] _ _ _ _ _ _ _ _ _ _ _ 13 #[.val (.ref x), .val (.ref y), .unset] [(.int (Int32.ofNat 1))]
  refine go_istoreN (q := 14) (l' := #[.val (.ref x), .val (.ref y), .val (.int (Int32.ofNat 1))]) d52_13 rfl rfl ?_
  refine go_aloadN (q := 15) d52_14 rfl rfl rfl ?_
  refine go_aloadN (q := 16) d52_15 rfl rfl rfl ?_
  refine go_getfield (q := 19) d52_16 rfl (hw _ (List.mem_of_getElem? (i := 92) rfl)) Via.refl FF.2.2.2.1 ?_
  refine go_iloadN (q := 20) d52_19 rfl rfl ?_
  refine go_iadd (q := 21) d52_20 rfl ?_
  refine go_pP (q := 24) (y := (⟨"java/lang/AbstractStringBuilder", "ensureCapacityInternal", "(I)V"⟩ : MethodName)) (W := 0) (argsL := [(.int ((Int32.ofNat 0) + (Int32.ofNat 1)))]) (rest := []) (v := none) d52_21 rfl (hw _ (List.mem_of_getElem? (i := 94) rfl)) (hw _ (List.mem_of_getElem? (i := 95) rfl)) (self_of (hw _ (List.mem_of_getElem? (i := 95) rfl)) (hw _ (List.mem_of_getElem? (i := 97) rfl)) (hw _ (List.mem_of_getElem? (i := 96) rfl)) (by decide)) (hw _ (List.mem_of_getElem? (i := 96) rfl)) (hw _ (List.mem_of_getElem? (i := 98) rfl)) FF.1 (hw _ (List.mem_of_getElem? (i := 64) rfl)) (by decide) (conEC B E0 FF (by decide)) rfl rfl (lenOf pd25 rfl) (Nat.le_of_ble_eq_true rfl) (by decide) (by decide) rfl rfl (by decide) (by decide) ?_
  show Go l false Z [] _ _ _ _ _ _ _ _ _ _ _ 24 #[.val (.ref x), .val (.ref y), .val (.int (Int32.ofNat 1))] []
  refine go_aloadN (q := 25) d52_24 rfl rfl rfl ?_
  refine go_aloadN (q := 26) d52_25 rfl rfl rfl ?_
  refine go_getfield (q := 29) d52_26 rfl (hw _ (List.mem_of_getElem? (i := 92) rfl)) Via.refl FF.2.2.2.1 ?_
  refine go_aloadN (q := 30) d52_29 rfl rfl rfl ?_
  refine go_callP (q := 33) (y := (⟨"java/lang/AbstractStringBuilder", "putStringAt", "(ILjava/lang/String;)V"⟩ : MethodName)) (W := 0) (argsL := [(.int (Int32.ofNat 0)), (.ref y)]) (rest := []) (ws := [x]) (P := fun v h' L => ∃ out, (QPB Z h x (Int32.ofNat 0) v h' out) ∧ Fr Z.heap.size L ∧ Ext Z.heap h' ∧ ∀ x ∈ out, Z.heap.size ≤ x ∧ x < h'.size) d52_30 rfl (hw _ (List.mem_of_getElem? (i := 99) rfl)) (hw _ (List.mem_of_getElem? (i := 100) rfl)) (self_of (hw _ (List.mem_of_getElem? (i := 100) rfl)) (hw _ (List.mem_of_getElem? (i := 102) rfl)) (hw _ (List.mem_of_getElem? (i := 101) rfl)) (by decide)) (hw _ (List.mem_of_getElem? (i := 101) rfl)) (hw _ (List.mem_of_getElem? (i := 103) rfl)) FF.1 (by decide) (con_pay (conPSC B E0 (fun z hz => hm z (by simp only [List.mem_cons, List.not_mem_nil, or_false] at hz; first | (subst hz; simp; done) | (rcases hz with rfl | rfl <;> simp))) ny nt FF WS) (fun z hz => hm z (by simp only [List.mem_cons, List.not_mem_nil, or_false] at hz; first | (subst hz; simp; done) | (rcases hz with rfl | rfl <;> simp))) (hw _ (List.mem_of_getElem? (i := 103) rfl)) (hw _ (List.mem_of_getElem? (i := 64) rfl)) (by decide) (by decide)) rfl rfl (lenOf pd32 rfl) (Nat.le_of_ble_eq_true rfl) (by decide) (by decide) (fun v h' L hP => ?_) (allS (by simp) all0) (fun v h1 L hP => ?_)
  · obtain ⟨out, hq, N, -⟩ := hP; exact ⟨N, hq.2.1⟩
  obtain ⟨out, hq, -, X, hO⟩ := hP
  obtain ⟨rfl, K1, a2, k2, rfl, ha, hb, FG⟩ := hq
  refine ⟨[a2], allS ⟨ha, hb⟩ all0, ?_⟩
  show Go l false Z [] _ _ _ _ _ _ _ _ _ _ _ 33 #[.val (.ref x), .val (.ref y), .val (.int (Int32.ofNat 1))] []
  refine go_aloadN (q := 34) d52_33 rfl rfl rfl ?_
  refine go_dup (q := 35) d52_34 rfl rfl ?_
  refine go_getfield (q := 38) d52_35 rfl (hw _ (List.mem_of_getElem? (i := 92) rfl)) Via.refl FG.2.2.2.1 ?_
  refine go_iloadN (q := 39) d52_38 rfl rfl ?_
  refine go_iadd (q := 40) d52_39 rfl ?_
  refine go_putfield (q := 43) (ty := .int) d52_40 rfl (hw _ (List.mem_of_getElem? (i := 92) rfl)) Via.refl FG.2.2.2.1 FG.1 (Or.inl (hw _ (List.mem_of_getElem? (i := 93) rfl))) (hw _ (List.mem_of_getElem? (i := 55) rfl)) (by decide +kernel) rfl rfl (by simp) fun h2 W2 => ?_
  refine go_aloadN (q := 44) d52_43 rfl rfl rfl ?_
  have FH := FG.wCount B W2
  exact go_areturn (out := [a2]) rfl rfl rfl rfl d52_44 ⟨rfl, K1.wr W2 (Or.inl (by simp)), a2, k2, rfl, ha, FH.2.2.2.2.2.1.lt, FH⟩ (by simp) (by decide) (by decide)
abbrev r_conBPC : Room := { frames := 9, cells := 1, slots := 32, locals := 130 }
set_option maxRecDepth 65536 in
set_option maxHeartbeats 4000000 in
theorem conBPC {l : Launch} {Z : State} {a0 : Array Value} {G1 : Int32} {G3 : Value} {h : Heap} {x a : Addr} {k : ClassId} {y t : Addr} {kb : ClassId} (B : Base Z a0 G1 G3) (E0 : Ext Z.heap h) (hm : ∀ z ∈ [x, a], Z.heap.size ≤ z ∧ z < h.size) (ny : y ≠ x) (nt : t ≠ x) (nta : t ≠ a) (FF : SBs Z h x a k (Int32.ofNat 0) (Int32.ofNat 0) 16) (WS : WStr Z h y t kb (Int32.ofNat 1) 2) : Con l false Z [] (⟨"java/lang/StringBuilder", "append", "(Ljava/lang/String;)Ljava/lang/StringBuilder;"⟩ : MethodName) jdk_67_method_7_code 2 (some (.object "java/lang/StringBuilder")) [] r_conBPC #[(.ref x), (.ref y)] h [x, a] (QAB Z h x (Int32.ofNat 0 + Int32.ofNat 1)) := by
  have hw := B.hw
  refine con_of_go pn7_StringBuilder (fun m => ef54 m x y) E0 EW.none ?_
  refine go_aloadN (q := 1) d53_0 rfl rfl rfl ?_
  refine go_aloadN (q := 2) d53_1 rfl rfl rfl ?_
  refine go_callU (q := 5) (y := (⟨"java/lang/AbstractStringBuilder", "append", "(Ljava/lang/String;)Ljava/lang/AbstractStringBuilder;"⟩ : MethodName)) (W := 0) (argsL := [(.ref y)]) (rest := []) (ws := [x]) (P := fun v h' L => ∃ out, (QAB Z h x (Int32.ofNat 0 + Int32.ofNat 1) v h' out) ∧ Fr Z.heap.size L ∧ Ext Z.heap h' ∧ ∀ x ∈ out, Z.heap.size ≤ x ∧ x < h'.size) d53_2 rfl (hw _ (List.mem_of_getElem? (i := 77) rfl)) (same_of (hw _ (List.mem_of_getElem? (i := 78) rfl)) (hw _ (List.mem_of_getElem? (i := 97) rfl)) rfl (by decide)) (hw _ (List.mem_of_getElem? (i := 78) rfl)) (hw _ (List.mem_of_getElem? (i := 79) rfl)) (by decide) (hw _ (List.mem_of_getElem? (i := 81) rfl)) FF.1 (by decide) (con_pay (conAPC B E0 hm ny nt nta FF WS) hm (hw _ (List.mem_of_getElem? (i := 81) rfl)) (hw _ (List.mem_of_getElem? (i := 64) rfl)) (by decide) (by decide)) rfl rfl (lenOf pd33 rfl) (Nat.le_of_ble_eq_true rfl) (by decide) (by decide) (fun v h' L hP => ?_) (allS (by simp) all0) (fun v h1 L hP => ?_)
  · obtain ⟨out, hq, N, -⟩ := hP; exact ⟨N, hq.2.1⟩
  obtain ⟨out, hq, -, X, hO⟩ := hP
  obtain ⟨rfl, K1, a2, k2, rfl, ha, hb, FG⟩ := hq
  refine ⟨[a2], allS ⟨ha, hb⟩ all0, ?_⟩
  show Go l false Z [] _ _ _ _ _ _ _ _ _ _ _ 5 #[.val (.ref x), .val (.ref y)] [(.ref x)]
  refine go_pop (q := 6) d53_5 rfl rfl ?_
  refine go_aloadN (q := 7) d53_6 rfl rfl rfl ?_
  exact go_areturn (out := [a2]) rfl rfl rfl rfl d53_7 ⟨rfl, K1, a2, k2, rfl, ha, hb, FG⟩ (by simp) (by decide) (by decide)
abbrev r_conIND : Room := { frames := 2, cells := 0, slots := 0, locals := 25 }
set_option maxRecDepth 65536 in
set_option maxHeartbeats 4000000 in
theorem conIND {l : Launch} {Z : State} {a0 : Array Value} {G1 : Int32} {G3 : Value} {h : Heap} {x a : Addr} {k : ClassId} {y t : Addr} {kb : ClassId} (B : Base Z a0 G1 G3) (E0 : Ext Z.heap h) (FF : SBs Z h x a k (Int32.ofNat 1) (Int32.ofNat 1) 32) (WS : WStr Z h y t kb (Int32.ofNat 0) 15) : Con l false Z [] (⟨"java/lang/AbstractStringBuilder", "inflateIfNeededFor", "(Ljava/lang/String;)V"⟩ : MethodName) jdk_68_method_71_code 2 none [] r_conIND #[(.ref x), (.ref y)] h [] (PQ none h) := by
  have hw := B.hw
  refine con_of_go pn6_AbstractStringBuilder (fun m => ef50 m x y) E0 EW.none ?_
  refine go_getstatic (q := 3) d49_0 rfl (hw _ (List.mem_of_getElem? (i := 67) rfl)) Via.refl B.O2 ?_
  refine go_if (q := 21) (q2 := 6) d49_3 (by decide) (by decide) rfl (fun hc => absurd hc (by simpa [ifCond.holds] using B.P5)) (fun _ => ?_)
  refine go_aloadN (q := 7) d49_6 rfl rfl rfl ?_
  refine go_getfield (q := 10) d49_7 rfl (hw _ (List.mem_of_getElem? (i := 70) rfl)) Via.refl FF.2.2.1 ?_
  refine go_aloadN (q := 11) d49_10 rfl rfl rfl ?_
  refine go_pV (q := 14) (y := (⟨"java/lang/String", "coder", "()B"⟩ : MethodName)) (W := 1) (argsL := []) (rest := [(.int (Int32.ofNat 1))]) (v := some (.int (Int32.ofNat 0))) d49_11 rfl (hw _ (List.mem_of_getElem? (i := 109) rfl)) (hw _ (List.mem_of_getElem? (i := 88) rfl)) (fun s hZ => nf_of (args := #[]) (mvT hZ (hw _ (List.mem_of_getElem? (i := 85) rfl))) rfl) (hw _ (List.mem_of_getElem? (i := 90) rfl)) (hw _ (List.mem_of_getElem? (i := 89) rfl)) WS.1 (hw _ (List.mem_of_getElem? (i := 91) rfl)) (hw _ (List.mem_of_getElem? (i := 8) rfl)) (by decide) (conCd B E0 rfl WS.2.2.1) rfl rfl (lenOf pd15 rfl) (Nat.le_of_ble_eq_true rfl) (by decide) (by decide) rfl rfl (by decide) (by decide) ?_
  show Go l false Z [] _ _ _ _ _ _ _ _ _ _ _ 14 #[.val (.ref x), .val (.ref y)] [(.int (Int32.ofNat 0)), (.int (Int32.ofNat 1))]
  refine go_icmp (q := 21) (q2 := 17) d49_14 (by decide) (by decide) rfl (fun hc => absurd hc (by decide)) (fun _ => ?_)
  refine go_aloadN (q := 18) d49_17 rfl rfl rfl ?_
  refine go_pP (q := 21) (y := (⟨"java/lang/AbstractStringBuilder", "inflate", "()V"⟩ : MethodName)) (W := 0) (argsL := []) (rest := []) (v := none) d49_18 rfl (hw _ (List.mem_of_getElem? (i := 229) rfl)) (hw _ (List.mem_of_getElem? (i := 230) rfl)) (self_of (hw _ (List.mem_of_getElem? (i := 230) rfl)) (hw _ (List.mem_of_getElem? (i := 232) rfl)) (hw _ (List.mem_of_getElem? (i := 231) rfl)) (by decide)) (hw _ (List.mem_of_getElem? (i := 231) rfl)) (hw _ (List.mem_of_getElem? (i := 233) rfl)) FF.1 (hw _ (List.mem_of_getElem? (i := 64) rfl)) (by decide) (conI1 B E0 FF) rfl rfl (lenOf pd26 rfl) (Nat.le_of_ble_eq_true rfl) (by decide) (by decide) rfl rfl (by decide) (by decide) ?_
  show Go l false Z [] _ _ _ _ _ _ _ _ _ _ _ 21 #[.val (.ref x), .val (.ref y)] []
  exact go_return (out := []) rfl d49_21 ⟨rfl, rfl, rfl⟩ all0 (by decide) (by decide)
abbrev r_conGBD : Room := { frames := 5, cells := 0, slots := 0, locals := 76 }
set_option maxRecDepth 65536 in
set_option maxHeartbeats 4000000 in
theorem conGBD {l : Launch} {Z : State} {a0 : Array Value} {G1 : Int32} {G3 : Value} {h : Heap} {a : Addr} {k : ClassId} {y t : Addr} {kb : ClassId} (B : Base Z a0 G1 G3) (E0 : Ext Z.heap h) (hma : ∀ z ∈ [a], Z.heap.size ≤ z ∧ z < h.size) (WS : WStr Z h y t kb (Int32.ofNat 0) 15) (Fa : Byt Z h a k 32) (nt : t ≠ a) : Con l false Z [] (⟨"java/lang/String", "getBytes", "([BIB)V"⟩ : MethodName) jdk_42_method_147_code 4 none [] r_conGBD #[(.ref y), (.ref a), (.int (Int32.ofNat 1)), (.int (Int32.ofNat 1))] h [a] (QGB Z h a k 32) := by
  have hw := B.hw
  refine con_of_go pn3_String (fun m => ef51 m y a (Int32.ofNat 1) (Int32.ofNat 1)) E0 EW.none ?_
  obtain ⟨us, eu, Fu⟩ := WS.2.2.2
  obtain ⟨vs, ev, Fv⟩ := id Fa
  refine go_aloadN (q := 1) d50_0 rfl rfl rfl ?_
  refine go_pV (q := 4) (y := (⟨"java/lang/String", "coder", "()B"⟩ : MethodName)) (W := 0) (argsL := []) (rest := []) (v := some (.int (Int32.ofNat 0))) d50_1 rfl (hw _ (List.mem_of_getElem? (i := 87) rfl)) (hw _ (List.mem_of_getElem? (i := 88) rfl)) (fun s hZ => nf_of (args := #[]) (mvT hZ (hw _ (List.mem_of_getElem? (i := 85) rfl))) rfl) (hw _ (List.mem_of_getElem? (i := 90) rfl)) (hw _ (List.mem_of_getElem? (i := 89) rfl)) WS.1 (hw _ (List.mem_of_getElem? (i := 91) rfl)) (hw _ (List.mem_of_getElem? (i := 8) rfl)) (by decide) (conCd B E0 rfl WS.2.2.1) rfl rfl (lenOf pd15 rfl) (Nat.le_of_ble_eq_true rfl) (by decide) (by decide) rfl rfl (by decide) (by decide) ?_
  show Go l false Z [] _ _ _ _ _ _ _ _ _ _ _ 4 #[.val (.ref y), .val (.ref a), .val (.int (Int32.ofNat 1)), .val (.int (Int32.ofNat 1))] [(.int (Int32.ofNat 0))]
  refine go_iloadN (q := 5) d50_4 rfl rfl ?_
  refine go_icmp (q := 28) (q2 := 8) d50_5 (by decide) (by decide) rfl (fun _ => ?_) (fun hc => absurd hc (by decide))
  refine go_aloadN (q := 29) d50_28 rfl rfl rfl ?_
  refine go_getfield (q := 32) d50_29 rfl (hw _ (List.mem_of_getElem? (i := 34) rfl)) Via.refl WS.2.1 ?_
  refine go_iconst (q := 33) (z := (Int32.ofNat 0)) d50_32 rfl rfl ?_
  refine go_aloadN (q := 34) d50_33 rfl rfl rfl ?_
  refine go_iloadN (q := 35) d50_34 rfl rfl ?_
  refine go_aloadN (q := 36) d50_35 rfl rfl rfl ?_
  refine go_getfield (q := 39) d50_36 rfl (hw _ (List.mem_of_getElem? (i := 34) rfl)) Via.refl WS.2.1 ?_
  refine go_arraylength (q := 40) d50_39 rfl Fu ?_
  refine go_callS (q := 43) (y := (⟨"java/lang/StringLatin1", "inflate", "([BI[BII)V"⟩ : MethodName)) (W := 0) (argsL := [(.ref t), (.int (Int32.ofNat 0)), (.ref a), (.int (Int32.ofNat 1)), (.int (Int32.ofNat 15))]) (rest := []) (ws := [a]) (P := fun v h' L => ∃ out, (QIF Z h a k v h' out) ∧ Fr Z.heap.size L ∧ Ext Z.heap h' ∧ ∀ x ∈ out, Z.heap.size ≤ x ∧ x < h'.size) d50_40 rfl (hw _ (List.mem_of_getElem? (i := 256) rfl)) (hw _ (List.mem_of_getElem? (i := 237) rfl)) (hw _ (List.mem_of_getElem? (i := 41) rfl)) (hw _ (List.mem_of_getElem? (i := 238) rfl)) (by decide) (con_pay (conLF B E0 (off := 1) (len := 15) hma WS.2.2.2 (by decide) (by decide) (by decide) nt Fa (by decide) (by decide)) hma (hw _ (List.mem_of_getElem? (i := 238) rfl)) (hw _ (List.mem_of_getElem? (i := 41) rfl)) (by decide) (by decide)) rfl rfl (lenOf pd29 rfl) (Nat.le_of_ble_eq_true rfl) (by decide) (by decide) (fun v h' L hP => ?_) (fun _ z => z) (fun v h1 L hP => ?_)
  · obtain ⟨out, hq, N, -⟩ := hP; exact ⟨N, hq.2.2.1⟩
  obtain ⟨out, hq, -, X, hO⟩ := hP
  obtain ⟨rfl, rfl, K1, F1⟩ := hq
  refine ⟨[], all0, ?_⟩
  show Go l false Z [] _ _ _ _ _ _ _ _ _ _ _ 43 #[.val (.ref y), .val (.ref a), .val (.int (Int32.ofNat 1)), .val (.int (Int32.ofNat 1))] []
  exact go_return (out := []) rfl d50_43 ⟨rfl, rfl, K1, F1⟩ all0 (by decide) (by decide)
abbrev r_conPSD : Room := { frames := 6, cells := 0, slots := 0, locals := 91 }
set_option maxRecDepth 65536 in
set_option maxHeartbeats 4000000 in
theorem conPSD {l : Launch} {Z : State} {a0 : Array Value} {G1 : Int32} {G3 : Value} {h : Heap} {x a : Addr} {k : ClassId} {y t : Addr} {kb : ClassId} (B : Base Z a0 G1 G3) (E0 : Ext Z.heap h) (hm : ∀ z ∈ [a], Z.heap.size ≤ z ∧ z < h.size) (nt : t ≠ a) (FF : SBs Z h x a k (Int32.ofNat 1) (Int32.ofNat 1) 32) (WS : WStr Z h y t kb (Int32.ofNat 0) 15) : Con l false Z [] (⟨"java/lang/AbstractStringBuilder", "putStringAt", "(ILjava/lang/String;)V"⟩ : MethodName) jdk_68_method_73_code 3 none [] r_conPSD #[(.ref x), (.int (Int32.ofNat 1)), (.ref y)] h [a] (QPA Z h x a k (Int32.ofNat 1) (Int32.ofNat 1) 32) := by
  have hw := B.hw
  refine con_of_go pn6_AbstractStringBuilder (fun m => ef52 m x (Int32.ofNat 1) y) E0 EW.none ?_
  refine go_aloadN (q := 1) d51_0 rfl rfl rfl ?_
  refine go_aloadN (q := 2) d51_1 rfl rfl rfl ?_
  refine go_pP (q := 5) (y := (⟨"java/lang/AbstractStringBuilder", "inflateIfNeededFor", "(Ljava/lang/String;)V"⟩ : MethodName)) (W := 0) (argsL := [(.ref y)]) (rest := []) (v := none) d51_2 rfl (hw _ (List.mem_of_getElem? (i := 104) rfl)) (hw _ (List.mem_of_getElem? (i := 105) rfl)) (self_of (hw _ (List.mem_of_getElem? (i := 105) rfl)) (hw _ (List.mem_of_getElem? (i := 107) rfl)) (hw _ (List.mem_of_getElem? (i := 106) rfl)) (by decide)) (hw _ (List.mem_of_getElem? (i := 106) rfl)) (hw _ (List.mem_of_getElem? (i := 108) rfl)) FF.1 (hw _ (List.mem_of_getElem? (i := 64) rfl)) (by decide) (conIND B E0 FF WS) rfl rfl (lenOf pd30 rfl) (Nat.le_of_ble_eq_true rfl) (by decide) (by decide) rfl rfl (by decide) (by decide) ?_
  show Go l false Z [] _ _ _ _ _ _ _ _ _ _ _ 5 #[.val (.ref x), .val (.int (Int32.ofNat 1)), .val (.ref y)] []
  refine go_aloadN (q := 6) d51_5 rfl rfl rfl ?_
  refine go_aloadN (q := 7) d51_6 rfl rfl rfl ?_
  refine go_getfield (q := 10) d51_7 rfl (hw _ (List.mem_of_getElem? (i := 68) rfl)) Via.refl FF.2.1 ?_
  refine go_iloadN (q := 11) d51_10 rfl rfl ?_
  refine go_aloadN (q := 12) d51_11 rfl rfl rfl ?_
  refine go_getfield (q := 15) d51_12 rfl (hw _ (List.mem_of_getElem? (i := 70) rfl)) Via.refl FF.2.2.1 ?_
  refine go_callV (q := 18) (y := (⟨"java/lang/String", "getBytes", "([BIB)V"⟩ : MethodName)) (W := 0) (argsL := [(.ref a), (.int (Int32.ofNat 1)), (.int (Int32.ofNat 1))]) (rest := []) (ws := [a]) (P := fun v h' L => ∃ out, (QGB Z h a k 32 v h' out) ∧ Fr Z.heap.size L ∧ Ext Z.heap h' ∧ ∀ x ∈ out, Z.heap.size ≤ x ∧ x < h'.size) d51_15 rfl (hw _ (List.mem_of_getElem? (i := 110) rfl)) (hw _ (List.mem_of_getElem? (i := 111) rfl)) (fun s hZ => nf_of (args := #[]) (mvT hZ (hw _ (List.mem_of_getElem? (i := 85) rfl))) rfl) (hw _ (List.mem_of_getElem? (i := 113) rfl)) (hw _ (List.mem_of_getElem? (i := 112) rfl)) WS.1 (by decide) (con_pay (conGBD B E0 hm WS FF.2.2.2.2.2.1 nt) hm (hw _ (List.mem_of_getElem? (i := 114) rfl)) (hw _ (List.mem_of_getElem? (i := 8) rfl)) (by decide) (by decide)) rfl rfl (lenOf pd31 rfl) (Nat.le_of_ble_eq_true rfl) (by decide) (by decide) (fun v h' L hP => ?_) (fun _ z => z) (fun v h1 L hP => ?_)
  · obtain ⟨out, hq, N, -⟩ := hP; exact ⟨N, hq.2.2.1⟩
  obtain ⟨out, hq, -, X, hO⟩ := hP
  obtain ⟨rfl, rfl, K1, F1⟩ := hq
  refine ⟨[], all0, ?_⟩
  show Go l false Z [] _ _ _ _ _ _ _ _ _ _ _ 18 #[.val (.ref x), .val (.int (Int32.ofNat 1)), .val (.ref y)] []
  exact go_return (out := []) rfl d51_18 ⟨rfl, rfl, K1, FF.arr K1 F1⟩ all0 (by decide) (by decide)
abbrev r_conAPD : Room := { frames := 7, cells := 0, slots := 0, locals := 105 }
set_option maxRecDepth 65536 in
set_option maxHeartbeats 4000000 in
theorem conAPD {l : Launch} {Z : State} {a0 : Array Value} {G1 : Int32} {G3 : Value} {h : Heap} {x a : Addr} {k : ClassId} {y t : Addr} {kb : ClassId} (B : Base Z a0 G1 G3) (E0 : Ext Z.heap h) (hm : ∀ z ∈ [x, a], Z.heap.size ≤ z ∧ z < h.size) (ny : y ≠ x) (nt : t ≠ x) (nta : t ≠ a) (FF : SBs Z h x a k (Int32.ofNat 1) (Int32.ofNat 1) 32) (WS : WStr Z h y t kb (Int32.ofNat 0) 15) : Con l false Z [] (⟨"java/lang/AbstractStringBuilder", "append", "(Ljava/lang/String;)Ljava/lang/AbstractStringBuilder;"⟩ : MethodName) jdk_68_method_22_code 3 (some (.object "java/lang/AbstractStringBuilder")) [] r_conAPD #[(.ref x), (.ref y)] h [x, a] (QAA Z h x a k (Int32.ofNat 1) (Int32.ofNat 1 + Int32.ofNat 15) 32) := by
  have hw := B.hw
  refine con_of_go pn6_AbstractStringBuilder (fun m => ef53 m x y) E0 EW.none ?_
  obtain ⟨us, eu, Fu⟩ := WS.2.2.2
  refine go_aloadN (q := 1) d52_0 rfl rfl rfl ?_
  refine go_ifnonnullY (q := 9) d52_1 (by decide) (by decide) ?_
  refine go_aloadN (q := 10) d52_9 rfl rfl rfl ?_
  refine go_pV (q := 13) (y := (⟨"java/lang/String", "length", "()I"⟩ : MethodName)) (W := 0) (argsL := []) (rest := []) (v := some (.int (Int32.ofNat 15))) d52_10 rfl (hw _ (List.mem_of_getElem? (i := 82) rfl)) (hw _ (List.mem_of_getElem? (i := 83) rfl)) (fun s hZ => nf_of (args := #[]) (mvT hZ (hw _ (List.mem_of_getElem? (i := 85) rfl))) rfl) (hw _ (List.mem_of_getElem? (i := 85) rfl)) (hw _ (List.mem_of_getElem? (i := 84) rfl)) WS.1 (hw _ (List.mem_of_getElem? (i := 86) rfl)) (hw _ (List.mem_of_getElem? (i := 8) rfl)) (by decide) (conLn B E0 rfl WS.1 WS.2.1 WS.2.2.1 Fu (r := Int32.ofNat 15) (by decide)) rfl rfl (lenOf pd16 rfl) (Nat.le_of_ble_eq_true rfl) (by decide) (by decide) rfl rfl (by decide) (by decide) ?_
  show Go l false Z [] _ _ _ _ _ _ _ _ _ _ _ 13 #[.val (.ref x), .val (.ref y), .unset] [(.int (Int32.ofNat 15))]
  refine go_istoreN (q := 14) (l' := #[.val (.ref x), .val (.ref y), .val (.int (Int32.ofNat 15))]) d52_13 rfl rfl ?_
  refine go_aloadN (q := 15) d52_14 rfl rfl rfl ?_
  refine go_aloadN (q := 16) d52_15 rfl rfl rfl ?_
  refine go_getfield (q := 19) d52_16 rfl (hw _ (List.mem_of_getElem? (i := 92) rfl)) Via.refl FF.2.2.2.1 ?_
  refine go_iloadN (q := 20) d52_19 rfl rfl ?_
  refine go_iadd (q := 21) d52_20 rfl ?_
  refine go_pP (q := 24) (y := (⟨"java/lang/AbstractStringBuilder", "ensureCapacityInternal", "(I)V"⟩ : MethodName)) (W := 0) (argsL := [(.int ((Int32.ofNat 1) + (Int32.ofNat 15)))]) (rest := []) (v := none) d52_21 rfl (hw _ (List.mem_of_getElem? (i := 94) rfl)) (hw _ (List.mem_of_getElem? (i := 95) rfl)) (self_of (hw _ (List.mem_of_getElem? (i := 95) rfl)) (hw _ (List.mem_of_getElem? (i := 97) rfl)) (hw _ (List.mem_of_getElem? (i := 96) rfl)) (by decide)) (hw _ (List.mem_of_getElem? (i := 96) rfl)) (hw _ (List.mem_of_getElem? (i := 98) rfl)) FF.1 (hw _ (List.mem_of_getElem? (i := 64) rfl)) (by decide) (conEC B E0 FF (by decide)) rfl rfl (lenOf pd25 rfl) (Nat.le_of_ble_eq_true rfl) (by decide) (by decide) rfl rfl (by decide) (by decide) ?_
  show Go l false Z [] _ _ _ _ _ _ _ _ _ _ _ 24 #[.val (.ref x), .val (.ref y), .val (.int (Int32.ofNat 15))] []
  refine go_aloadN (q := 25) d52_24 rfl rfl rfl ?_
  refine go_aloadN (q := 26) d52_25 rfl rfl rfl ?_
  refine go_getfield (q := 29) d52_26 rfl (hw _ (List.mem_of_getElem? (i := 92) rfl)) Via.refl FF.2.2.2.1 ?_
  refine go_aloadN (q := 30) d52_29 rfl rfl rfl ?_
  refine go_callP (q := 33) (y := (⟨"java/lang/AbstractStringBuilder", "putStringAt", "(ILjava/lang/String;)V"⟩ : MethodName)) (W := 0) (argsL := [(.int (Int32.ofNat 1)), (.ref y)]) (rest := []) (ws := [a]) (P := fun v h' L => ∃ out, (QPA Z h x a k (Int32.ofNat 1) (Int32.ofNat 1) 32 v h' out) ∧ Fr Z.heap.size L ∧ Ext Z.heap h' ∧ ∀ x ∈ out, Z.heap.size ≤ x ∧ x < h'.size) d52_30 rfl (hw _ (List.mem_of_getElem? (i := 99) rfl)) (hw _ (List.mem_of_getElem? (i := 100) rfl)) (self_of (hw _ (List.mem_of_getElem? (i := 100) rfl)) (hw _ (List.mem_of_getElem? (i := 102) rfl)) (hw _ (List.mem_of_getElem? (i := 101) rfl)) (by decide)) (hw _ (List.mem_of_getElem? (i := 101) rfl)) (hw _ (List.mem_of_getElem? (i := 103) rfl)) FF.1 (by decide) (con_pay (conPSD B E0 (fun z hz => hm z (by simp only [List.mem_cons, List.not_mem_nil, or_false] at hz; first | (subst hz; simp; done) | (rcases hz with rfl | rfl <;> simp))) nta FF WS) (fun z hz => hm z (by simp only [List.mem_cons, List.not_mem_nil, or_false] at hz; first | (subst hz; simp; done) | (rcases hz with rfl | rfl <;> simp))) (hw _ (List.mem_of_getElem? (i := 103) rfl)) (hw _ (List.mem_of_getElem? (i := 64) rfl)) (by decide) (by decide)) rfl rfl (lenOf pd32 rfl) (Nat.le_of_ble_eq_true rfl) (by decide) (by decide) (fun v h' L hP => ?_) (allS (by simp) all0) (fun v h1 L hP => ?_)
  · obtain ⟨out, hq, N, -⟩ := hP; exact ⟨N, hq.2.2.1⟩
  obtain ⟨out, hq, -, X, hO⟩ := hP
  obtain ⟨rfl, rfl, K1, FG⟩ := hq
  refine ⟨[], all0, ?_⟩
  show Go l false Z [] _ _ _ _ _ _ _ _ _ _ _ 33 #[.val (.ref x), .val (.ref y), .val (.int (Int32.ofNat 15))] []
  refine go_aloadN (q := 34) d52_33 rfl rfl rfl ?_
  refine go_dup (q := 35) d52_34 rfl rfl ?_
  refine go_getfield (q := 38) d52_35 rfl (hw _ (List.mem_of_getElem? (i := 92) rfl)) Via.refl FG.2.2.2.1 ?_
  refine go_iloadN (q := 39) d52_38 rfl rfl ?_
  refine go_iadd (q := 40) d52_39 rfl ?_
  refine go_putfield (q := 43) (ty := .int) d52_40 rfl (hw _ (List.mem_of_getElem? (i := 92) rfl)) Via.refl FG.2.2.2.1 FG.1 (Or.inl (hw _ (List.mem_of_getElem? (i := 93) rfl))) (hw _ (List.mem_of_getElem? (i := 55) rfl)) (by decide +kernel) rfl rfl (by simp) fun h2 W2 => ?_
  refine go_aloadN (q := 44) d52_43 rfl rfl rfl ?_
  exact go_areturn (out := []) rfl rfl rfl rfl d52_44 ⟨rfl, rfl, ((Keep.refl h [x, a]).trans K1 (allS (Or.inl (by simp)) all0)).wr W2 (Or.inl (by simp)), FG.wCount B W2⟩ all0 (by decide) (by decide)
abbrev r_conBPD : Room := { frames := 8, cells := 0, slots := 0, locals := 119 }
set_option maxRecDepth 65536 in
set_option maxHeartbeats 4000000 in
theorem conBPD {l : Launch} {Z : State} {a0 : Array Value} {G1 : Int32} {G3 : Value} {h : Heap} {x a : Addr} {k : ClassId} {y t : Addr} {kb : ClassId} (B : Base Z a0 G1 G3) (E0 : Ext Z.heap h) (hm : ∀ z ∈ [x, a], Z.heap.size ≤ z ∧ z < h.size) (ny : y ≠ x) (nt : t ≠ x) (nta : t ≠ a) (FF : SBs Z h x a k (Int32.ofNat 1) (Int32.ofNat 1) 32) (WS : WStr Z h y t kb (Int32.ofNat 0) 15) : Con l false Z [] (⟨"java/lang/StringBuilder", "append", "(Ljava/lang/String;)Ljava/lang/StringBuilder;"⟩ : MethodName) jdk_67_method_7_code 2 (some (.object "java/lang/StringBuilder")) [] r_conBPD #[(.ref x), (.ref y)] h [x, a] (QAA Z h x a k (Int32.ofNat 1) (Int32.ofNat 1 + Int32.ofNat 15) 32) := by
  have hw := B.hw
  refine con_of_go pn7_StringBuilder (fun m => ef54 m x y) E0 EW.none ?_
  refine go_aloadN (q := 1) d53_0 rfl rfl rfl ?_
  refine go_aloadN (q := 2) d53_1 rfl rfl rfl ?_
  refine go_callU (q := 5) (y := (⟨"java/lang/AbstractStringBuilder", "append", "(Ljava/lang/String;)Ljava/lang/AbstractStringBuilder;"⟩ : MethodName)) (W := 0) (argsL := [(.ref y)]) (rest := []) (ws := [x, a]) (P := fun v h' L => ∃ out, (QAA Z h x a k (Int32.ofNat 1) (Int32.ofNat 1 + Int32.ofNat 15) 32 v h' out) ∧ Fr Z.heap.size L ∧ Ext Z.heap h' ∧ ∀ x ∈ out, Z.heap.size ≤ x ∧ x < h'.size) d53_2 rfl (hw _ (List.mem_of_getElem? (i := 77) rfl)) (same_of (hw _ (List.mem_of_getElem? (i := 78) rfl)) (hw _ (List.mem_of_getElem? (i := 97) rfl)) rfl (by decide)) (hw _ (List.mem_of_getElem? (i := 78) rfl)) (hw _ (List.mem_of_getElem? (i := 79) rfl)) (by decide) (hw _ (List.mem_of_getElem? (i := 81) rfl)) FF.1 (by decide) (con_pay (conAPD B E0 hm ny nt nta FF WS) hm (hw _ (List.mem_of_getElem? (i := 81) rfl)) (hw _ (List.mem_of_getElem? (i := 64) rfl)) (by decide) (by decide)) rfl rfl (lenOf pd33 rfl) (Nat.le_of_ble_eq_true rfl) (by decide) (by decide) (fun v h' L hP => ?_) (fun _ z => z) (fun v h1 L hP => ?_)
  · obtain ⟨out, hq, N, -⟩ := hP; exact ⟨N, hq.2.2.1⟩
  obtain ⟨out, hq, -, X, hO⟩ := hP
  obtain ⟨rfl, rfl, K1, FG⟩ := hq
  refine ⟨[], all0, ?_⟩
  show Go l false Z [] _ _ _ _ _ _ _ _ _ _ _ 5 #[.val (.ref x), .val (.ref y)] [(.ref x)]
  refine go_pop (q := 6) d53_5 rfl rfl ?_
  refine go_aloadN (q := 7) d53_6 rfl rfl rfl ?_
  exact go_areturn (out := []) rfl rfl rfl rfl d53_7 ⟨rfl, rfl, K1, FG⟩ all0 (by decide) (by decide)
def QCR (h : Heap) (v : Option Value) (h' : Heap) (out : List Addr) : Prop := out = [] ∧ Ext h h' ∧ ∃ b : Addr, v = some (.ref b)
def QSA (h : Heap) (s : Addr) (v : Option Value) (h' : Heap) (out : List Addr) : Prop := v = none ∧ out = [] ∧ Keep h h' [s]
theorem d54_0 : decode jdk_65_method_132_code 0 = .ok (.iload_n 1, 1) := by decide +kernel
theorem d54_1 : decode jdk_65_method_132_code 1 = .ok (.ifCond .ne 9, 3) := by decide +kernel
theorem d54_4 : decode jdk_65_method_132_code 4 = .ok (.iload_n 2, 1) := by decide +kernel
theorem d54_5 : decode jdk_65_method_132_code 5 = .ok (.aload_n 0, 1) := by decide +kernel
theorem d54_6 : decode jdk_65_method_132_code 6 = .ok (.arraylength, 1) := by decide +kernel
theorem d54_7 : decode jdk_65_method_132_code 7 = .ok (.if_icmp .eq 10, 3) := by decide +kernel
theorem d54_10 : decode jdk_65_method_132_code 10 = .ok (.aload_n 0, 1) := by decide +kernel
theorem d54_11 : decode jdk_65_method_132_code 11 = .ok (.iload_n 1, 1) := by decide +kernel
theorem d54_12 : decode jdk_65_method_132_code 12 = .ok (.iload_n 2, 1) := by decide +kernel
theorem d54_13 : decode jdk_65_method_132_code 13 = .ok (.invokestatic 339, 3) := by decide +kernel
theorem d54_16 : decode jdk_65_method_132_code 16 = .ok (.areturn, 1) := by decide +kernel
theorem d54_17 : decode jdk_65_method_132_code 17 = .ok (.aload_n 0, 1) := by decide +kernel
theorem d54_18 : decode jdk_65_method_132_code 18 = .ok (.invokevirtual 310, 3) := by decide +kernel
theorem d54_21 : decode jdk_65_method_132_code 21 = .ok (.checkcast 311, 3) := by decide +kernel
theorem d54_24 : decode jdk_65_method_132_code 24 = .ok (.areturn, 1) := by decide +kernel
theorem pn8_Arrays : plainName "java/util/Arrays" = true := by first | (simp [plainName, overriddenIn]; done) | decide +kernel
theorem pd35 : parseMethodDescriptor "([BII)[B" = some ⟨[(.array .byte), .int, .int], some (.array .byte)⟩ := by decide +kernel
theorem ef55 (m : MethodId) (a0 : Addr) (i1 : Int32) (i2 : Int32) : entryFrame m #[(.ref a0), (.int i1), (.int i2)] 3 = mkF m 0 #[.val (.ref a0), .val (.int i1), .val (.int i2)] [] := by first | (simp [entryFrame, mkF, argsToLocals, Value.category]; done) | rfl
abbrev r_conCR : Room := { frames := 1, cells := 1, slots := 32, locals := 14 }
set_option maxRecDepth 65536 in
set_option maxHeartbeats 4000000 in
theorem conCR {l : Launch} {Z : State} {a0 : Array Value} {G1 : Int32} {G3 : Value} {h : Heap} {a : Addr} {k : ClassId} {M : Nat} (B : Base Z a0 G1 G3) (E0 : Ext Z.heap h) (Fa : Byt Z h a k M) (G : Exa Z h a "[B") (hM : M ≤ 32) : Con l false Z [] (⟨"java/util/Arrays", "copyOfRange", "([BII)[B"⟩ : MethodName) jdk_65_method_132_code 3 (some (.array .byte)) [] r_conCR #[(.ref a), (.int (Int32.ofNat 0)), (.int (Int32.ofNat M))] h [] (QCR h) := by
  have hw := B.hw
  refine con_of_go pn8_Arrays (fun m => ef55 m a (Int32.ofNat 0) (Int32.ofNat M)) E0 EW.none ?_
  obtain ⟨vs, el, F⟩ := Fa
  refine go_iloadN (q := 1) d54_0 rfl rfl ?_
  refine go_if (q := 10) (q2 := 4) d54_1 (by decide) (by decide) rfl (fun hc => absurd hc (by decide)) (fun _ => ?_)
  refine go_iloadN (q := 5) d54_4 rfl rfl ?_
  refine go_aloadN (q := 6) d54_5 rfl rfl rfl ?_
  refine go_arraylength (q := 7) d54_6 rfl F ?_
  refine go_icmp (q := 17) (q2 := 10) d54_7 (by decide) (by decide) rfl (fun _ => ?_) (fun hc => absurd hc (by rw [ic_eq _ _ (by omega) (by omega), decide_eq_false_iff_not]; omega))
  refine go_aloadN (q := 18) d54_17 rfl rfl rfl ?_
  refine go_clone (q := 21) (cap := 32) (W := 0) d54_18 rfl (hw _ (List.mem_of_getElem? (i := 156) rfl)) (hw _ (List.mem_of_getElem? (i := 157) rfl)) (hw _ (List.mem_of_getElem? (i := 161) rfl)) (hw _ (List.mem_of_getElem? (i := 159) rfl)) (hw _ (List.mem_of_getElem? (i := 160) rfl)) (hw _ (List.mem_of_getElem? (i := 162) rfl)) F G rfl (by decide) (Nat.le_refl _) (by decide) (by rw [clampN (by omega)]; exact hM) (by decide) (by decide) fun h1 b eb E1 A1 B1 => ?_
  refine go_checkcast (q := 24) d54_21 rfl (hw _ (List.mem_of_getElem? (i := 163) rfl)) (Ins.self B1) ?_
  exact go_areturn (out := []) rfl rfl rfl rfl d54_24 ⟨rfl, E1, b, rfl⟩ all0 (by decide) (by decide)
theorem d55_0 : decode jdk_42_method_150_code 0 = .ok (.aload_n 0, 1) := by decide +kernel
theorem d55_1 : decode jdk_42_method_150_code 1 = .ok (.invokespecial 1, 3) := by decide +kernel
theorem d55_4 : decode jdk_42_method_150_code 4 = .ok (.aload_n 1, 1) := by decide +kernel
theorem d55_5 : decode jdk_42_method_150_code 5 = .ok (.invokevirtual 552, 3) := by decide +kernel
theorem d55_8 : decode jdk_42_method_150_code 8 = .ok (.astore_n 3, 1) := by decide +kernel
theorem d55_9 : decode jdk_42_method_150_code 9 = .ok (.aload_n 1, 1) := by decide +kernel
theorem d55_10 : decode jdk_42_method_150_code 10 = .ok (.invokevirtual 549, 3) := by decide +kernel
theorem d55_13 : decode jdk_42_method_150_code 13 = .ok (.istore 4, 2) := by decide +kernel
theorem d55_15 : decode jdk_42_method_150_code 15 = .ok (.aload_n 1, 1) := by decide +kernel
theorem d55_16 : decode jdk_42_method_150_code 16 = .ok (.invokevirtual 1047, 3) := by decide +kernel
theorem d55_19 : decode jdk_42_method_150_code 19 = .ok (.ifCond .eq 22, 3) := by decide +kernel
theorem d55_22 : decode jdk_42_method_150_code 22 = .ok (.aload_n 0, 1) := by decide +kernel
theorem d55_23 : decode jdk_42_method_150_code 23 = .ok (.iconst 0, 1) := by decide +kernel
theorem d55_24 : decode jdk_42_method_150_code 24 = .ok (.putfield 15, 3) := by decide +kernel
theorem d55_27 : decode jdk_42_method_150_code 27 = .ok (.aload_n 0, 1) := by decide +kernel
theorem d55_28 : decode jdk_42_method_150_code 28 = .ok (.aload_n 3, 1) := by decide +kernel
theorem d55_29 : decode jdk_42_method_150_code 29 = .ok (.iconst 0, 1) := by decide +kernel
theorem d55_30 : decode jdk_42_method_150_code 30 = .ok (.iload 4, 2) := by decide +kernel
theorem d55_32 : decode jdk_42_method_150_code 32 = .ok (.invokestatic 54, 3) := by decide +kernel
theorem d55_35 : decode jdk_42_method_150_code 35 = .ok (.putfield 9, 3) := by decide +kernel
theorem d55_38 : decode jdk_42_method_150_code 38 = .ok (.goto 59, 3) := by decide +kernel
theorem d55_41 : decode jdk_42_method_150_code 41 = .ok (.getstatic 38, 3) := by decide +kernel
theorem d55_44 : decode jdk_42_method_150_code 44 = .ok (.ifCond .eq 35, 3) := by decide +kernel
theorem d55_47 : decode jdk_42_method_150_code 47 = .ok (.aload_n 1, 1) := by decide +kernel
theorem d55_48 : decode jdk_42_method_150_code 48 = .ok (.getfield 1048, 3) := by decide +kernel
theorem d55_51 : decode jdk_42_method_150_code 51 = .ok (.ifCond .eq 28, 3) := by decide +kernel
theorem d55_54 : decode jdk_42_method_150_code 54 = .ok (.aload_n 0, 1) := by decide +kernel
theorem d55_55 : decode jdk_42_method_150_code 55 = .ok (.aload_n 3, 1) := by decide +kernel
theorem d55_56 : decode jdk_42_method_150_code 56 = .ok (.iconst 0, 1) := by decide +kernel
theorem d55_57 : decode jdk_42_method_150_code 57 = .ok (.iload 4, 2) := by decide +kernel
theorem d55_59 : decode jdk_42_method_150_code 59 = .ok (.invokestatic 1051, 3) := by decide +kernel
theorem d55_62 : decode jdk_42_method_150_code 62 = .ok (.putfield 9, 3) := by decide +kernel
theorem d55_65 : decode jdk_42_method_150_code 65 = .ok (.aload_n 0, 1) := by decide +kernel
theorem d55_66 : decode jdk_42_method_150_code 66 = .ok (.aload_n 0, 1) := by decide +kernel
theorem d55_67 : decode jdk_42_method_150_code 67 = .ok (.getfield 9, 3) := by decide +kernel
theorem d55_70 : decode jdk_42_method_150_code 70 = .ok (.iload 4, 2) := by decide +kernel
theorem d55_72 : decode jdk_42_method_150_code 72 = .ok (.invokestatic 47, 3) := by decide +kernel
theorem d55_75 : decode jdk_42_method_150_code 75 = .ok (.putfield 15, 3) := by decide +kernel
theorem d55_78 : decode jdk_42_method_150_code 78 = .ok (.return_, 1) := by decide +kernel
theorem d55_79 : decode jdk_42_method_150_code 79 = .ok (.aload_n 0, 1) := by decide +kernel
theorem d55_80 : decode jdk_42_method_150_code 80 = .ok (.iconst 1, 1) := by decide +kernel
theorem d55_81 : decode jdk_42_method_150_code 81 = .ok (.putfield 15, 3) := by decide +kernel
theorem d55_84 : decode jdk_42_method_150_code 84 = .ok (.aload_n 0, 1) := by decide +kernel
theorem d55_85 : decode jdk_42_method_150_code 85 = .ok (.aload_n 3, 1) := by decide +kernel
theorem d55_86 : decode jdk_42_method_150_code 86 = .ok (.iconst 0, 1) := by decide +kernel
theorem d55_87 : decode jdk_42_method_150_code 87 = .ok (.iload 4, 2) := by decide +kernel
theorem d55_89 : decode jdk_42_method_150_code 89 = .ok (.iconst 1, 1) := by decide +kernel
theorem d55_90 : decode jdk_42_method_150_code 90 = .ok (.ishl, 1) := by decide +kernel
theorem d55_91 : decode jdk_42_method_150_code 91 = .ok (.invokestatic 54, 3) := by decide +kernel
theorem d55_94 : decode jdk_42_method_150_code 94 = .ok (.putfield 9, 3) := by decide +kernel
theorem d55_97 : decode jdk_42_method_150_code 97 = .ok (.return_, 1) := by decide +kernel
theorem pd36 : parseMethodDescriptor "(Ljava/lang/AbstractStringBuilder;Ljava/lang/Void;)V" = some ⟨[(.object "java/lang/AbstractStringBuilder"), (.object "java/lang/Void")], none⟩ := by decide +kernel
theorem ef56 (m : MethodId) (a0 : Addr) (a1 : Addr) : entryFrame m #[(.ref a0), (.ref a1), (.null)] 5 = mkF m 0 #[.val (.ref a0), .val (.ref a1), .val (.null), .unset, .unset] [] := by first | (simp [entryFrame, mkF, argsToLocals, Value.category]; done) | rfl
abbrev r_conSA0 : Room := { frames := 2, cells := 1, slots := 32, locals := 29 }
set_option maxRecDepth 65536 in
set_option maxHeartbeats 4000000 in
theorem conSA0 {l : Launch} {Z : State} {a0 : Array Value} {G1 : Int32} {G3 : Value} {h : Heap} {s x a : Addr} {k : ClassId} {v0 c0 : Value} (B : Base Z a0 G1 G3) (E0 : Ext Z.heap h) (A : Exa Z h s "java/lang/String") (V : Fld Z h s "java/lang/String" "value" "[B" v0) (Cf : Fld Z h s "java/lang/String" "coder" "B" c0) (FF : SBs Z h x a k (Int32.ofNat 0) (Int32.ofNat 16) 16) (na : a ≠ s) : Con l false Z [] (⟨"java/lang/String", "<init>", "(Ljava/lang/AbstractStringBuilder;Ljava/lang/Void;)V"⟩ : MethodName) jdk_42_method_150_code 5 none [] r_conSA0 #[(.ref s), (.ref x), (.null)] h [s] (QSA h s) := by
  have hw := B.hw
  refine con_of_go pn3_String (fun m => ef56 m s x) E0 EW.none ?_
  refine go_aloadN (q := 1) d55_0 rfl rfl rfl ?_
  refine go_initObj (q := 4) (W := 0) d55_1 rfl (hw _ (List.mem_of_getElem? (i := 17) rfl)) (hw _ (List.mem_of_getElem? (i := 18) rfl)) (hw _ (List.mem_of_getElem? (i := 19) rfl)) rfl (by decide) (Nat.le_of_ble_eq_true rfl) (by decide) ?_
  refine go_aloadN (q := 5) d55_4 rfl rfl rfl ?_
  refine go_pV (q := 8) (y := (⟨"java/lang/AbstractStringBuilder", "getValue", "()[B"⟩ : MethodName)) (W := 0) (argsL := []) (rest := []) (v := some (.ref a)) d55_5 rfl (hw _ (List.mem_of_getElem? (i := 134) rfl)) (hw _ (List.mem_of_getElem? (i := 135) rfl)) (fun s hZ => nf_of (args := #[]) (mvT hZ (hw _ (List.mem_of_getElem? (i := 97) rfl))) rfl) (hw _ (List.mem_of_getElem? (i := 137) rfl)) (hw _ (List.mem_of_getElem? (i := 136) rfl)) FF.1 (hw _ (List.mem_of_getElem? (i := 138) rfl)) (hw _ (List.mem_of_getElem? (i := 64) rfl)) (by decide) (conGV B E0 FF) rfl rfl (lenOf pd27 rfl) (Nat.le_of_ble_eq_true rfl) (by decide) (by decide) rfl rfl (by decide) (by decide) ?_
  show Go l false Z [] _ _ _ _ _ _ _ _ _ _ _ 8 #[.val (.ref s), .val (.ref x), .val (.null), .unset, .unset] [(.ref a)]
  refine go_astoreN (q := 9) (l' := #[.val (.ref s), .val (.ref x), .val (.null), .val (.ref a), .unset]) d55_8 rfl rfl rfl ?_
  refine go_aloadN (q := 10) d55_9 rfl rfl rfl ?_
  refine go_pV (q := 13) (y := (⟨"java/lang/AbstractStringBuilder", "length", "()I"⟩ : MethodName)) (W := 0) (argsL := []) (rest := []) (v := some (.int (Int32.ofNat 16))) d55_10 rfl (hw _ (List.mem_of_getElem? (i := 139) rfl)) (hw _ (List.mem_of_getElem? (i := 140) rfl)) (fun s hZ => nf_of (args := #[]) (mvT hZ (hw _ (List.mem_of_getElem? (i := 97) rfl))) rfl) (hw _ (List.mem_of_getElem? (i := 142) rfl)) (hw _ (List.mem_of_getElem? (i := 143) rfl)) FF.1 (hw _ (List.mem_of_getElem? (i := 144) rfl)) (hw _ (List.mem_of_getElem? (i := 56) rfl)) (by decide) (conSN B E0 FF) rfl rfl (lenOf pd16 rfl) (Nat.le_of_ble_eq_true rfl) (by decide) (by decide) rfl rfl (by decide) (by decide) ?_
  show Go l false Z [] _ _ _ _ _ _ _ _ _ _ _ 13 #[.val (.ref s), .val (.ref x), .val (.null), .val (.ref a), .unset] [(.int (Int32.ofNat 16))]
  refine go_istore (q := 15) (l' := #[.val (.ref s), .val (.ref x), .val (.null), .val (.ref a), .val (.int (Int32.ofNat 16))]) d55_13 rfl rfl ?_
  refine go_aloadN (q := 16) d55_15 rfl rfl rfl ?_
  refine go_pV (q := 19) (y := (⟨"java/lang/AbstractStringBuilder", "isLatin1", "()Z"⟩ : MethodName)) (W := 0) (argsL := []) (rest := []) (v := some (.int (1 : Int32))) d55_16 rfl (hw _ (List.mem_of_getElem? (i := 147) rfl)) (hw _ (List.mem_of_getElem? (i := 148) rfl)) (fun s hZ => nf_of (args := #[]) (mvT hZ (hw _ (List.mem_of_getElem? (i := 97) rfl))) rfl) (hw _ (List.mem_of_getElem? (i := 150) rfl)) (hw _ (List.mem_of_getElem? (i := 149) rfl)) FF.1 (hw _ (List.mem_of_getElem? (i := 151) rfl)) (hw _ (List.mem_of_getElem? (i := 64) rfl)) (by decide) (conAL0 B E0 FF) rfl rfl (lenOf pd17 rfl) (Nat.le_of_ble_eq_true rfl) (by decide) (by decide) rfl rfl (by decide) (by decide) ?_
  show Go l false Z [] _ _ _ _ _ _ _ _ _ _ _ 19 #[.val (.ref s), .val (.ref x), .val (.null), .val (.ref a), .val (.int (Int32.ofNat 16))] [(.int (1 : Int32))]
  have vc : RoadKit.slotOf Z "java/lang/String" "coder" "B" ≠ RoadKit.slotOf Z "java/lang/String" "value" "[B" := (slot_ne (C := "java/lang/String") (t := .byte) (t' := .array .byte) (Or.inr (hw _ (List.mem_of_getElem? (i := 33) rfl))) (Or.inr (hw _ (List.mem_of_getElem? (i := 35) rfl))) (by decide) (by decide +kernel) (by decide +kernel))
  refine go_if (q := 41) (q2 := 22) d55_19 (by decide) (by decide) rfl (fun hc => absurd hc (by decide)) (fun _ => ?_)
  refine go_aloadN (q := 23) d55_22 rfl rfl rfl ?_
  refine go_iconst (q := 24) (z := (Int32.ofNat 0)) d55_23 rfl rfl ?_
  refine go_putfield (q := 27) (ty := .byte) d55_24 rfl (hw _ (List.mem_of_getElem? (i := 32) rfl)) Via.refl Cf A (Or.inr ⟨(hw _ (List.mem_of_getElem? (i := 33) rfl)), rfl, rfl⟩) (hw _ (List.mem_of_getElem? (i := 7) rfl)) (by decide +kernel) rfl rfl (List.mem_cons_self ..) fun h1 W1 => ?_
  refine go_aloadN (q := 28) d55_27 rfl rfl rfl ?_
  refine go_aloadN (q := 29) d55_28 rfl rfl rfl ?_
  refine go_iconst (q := 30) (z := (Int32.ofNat 0)) d55_29 rfl rfl ?_
  refine go_iload (q := 32) d55_30 rfl rfl ?_
  refine go_old fun X1 => ?_
  refine go_callS (q := 35) (y := (⟨"java/util/Arrays", "copyOfRange", "([BII)[B"⟩ : MethodName)) (W := 1) (argsL := [(.ref a), (.int (Int32.ofNat 0)), (.int (Int32.ofNat 16))]) (rest := [(.ref s)]) (ws := []) (P := fun v h' L => ∃ out, (QCR h1 v h' out) ∧ Fr Z.heap.size L ∧ Ext Z.heap h' ∧ ∀ x ∈ out, Z.heap.size ≤ x ∧ x < h'.size) d55_32 rfl (hw _ (List.mem_of_getElem? (i := 152) rfl)) (hw _ (List.mem_of_getElem? (i := 153) rfl)) (hw _ (List.mem_of_getElem? (i := 154) rfl)) (hw _ (List.mem_of_getElem? (i := 155) rfl)) (by decide) (con_pay (conCR B X1 (FF.2.2.2.2.2.1.keep (Keep.of_wr W1) (ninS na nin0)) (FF.2.2.2.2.2.2.1.wr W1) (by decide)) all0 (hw _ (List.mem_of_getElem? (i := 155) rfl)) (hw _ (List.mem_of_getElem? (i := 154) rfl)) (by decide) (by decide)) rfl rfl (lenOf pd35 rfl) (Nat.le_of_ble_eq_true rfl) (by decide) (by decide) (fun v h' L hP => ?_) all0 (fun v h2 L hP => ?_)
  · obtain ⟨out, hq, N, -⟩ := hP; exact ⟨N, keep_ext hq.2.1 _⟩
  obtain ⟨out, hq, -, X, hO⟩ := hP
  obtain ⟨rfl, E2, b, rfl⟩ := hq
  refine ⟨[], all0, ?_⟩
  show Go l false Z [] _ _ _ _ _ _ _ _ _ _ _ 35 #[.val (.ref s), .val (.ref x), .val (.null), .val (.ref a), .val (.int (Int32.ofNat 16))] [(.ref b), (.ref s)]
  refine go_putfield (q := 38) (ty := .array .byte) d55_35 rfl (hw _ (List.mem_of_getElem? (i := 34) rfl)) Via.refl ((V.other W1 (Or.inr vc.symm)).ext E2) ((A.wr W1).ext E2) (Or.inr ⟨(hw _ (List.mem_of_getElem? (i := 35) rfl)), rfl, rfl⟩) (hw _ (List.mem_of_getElem? (i := 7) rfl)) (by decide +kernel) rfl rfl (List.mem_cons_self ..) fun h3 W3 => ?_
  refine go_goto (q := 97) d55_38 (by decide) (by decide) ?_
  exact go_return (out := []) rfl d55_97 ⟨rfl, rfl, ((((Keep.refl h [s]).wr W1 (Or.inl (List.mem_cons_self ..))).ext E2).wr W3 (Or.inl (List.mem_cons_self ..)))⟩ all0 (by decide) (by decide)
theorem d56_0 : decode jdk_42_method_53_code 0 = .ok (.aload_n 0, 1) := by decide +kernel
theorem d56_1 : decode jdk_42_method_53_code 1 = .ok (.aload_n 1, 1) := by decide +kernel
theorem d56_2 : decode jdk_42_method_53_code 2 = .ok (.aconst_null, 1) := by decide +kernel
theorem d56_3 : decode jdk_42_method_53_code 3 = .ok (.invokespecial 489, 3) := by decide +kernel
theorem d56_6 : decode jdk_42_method_53_code 6 = .ok (.return_, 1) := by decide +kernel
theorem pd37 : parseMethodDescriptor "(Ljava/lang/StringBuilder;)V" = some ⟨[(.object "java/lang/StringBuilder")], none⟩ := by decide +kernel
theorem ef57 (m : MethodId) (a0 : Addr) (a1 : Addr) : entryFrame m #[(.ref a0), (.ref a1)] 2 = mkF m 0 #[.val (.ref a0), .val (.ref a1)] [] := by first | (simp [entryFrame, mkF, argsToLocals, Value.category]; done) | rfl
abbrev r_conSI0 : Room := { frames := 3, cells := 1, slots := 32, locals := 45 }
set_option maxRecDepth 65536 in
set_option maxHeartbeats 4000000 in
theorem conSI0 {l : Launch} {Z : State} {a0 : Array Value} {G1 : Int32} {G3 : Value} {h : Heap} {s x a : Addr} {k : ClassId} {v0 c0 : Value} (B : Base Z a0 G1 G3) (E0 : Ext Z.heap h) (hms : ∀ z ∈ [s], Z.heap.size ≤ z ∧ z < h.size) (A : Exa Z h s "java/lang/String") (V : Fld Z h s "java/lang/String" "value" "[B" v0) (Cf : Fld Z h s "java/lang/String" "coder" "B" c0) (FF : SBs Z h x a k (Int32.ofNat 0) (Int32.ofNat 16) 16) (na : a ≠ s) : Con l false Z [] (⟨"java/lang/String", "<init>", "(Ljava/lang/StringBuilder;)V"⟩ : MethodName) jdk_42_method_53_code 2 none [] r_conSI0 #[(.ref s), (.ref x)] h [s] (QSA h s) := by
  have hw := B.hw
  refine con_of_go pn3_String (fun m => ef57 m s x) E0 EW.none ?_
  refine go_aloadN (q := 1) d56_0 rfl rfl rfl ?_
  refine go_aloadN (q := 2) d56_1 rfl rfl rfl ?_
  refine go_null (q := 3) d56_2 rfl ?_
  refine go_callI (q := 6) (y := (⟨"java/lang/String", "<init>", "(Ljava/lang/AbstractStringBuilder;Ljava/lang/Void;)V"⟩ : MethodName)) (W := 0) (argsL := [(.ref x), (.null)]) (rest := []) (ws := [s]) (P := fun v h' L => ∃ out, (QSA h s v h' out) ∧ Fr Z.heap.size L ∧ Ext Z.heap h' ∧ ∀ x ∈ out, Z.heap.size ≤ x ∧ x < h'.size) d56_3 rfl rfl (hw _ (List.mem_of_getElem? (i := 131) rfl)) (hw _ (List.mem_of_getElem? (i := 132) rfl)) (hw _ (List.mem_of_getElem? (i := 133) rfl)) (by decide) (con_pay (conSA0 B E0 A V Cf FF na) hms (hw _ (List.mem_of_getElem? (i := 133) rfl)) (hw _ (List.mem_of_getElem? (i := 8) rfl)) (by decide) (by decide)) rfl rfl (lenOf pd36 rfl) (Nat.le_of_ble_eq_true rfl) (by decide) (by decide) (fun v h' L hP => ?_) (fun _ z => z) (fun v h1 L hP => ?_)
  · obtain ⟨out, hq, N, -⟩ := hP; exact ⟨N, hq.2.2⟩
  obtain ⟨out, hq, -, X, hO⟩ := hP
  obtain ⟨rfl, rfl, K1⟩ := hq
  refine ⟨[], all0, ?_⟩
  show Go l false Z [] _ _ _ _ _ _ _ _ _ _ _ 6 #[.val (.ref s), .val (.ref x)] []
  exact go_return (out := []) rfl d56_6 ⟨rfl, rfl, K1⟩ all0 (by decide) (by decide)
theorem d57_0 : decode jdk_67_method_42_code 0 = .ok (.new 18, 3) := by decide +kernel
theorem d57_3 : decode jdk_67_method_42_code 3 = .ok (.dup, 1) := by decide +kernel
theorem d57_4 : decode jdk_67_method_42_code 4 = .ok (.aload_n 0, 1) := by decide +kernel
theorem d57_5 : decode jdk_67_method_42_code 5 = .ok (.invokespecial 137, 3) := by decide +kernel
theorem d57_8 : decode jdk_67_method_42_code 8 = .ok (.areturn, 1) := by decide +kernel
theorem pd38 : parseMethodDescriptor "()Ljava/lang/String;" = some ⟨[], some (.object "java/lang/String")⟩ := by decide +kernel
theorem ef58 (m : MethodId) (a0 : Addr) : entryFrame m #[(.ref a0)] 1 = mkF m 0 #[.val (.ref a0)] [] := by first | (simp [entryFrame, mkF, argsToLocals, Value.category]; done) | rfl
abbrev r_conTS0 : Room := { frames := 4, cells := 2, slots := 36, locals := 59 }
set_option maxRecDepth 65536 in
set_option maxHeartbeats 4000000 in
theorem conTS0 {l : Launch} {Z : State} {a0 : Array Value} {G1 : Int32} {G3 : Value} {h : Heap} {x a : Addr} {k : ClassId} (B : Base Z a0 G1 G3) (E0 : Ext Z.heap h) (FF : SBs Z h x a k (Int32.ofNat 0) (Int32.ofNat 16) 16) : Con l false Z [] (⟨"java/lang/StringBuilder", "toString", "()Ljava/lang/String;"⟩ : MethodName) jdk_67_method_42_code 1 (some (.object "java/lang/String")) [] r_conTS0 #[(.ref x)] h [] (QCR h) := by
  have hw := B.hw
  refine con_of_go pn7_StringBuilder (fun m => ef58 m x) E0 EW.none ?_
  refine go_new (q := 3) d57_0 rfl (hw _ (List.mem_of_getElem? (i := 127) rfl)) (hw _ (List.mem_of_getElem? (i := 7) rfl)) (hw _ (List.mem_of_getElem? (i := 8) rfl)) (by decide) (by decide) fun h1 s e1 E1 A1 D1 => ?_
  refine go_dup (q := 4) d57_3 rfl rfl ?_
  refine go_aloadN (q := 5) d57_4 rfl rfl rfl ?_
  refine go_mine fun hM => ?_
  have na : a ≠ s := by rw [e1]; exact Nat.ne_of_lt FF.2.2.2.2.2.1.lt
  refine go_callI (q := 8) (y := (⟨"java/lang/String", "<init>", "(Ljava/lang/StringBuilder;)V"⟩ : MethodName)) (W := 1) (argsL := [(.ref x)]) (rest := [(.ref s)]) (ws := [s]) (P := fun v h' L => ∃ out, (QSA h1 s v h' out) ∧ Fr Z.heap.size L ∧ Ext Z.heap h' ∧ ∀ x ∈ out, Z.heap.size ≤ x ∧ x < h'.size) d57_5 rfl rfl (hw _ (List.mem_of_getElem? (i := 128) rfl)) (hw _ (List.mem_of_getElem? (i := 129) rfl)) (hw _ (List.mem_of_getElem? (i := 130) rfl)) (by decide) (con_pay (conSI0 B (ext_tr E0 E1) hM A1 (D1 (Or.inr (hw _ (List.mem_of_getElem? (i := 35) rfl))) (ty := .array .byte) (by decide +kernel)) (D1 (Or.inr (hw _ (List.mem_of_getElem? (i := 33) rfl))) (ty := .byte) (by decide +kernel)) (FF.ext E1) na) hM (hw _ (List.mem_of_getElem? (i := 130) rfl)) (hw _ (List.mem_of_getElem? (i := 8) rfl)) (by decide) (by decide)) rfl rfl (lenOf pd37 rfl) (Nat.le_of_ble_eq_true rfl) (by decide) (by decide) (fun v h' L hP => ?_) (fun _ z => z) (fun v h2 L hP => ?_)
  · obtain ⟨out, hq, N, -⟩ := hP; exact ⟨N, hq.2.2⟩
  obtain ⟨out, hq, -, X, hO⟩ := hP
  obtain ⟨rfl, rfl, K2⟩ := hq
  refine ⟨[], all0, ?_⟩
  show Go l false Z [] _ _ _ _ _ _ _ _ _ _ _ 8 #[.val (.ref x)] [(.ref s)]
  exact go_areturn (out := []) rfl rfl rfl rfl d57_8 ⟨rfl, ext_keep E1 K2 (allS (Nat.le_of_eq e1.symm) all0), s, rfl⟩ all0 (by decide) (by decide)
abbrev r_conSA1 : Room := { frames := 2, cells := 1, slots := 32, locals := 29 }
set_option maxRecDepth 65536 in
set_option maxHeartbeats 4000000 in
theorem conSA1 {l : Launch} {Z : State} {a0 : Array Value} {G1 : Int32} {G3 : Value} {h : Heap} {s x a : Addr} {k : ClassId} {v0 c0 : Value} (B : Base Z a0 G1 G3) (E0 : Ext Z.heap h) (A : Exa Z h s "java/lang/String") (V : Fld Z h s "java/lang/String" "value" "[B" v0) (Cf : Fld Z h s "java/lang/String" "coder" "B" c0) (FF : SBs Z h x a k (Int32.ofNat 1) (Int32.ofNat 16) 32) (na : a ≠ s) : Con l false Z [] (⟨"java/lang/String", "<init>", "(Ljava/lang/AbstractStringBuilder;Ljava/lang/Void;)V"⟩ : MethodName) jdk_42_method_150_code 5 none [] r_conSA1 #[(.ref s), (.ref x), (.null)] h [s] (QSA h s) := by
  have hw := B.hw
  refine con_of_go pn3_String (fun m => ef56 m s x) E0 EW.none ?_
  refine go_aloadN (q := 1) d55_0 rfl rfl rfl ?_
  refine go_initObj (q := 4) (W := 0) d55_1 rfl (hw _ (List.mem_of_getElem? (i := 17) rfl)) (hw _ (List.mem_of_getElem? (i := 18) rfl)) (hw _ (List.mem_of_getElem? (i := 19) rfl)) rfl (by decide) (Nat.le_of_ble_eq_true rfl) (by decide) ?_
  refine go_aloadN (q := 5) d55_4 rfl rfl rfl ?_
  refine go_pV (q := 8) (y := (⟨"java/lang/AbstractStringBuilder", "getValue", "()[B"⟩ : MethodName)) (W := 0) (argsL := []) (rest := []) (v := some (.ref a)) d55_5 rfl (hw _ (List.mem_of_getElem? (i := 134) rfl)) (hw _ (List.mem_of_getElem? (i := 135) rfl)) (fun s hZ => nf_of (args := #[]) (mvT hZ (hw _ (List.mem_of_getElem? (i := 97) rfl))) rfl) (hw _ (List.mem_of_getElem? (i := 137) rfl)) (hw _ (List.mem_of_getElem? (i := 136) rfl)) FF.1 (hw _ (List.mem_of_getElem? (i := 138) rfl)) (hw _ (List.mem_of_getElem? (i := 64) rfl)) (by decide) (conGV B E0 FF) rfl rfl (lenOf pd27 rfl) (Nat.le_of_ble_eq_true rfl) (by decide) (by decide) rfl rfl (by decide) (by decide) ?_
  show Go l false Z [] _ _ _ _ _ _ _ _ _ _ _ 8 #[.val (.ref s), .val (.ref x), .val (.null), .unset, .unset] [(.ref a)]
  refine go_astoreN (q := 9) (l' := #[.val (.ref s), .val (.ref x), .val (.null), .val (.ref a), .unset]) d55_8 rfl rfl rfl ?_
  refine go_aloadN (q := 10) d55_9 rfl rfl rfl ?_
  refine go_pV (q := 13) (y := (⟨"java/lang/AbstractStringBuilder", "length", "()I"⟩ : MethodName)) (W := 0) (argsL := []) (rest := []) (v := some (.int (Int32.ofNat 16))) d55_10 rfl (hw _ (List.mem_of_getElem? (i := 139) rfl)) (hw _ (List.mem_of_getElem? (i := 140) rfl)) (fun s hZ => nf_of (args := #[]) (mvT hZ (hw _ (List.mem_of_getElem? (i := 97) rfl))) rfl) (hw _ (List.mem_of_getElem? (i := 142) rfl)) (hw _ (List.mem_of_getElem? (i := 143) rfl)) FF.1 (hw _ (List.mem_of_getElem? (i := 144) rfl)) (hw _ (List.mem_of_getElem? (i := 56) rfl)) (by decide) (conSN B E0 FF) rfl rfl (lenOf pd16 rfl) (Nat.le_of_ble_eq_true rfl) (by decide) (by decide) rfl rfl (by decide) (by decide) ?_
  show Go l false Z [] _ _ _ _ _ _ _ _ _ _ _ 13 #[.val (.ref s), .val (.ref x), .val (.null), .val (.ref a), .unset] [(.int (Int32.ofNat 16))]
  refine go_istore (q := 15) (l' := #[.val (.ref s), .val (.ref x), .val (.null), .val (.ref a), .val (.int (Int32.ofNat 16))]) d55_13 rfl rfl ?_
  refine go_aloadN (q := 16) d55_15 rfl rfl rfl ?_
  refine go_pV (q := 19) (y := (⟨"java/lang/AbstractStringBuilder", "isLatin1", "()Z"⟩ : MethodName)) (W := 0) (argsL := []) (rest := []) (v := some (.int (0 : Int32))) d55_16 rfl (hw _ (List.mem_of_getElem? (i := 147) rfl)) (hw _ (List.mem_of_getElem? (i := 148) rfl)) (fun s hZ => nf_of (args := #[]) (mvT hZ (hw _ (List.mem_of_getElem? (i := 97) rfl))) rfl) (hw _ (List.mem_of_getElem? (i := 150) rfl)) (hw _ (List.mem_of_getElem? (i := 149) rfl)) FF.1 (hw _ (List.mem_of_getElem? (i := 151) rfl)) (hw _ (List.mem_of_getElem? (i := 64) rfl)) (by decide) (conAL1 B E0 FF) rfl rfl (lenOf pd17 rfl) (Nat.le_of_ble_eq_true rfl) (by decide) (by decide) rfl rfl (by decide) (by decide) ?_
  show Go l false Z [] _ _ _ _ _ _ _ _ _ _ _ 19 #[.val (.ref s), .val (.ref x), .val (.null), .val (.ref a), .val (.int (Int32.ofNat 16))] [(.int (0 : Int32))]
  have vc : RoadKit.slotOf Z "java/lang/String" "coder" "B" ≠ RoadKit.slotOf Z "java/lang/String" "value" "[B" := (slot_ne (C := "java/lang/String") (t := .byte) (t' := .array .byte) (Or.inr (hw _ (List.mem_of_getElem? (i := 33) rfl))) (Or.inr (hw _ (List.mem_of_getElem? (i := 35) rfl))) (by decide) (by decide +kernel) (by decide +kernel))
  refine go_if (q := 41) (q2 := 22) d55_19 (by decide) (by decide) rfl (fun _ => ?_) (fun hc => absurd hc (by decide))
  refine go_getstatic (q := 44) d55_41 rfl (hw _ (List.mem_of_getElem? (i := 20) rfl)) Via.refl B.O2 ?_
  refine go_if (q := 79) (q2 := 47) d55_44 (by decide) (by decide) rfl (fun hc => absurd hc (by simpa [ifCond.holds] using B.P5)) (fun _ => ?_)
  refine go_aloadN (q := 48) d55_47 rfl rfl rfl ?_
  refine go_getfield (q := 51) d55_48 rfl (hw _ (List.mem_of_getElem? (i := 257) rfl)) Via.refl FF.2.2.2.2.1 ?_
  refine go_if (q := 79) (q2 := 54) d55_51 (by decide) (by decide) rfl (fun _ => ?_) (fun hc => absurd hc (by decide))
  refine go_aloadN (q := 80) d55_79 rfl rfl rfl ?_
  refine go_iconst (q := 81) (z := (Int32.ofNat 1)) d55_80 rfl rfl ?_
  refine go_putfield (q := 84) (ty := .byte) d55_81 rfl (hw _ (List.mem_of_getElem? (i := 32) rfl)) Via.refl Cf A (Or.inr ⟨(hw _ (List.mem_of_getElem? (i := 33) rfl)), rfl, rfl⟩) (hw _ (List.mem_of_getElem? (i := 7) rfl)) (by decide +kernel) rfl rfl (List.mem_cons_self ..) fun h1 W1 => ?_
  refine go_aloadN (q := 85) d55_84 rfl rfl rfl ?_
  refine go_aloadN (q := 86) d55_85 rfl rfl rfl ?_
  refine go_iconst (q := 87) (z := (Int32.ofNat 0)) d55_86 rfl rfl ?_
  refine go_iload (q := 89) d55_87 rfl rfl ?_
  refine go_iconst (q := 90) (z := (Int32.ofNat 1)) d55_89 rfl rfl ?_
  refine go_ishl (q := 91) d55_90 rfl ?_
  rw [show Int32.ofNat 16 <<< (Int32.ofNat 1 &&& 31) = Int32.ofNat 32 by decide]
  refine go_old fun X1 => ?_
  refine go_callS (q := 94) (y := (⟨"java/util/Arrays", "copyOfRange", "([BII)[B"⟩ : MethodName)) (W := 1) (argsL := [(.ref a), (.int (Int32.ofNat 0)), (.int (Int32.ofNat 32))]) (rest := [(.ref s)]) (ws := []) (P := fun v h' L => ∃ out, (QCR h1 v h' out) ∧ Fr Z.heap.size L ∧ Ext Z.heap h' ∧ ∀ x ∈ out, Z.heap.size ≤ x ∧ x < h'.size) d55_91 rfl (hw _ (List.mem_of_getElem? (i := 152) rfl)) (hw _ (List.mem_of_getElem? (i := 153) rfl)) (hw _ (List.mem_of_getElem? (i := 154) rfl)) (hw _ (List.mem_of_getElem? (i := 155) rfl)) (by decide) (con_pay (conCR B X1 (FF.2.2.2.2.2.1.keep (Keep.of_wr W1) (ninS na nin0)) (FF.2.2.2.2.2.2.1.wr W1) (by decide)) all0 (hw _ (List.mem_of_getElem? (i := 155) rfl)) (hw _ (List.mem_of_getElem? (i := 154) rfl)) (by decide) (by decide)) rfl rfl (lenOf pd35 rfl) (Nat.le_of_ble_eq_true rfl) (by decide) (by decide) (fun v h' L hP => ?_) all0 (fun v h2 L hP => ?_)
  · obtain ⟨out, hq, N, -⟩ := hP; exact ⟨N, keep_ext hq.2.1 _⟩
  obtain ⟨out, hq, -, X, hO⟩ := hP
  obtain ⟨rfl, E2, b, rfl⟩ := hq
  refine ⟨[], all0, ?_⟩
  show Go l false Z [] _ _ _ _ _ _ _ _ _ _ _ 94 #[.val (.ref s), .val (.ref x), .val (.null), .val (.ref a), .val (.int (Int32.ofNat 16))] [(.ref b), (.ref s)]
  refine go_putfield (q := 97) (ty := .array .byte) d55_94 rfl (hw _ (List.mem_of_getElem? (i := 34) rfl)) Via.refl ((V.other W1 (Or.inr vc.symm)).ext E2) ((A.wr W1).ext E2) (Or.inr ⟨(hw _ (List.mem_of_getElem? (i := 35) rfl)), rfl, rfl⟩) (hw _ (List.mem_of_getElem? (i := 7) rfl)) (by decide +kernel) rfl rfl (List.mem_cons_self ..) fun h3 W3 => ?_
  exact go_return (out := []) rfl d55_97 ⟨rfl, rfl, ((((Keep.refl h [s]).wr W1 (Or.inl (List.mem_cons_self ..))).ext E2).wr W3 (Or.inl (List.mem_cons_self ..)))⟩ all0 (by decide) (by decide)
abbrev r_conSI1 : Room := { frames := 3, cells := 1, slots := 32, locals := 45 }
set_option maxRecDepth 65536 in
set_option maxHeartbeats 4000000 in
theorem conSI1 {l : Launch} {Z : State} {a0 : Array Value} {G1 : Int32} {G3 : Value} {h : Heap} {s x a : Addr} {k : ClassId} {v0 c0 : Value} (B : Base Z a0 G1 G3) (E0 : Ext Z.heap h) (hms : ∀ z ∈ [s], Z.heap.size ≤ z ∧ z < h.size) (A : Exa Z h s "java/lang/String") (V : Fld Z h s "java/lang/String" "value" "[B" v0) (Cf : Fld Z h s "java/lang/String" "coder" "B" c0) (FF : SBs Z h x a k (Int32.ofNat 1) (Int32.ofNat 16) 32) (na : a ≠ s) : Con l false Z [] (⟨"java/lang/String", "<init>", "(Ljava/lang/StringBuilder;)V"⟩ : MethodName) jdk_42_method_53_code 2 none [] r_conSI1 #[(.ref s), (.ref x)] h [s] (QSA h s) := by
  have hw := B.hw
  refine con_of_go pn3_String (fun m => ef57 m s x) E0 EW.none ?_
  refine go_aloadN (q := 1) d56_0 rfl rfl rfl ?_
  refine go_aloadN (q := 2) d56_1 rfl rfl rfl ?_
  refine go_null (q := 3) d56_2 rfl ?_
  refine go_callI (q := 6) (y := (⟨"java/lang/String", "<init>", "(Ljava/lang/AbstractStringBuilder;Ljava/lang/Void;)V"⟩ : MethodName)) (W := 0) (argsL := [(.ref x), (.null)]) (rest := []) (ws := [s]) (P := fun v h' L => ∃ out, (QSA h s v h' out) ∧ Fr Z.heap.size L ∧ Ext Z.heap h' ∧ ∀ x ∈ out, Z.heap.size ≤ x ∧ x < h'.size) d56_3 rfl rfl (hw _ (List.mem_of_getElem? (i := 131) rfl)) (hw _ (List.mem_of_getElem? (i := 132) rfl)) (hw _ (List.mem_of_getElem? (i := 133) rfl)) (by decide) (con_pay (conSA1 B E0 A V Cf FF na) hms (hw _ (List.mem_of_getElem? (i := 133) rfl)) (hw _ (List.mem_of_getElem? (i := 8) rfl)) (by decide) (by decide)) rfl rfl (lenOf pd36 rfl) (Nat.le_of_ble_eq_true rfl) (by decide) (by decide) (fun v h' L hP => ?_) (fun _ z => z) (fun v h1 L hP => ?_)
  · obtain ⟨out, hq, N, -⟩ := hP; exact ⟨N, hq.2.2⟩
  obtain ⟨out, hq, -, X, hO⟩ := hP
  obtain ⟨rfl, rfl, K1⟩ := hq
  refine ⟨[], all0, ?_⟩
  show Go l false Z [] _ _ _ _ _ _ _ _ _ _ _ 6 #[.val (.ref s), .val (.ref x)] []
  exact go_return (out := []) rfl d56_6 ⟨rfl, rfl, K1⟩ all0 (by decide) (by decide)
abbrev r_conTS1 : Room := { frames := 4, cells := 2, slots := 36, locals := 59 }
set_option maxRecDepth 65536 in
set_option maxHeartbeats 4000000 in
theorem conTS1 {l : Launch} {Z : State} {a0 : Array Value} {G1 : Int32} {G3 : Value} {h : Heap} {x a : Addr} {k : ClassId} (B : Base Z a0 G1 G3) (E0 : Ext Z.heap h) (FF : SBs Z h x a k (Int32.ofNat 1) (Int32.ofNat 16) 32) : Con l false Z [] (⟨"java/lang/StringBuilder", "toString", "()Ljava/lang/String;"⟩ : MethodName) jdk_67_method_42_code 1 (some (.object "java/lang/String")) [] r_conTS1 #[(.ref x)] h [] (QCR h) := by
  have hw := B.hw
  refine con_of_go pn7_StringBuilder (fun m => ef58 m x) E0 EW.none ?_
  refine go_new (q := 3) d57_0 rfl (hw _ (List.mem_of_getElem? (i := 127) rfl)) (hw _ (List.mem_of_getElem? (i := 7) rfl)) (hw _ (List.mem_of_getElem? (i := 8) rfl)) (by decide) (by decide) fun h1 s e1 E1 A1 D1 => ?_
  refine go_dup (q := 4) d57_3 rfl rfl ?_
  refine go_aloadN (q := 5) d57_4 rfl rfl rfl ?_
  refine go_mine fun hM => ?_
  have na : a ≠ s := by rw [e1]; exact Nat.ne_of_lt FF.2.2.2.2.2.1.lt
  refine go_callI (q := 8) (y := (⟨"java/lang/String", "<init>", "(Ljava/lang/StringBuilder;)V"⟩ : MethodName)) (W := 1) (argsL := [(.ref x)]) (rest := [(.ref s)]) (ws := [s]) (P := fun v h' L => ∃ out, (QSA h1 s v h' out) ∧ Fr Z.heap.size L ∧ Ext Z.heap h' ∧ ∀ x ∈ out, Z.heap.size ≤ x ∧ x < h'.size) d57_5 rfl rfl (hw _ (List.mem_of_getElem? (i := 128) rfl)) (hw _ (List.mem_of_getElem? (i := 129) rfl)) (hw _ (List.mem_of_getElem? (i := 130) rfl)) (by decide) (con_pay (conSI1 B (ext_tr E0 E1) hM A1 (D1 (Or.inr (hw _ (List.mem_of_getElem? (i := 35) rfl))) (ty := .array .byte) (by decide +kernel)) (D1 (Or.inr (hw _ (List.mem_of_getElem? (i := 33) rfl))) (ty := .byte) (by decide +kernel)) (FF.ext E1) na) hM (hw _ (List.mem_of_getElem? (i := 130) rfl)) (hw _ (List.mem_of_getElem? (i := 8) rfl)) (by decide) (by decide)) rfl rfl (lenOf pd37 rfl) (Nat.le_of_ble_eq_true rfl) (by decide) (by decide) (fun v h' L hP => ?_) (fun _ z => z) (fun v h2 L hP => ?_)
  · obtain ⟨out, hq, N, -⟩ := hP; exact ⟨N, hq.2.2⟩
  obtain ⟨out, hq, -, X, hO⟩ := hP
  obtain ⟨rfl, rfl, K2⟩ := hq
  refine ⟨[], all0, ?_⟩
  show Go l false Z [] _ _ _ _ _ _ _ _ _ _ _ 8 #[.val (.ref x)] [(.ref s)]
  exact go_areturn (out := []) rfl rfl rfl rfl d57_8 ⟨rfl, ext_keep E1 K2 (allS (Nat.le_of_eq e1.symm) all0), s, rfl⟩ all0 (by decide) (by decide)
theorem strAtoms {Z : State} {a0 : Array Value} (hw : ∀ d ∈ tables_1, d.before a0 Z = true) : ∀ a ∈ Bundle.stringAtoms, a.before a0 Z = true := fun d hd => hw d ((by decide +kernel : ∀ d ∈ Bundle.stringAtoms, d ∈ tables_1) d hd)
def QRq (h : Heap) (n : Addr) (v : Option Value) (h' : Heap) (out : List Addr) : Prop := v = some (.ref n) ∧ out = [] ∧ Ext h h'
abbrev lit : String := " cannot be null"
abbrev litV : List Value := lit.toList.map (fun c => Value.int (Jvm.Lit.byteI c.toNat.toUInt16))
theorem d58_0 : decode prog_12_method_2_code 0 = .ok (.aload_n 0, 1) := by decide +kernel
theorem d58_1 : decode prog_12_method_2_code 1 = .ok (.new 10, 3) := by decide +kernel
theorem d58_4 : decode prog_12_method_2_code 4 = .ok (.dup, 1) := by decide +kernel
theorem d58_5 : decode prog_12_method_2_code 5 = .ok (.invokespecial 12, 3) := by decide +kernel
theorem d58_8 : decode prog_12_method_2_code 8 = .ok (.aload_n 1, 1) := by decide +kernel
theorem d58_9 : decode prog_12_method_2_code 9 = .ok (.invokevirtual 13, 3) := by decide +kernel
theorem d58_12 : decode prog_12_method_2_code 12 = .ok (.ldc 17, 2) := by decide +kernel
theorem d58_14 : decode prog_12_method_2_code 14 = .ok (.invokevirtual 13, 3) := by decide +kernel
theorem d58_17 : decode prog_12_method_2_code 17 = .ok (.invokevirtual 19, 3) := by decide +kernel
theorem d58_20 : decode prog_12_method_2_code 20 = .ok (.invokestatic 23, 3) := by decide +kernel
theorem d58_23 : decode prog_12_method_2_code 23 = .ok (.pop, 1) := by decide +kernel
theorem d58_24 : decode prog_12_method_2_code 24 = .ok (.aload_n 0, 1) := by decide +kernel
theorem d58_25 : decode prog_12_method_2_code 25 = .ok (.invokevirtual 29, 3) := by decide +kernel
theorem d58_28 : decode prog_12_method_2_code 28 = .ok (.ifCond .ne 11, 3) := by decide +kernel
theorem d58_31 : decode prog_12_method_2_code 31 = .ok (.aload_n 0, 1) := by decide +kernel
theorem d58_32 : decode prog_12_method_2_code 32 = .ok (.iconst 0, 1) := by decide +kernel
theorem d58_33 : decode prog_12_method_2_code 33 = .ok (.invokevirtual 35, 3) := by decide +kernel
theorem d58_36 : decode prog_12_method_2_code 36 = .ok (.ifCond .lt 39, 3) := by decide +kernel
theorem d58_39 : decode prog_12_method_2_code 39 = .ok (.new 39, 3) := by decide +kernel
theorem d58_42 : decode prog_12_method_2_code 42 = .ok (.dup, 1) := by decide +kernel
theorem d58_43 : decode prog_12_method_2_code 43 = .ok (.new 10, 3) := by decide +kernel
theorem d58_46 : decode prog_12_method_2_code 46 = .ok (.dup, 1) := by decide +kernel
theorem d58_47 : decode prog_12_method_2_code 47 = .ok (.invokespecial 12, 3) := by decide +kernel
theorem d58_50 : decode prog_12_method_2_code 50 = .ok (.aload_n 1, 1) := by decide +kernel
theorem d58_51 : decode prog_12_method_2_code 51 = .ok (.invokevirtual 13, 3) := by decide +kernel
theorem d58_54 : decode prog_12_method_2_code 54 = .ok (.ldc 41, 2) := by decide +kernel
theorem d58_56 : decode prog_12_method_2_code 56 = .ok (.invokevirtual 13, 3) := by decide +kernel
theorem d58_59 : decode prog_12_method_2_code 59 = .ok (.aload_n 0, 1) := by decide +kernel
theorem d58_60 : decode prog_12_method_2_code 60 = .ok (.invokevirtual 13, 3) := by decide +kernel
theorem d58_63 : decode prog_12_method_2_code 63 = .ok (.ldc 43, 2) := by decide +kernel
theorem d58_65 : decode prog_12_method_2_code 65 = .ok (.invokevirtual 13, 3) := by decide +kernel
theorem d58_68 : decode prog_12_method_2_code 68 = .ok (.invokevirtual 19, 3) := by decide +kernel
theorem d58_71 : decode prog_12_method_2_code 71 = .ok (.invokespecial 45, 3) := by decide +kernel
theorem d58_74 : decode prog_12_method_2_code 74 = .ok (.athrow, 1) := by decide +kernel
theorem d58_75 : decode prog_12_method_2_code 75 = .ok (.aload_n 0, 1) := by decide +kernel
theorem d58_76 : decode prog_12_method_2_code 76 = .ok (.areturn, 1) := by decide +kernel
theorem pn9_Names : plainName "com/example/steady_step/steadystep/machine/Names" = true := by first | (simp [plainName, overriddenIn]; done) | decide +kernel
theorem pd39 : parseMethodDescriptor "(Ljava/lang/String;Ljava/lang/String;)Ljava/lang/String;" = some ⟨[(.object "java/lang/String"), (.object "java/lang/String")], some (.object "java/lang/String")⟩ := by decide +kernel
theorem ef59 (m : MethodId) (a0 : Addr) (a1 : Addr) : entryFrame m #[(.ref a0), (.ref a1)] 2 = mkF m 0 #[.val (.ref a0), .val (.ref a1)] [] := by first | (simp [entryFrame, mkF, argsToLocals, Value.category]; done) | rfl
abbrev r_conRqA : Room := { frames := 7, cells := 6, slots := 120, locals := 100 }
set_option maxRecDepth 65536 in
set_option maxHeartbeats 4000000 in
theorem conRqA {l : Launch} {Z : State} {a0 : Array Value} {G1 : Int32} {G3 : Value} {h : Heap} {n y t : Addr} {kb : ClassId} {cs : List Nat} (B : Base Z a0 G1 G3) (hEL : EW Z a0 consts_1) (E0 : Ext Z.heap h) (h1n : 1 ≤ cs.length) (hn : cs.length ≤ 4) (hp : ∀ c ∈ cs, 1 ≤ c ∧ c < 65536) (SV : StrV Z h n cs) (WS : WStr Z h y t kb (Int32.ofNat 0) 1) : Con l true Z consts_1 (⟨"com/example/steady_step/steadystep/machine/Names", "require", "(Ljava/lang/String;Ljava/lang/String;)Ljava/lang/String;"⟩ : MethodName) prog_12_method_2_code 2 (some (.object "java/lang/String")) [] r_conRqA #[(.ref n), (.ref y)] h [] (QRq h n) := by
  have hw := B.hw
  refine con_of_go pn9_Names (fun m => ef59 m n y) E0 ⟨a0, hEL⟩ ?_
  refine go_aloadN (q := 1) d58_0 rfl rfl rfl ?_
  refine go_new (q := 4) d58_1 rfl (hw _ (List.mem_of_getElem? (i := 54) rfl)) (hw _ (List.mem_of_getElem? (i := 55) rfl)) (hw _ (List.mem_of_getElem? (i := 56) rfl)) (by decide) (by decide) fun h1 x e1 E1 A1 D1 => ?_
  refine go_dup (q := 5) d58_4 rfl rfl ?_
  refine go_mine fun hM1 => ?_
  refine go_callI (q := 8) (y := (⟨"java/lang/StringBuilder", "<init>", "()V"⟩ : MethodName)) (W := 2) (argsL := []) (rest := [(.ref x), (.ref n)]) (ws := [x]) (P := fun v h' L => ∃ out, (QAI Z h1 x v h' out) ∧ Fr Z.heap.size L ∧ Ext Z.heap h' ∧ ∀ x ∈ out, Z.heap.size ≤ x ∧ x < h'.size) d58_5 rfl rfl (hw _ (List.mem_of_getElem? (i := 57) rfl)) (hw _ (List.mem_of_getElem? (i := 58) rfl)) (hw _ (List.mem_of_getElem? (i := 59) rfl)) (by decide) (con_pay (conBI B (ext_tr E0 E1) hM1 A1 (D1 (Or.inl (hw _ (List.mem_of_getElem? (i := 69) rfl))) (ty := .array .byte) (by decide +kernel)) (D1 (Or.inl (hw _ (List.mem_of_getElem? (i := 71) rfl))) (ty := .byte) (by decide +kernel)) (D1 (Or.inl (hw _ (List.mem_of_getElem? (i := 93) rfl))) (ty := .int) (by decide +kernel)) (D1 (Or.inl (hw _ (List.mem_of_getElem? (i := 258) rfl))) (ty := .boolean) (by decide +kernel))) hM1 (hw _ (List.mem_of_getElem? (i := 59) rfl)) (hw _ (List.mem_of_getElem? (i := 56) rfl)) (by decide) (by decide)) rfl rfl (lenOf pd26 rfl) (Nat.le_of_ble_eq_true rfl) (by decide) (by decide) (fun v h' L hP => ?_) (fun _ z => z) (fun v h2 L hP => ?_)
  · obtain ⟨out, hq, N, -⟩ := hP; exact ⟨N, hq.2.1⟩
  obtain ⟨out, hq, -, X, hO⟩ := hP
  obtain ⟨rfl, K2, a, k, rfl, ha, hb, FF⟩ := hq
  refine ⟨[a], allS ⟨ha, hb⟩ all0, ?_⟩
  show Go l true Z consts_1 _ _ _ _ _ _ _ _ _ _ _ 8 #[.val (.ref n), .val (.ref y)] [(.ref x), (.ref n)]
  refine go_aloadN (q := 9) d58_8 rfl rfl rfl ?_
  have hx : h.size ≤ x := Nat.le_of_eq e1.symm
  have haa : h.size ≤ a := Nat.le_trans E1.1 ha
  have X2 : Ext h h2 := ext_keep E1 K2 (allS hx all0)
  have ny : y ≠ x := Nat.ne_of_lt (Nat.lt_of_lt_of_le WS.1.lt hx)
  have nt : t ≠ x := Nat.ne_of_lt (Nat.lt_of_lt_of_le WS.2.2.2.lt hx)
  have nta : t ≠ a := Nat.ne_of_lt (Nat.lt_of_lt_of_le WS.2.2.2.lt haa)
  refine go_mine fun hM2 => ?_
  refine go_callV (q := 12) (y := (⟨"java/lang/StringBuilder", "append", "(Ljava/lang/String;)Ljava/lang/StringBuilder;"⟩ : MethodName)) (W := 1) (argsL := [(.ref y)]) (rest := [(.ref n)]) (ws := [x, a]) (P := fun v h' L => ∃ out, (QAA Z h2 x a k (Int32.ofNat 0) (Int32.ofNat 0 + Int32.ofNat 1) 16 v h' out) ∧ Fr Z.heap.size L ∧ Ext Z.heap h' ∧ ∀ x ∈ out, Z.heap.size ≤ x ∧ x < h'.size) d58_9 rfl (hw _ (List.mem_of_getElem? (i := 72) rfl)) (hw _ (List.mem_of_getElem? (i := 73) rfl)) (fun s hZ => nf_of (args := #[]) (mvT hZ (hw _ (List.mem_of_getElem? (i := 75) rfl))) rfl) (hw _ (List.mem_of_getElem? (i := 75) rfl)) (hw _ (List.mem_of_getElem? (i := 74) rfl)) FF.1 (by decide) (con_pay (conBPA B X (fun z hz => hM2 z (by simp only [List.mem_cons, List.not_mem_nil, or_false] at hz; first | (subst hz; simp; done) | (rcases hz with rfl | rfl <;> simp))) ny nt nta FF (WS.ext X2)) (fun z hz => hM2 z (by simp only [List.mem_cons, List.not_mem_nil, or_false] at hz; first | (subst hz; simp; done) | (rcases hz with rfl | rfl <;> simp))) (hw _ (List.mem_of_getElem? (i := 76) rfl)) (hw _ (List.mem_of_getElem? (i := 56) rfl)) (by decide) (by decide)) rfl rfl (lenOf pd34 rfl) (Nat.le_of_ble_eq_true rfl) (by decide) (by decide) (fun v h' L hP => ?_) (by simp) (fun v h3 L hP => ?_)
  · obtain ⟨out, hq, N, -⟩ := hP; exact ⟨N, hq.2.2.1⟩
  obtain ⟨out, hq, -, X, hO⟩ := hP
  obtain ⟨rfl, rfl, K3, FG⟩ := hq
  refine ⟨[], all0, ?_⟩
  have X3 : Ext h h3 := ext_keep X2 K3 (allS hx (allS haa all0))
  rw [show (Int32.ofNat 0 + Int32.ofNat 1) = Int32.ofNat 1 by decide] at FG
  show Go l true Z consts_1 _ _ _ _ _ _ _ _ _ _ _ 12 #[.val (.ref n), .val (.ref y)] [(.ref x), (.ref n)]
  refine go_ldcS (q := 14) (n := 60) (text := lit) (vs := litV) (z := Int32.ofNat 15) d58_12 rfl rfl (hw _ (List.mem_of_getElem? (i := 119) rfl)) (strAtoms hw) hEL (List.mem_of_getElem? (i := 0) rfl) ⟨by decide, rfl⟩ (by decide) (by decide) (by decide) (by decide) (by decide) (by decide) fun h4 sl bl kl E4 f1 f2 f3 f4 hne => ?_
  have WL : WStr Z h4 sl bl kl (Int32.ofNat 0) 15 := ⟨f1, f3, f2, litV, by decide, f4⟩
  have X4 : Ext h h4 := ext_tr X3 E4
  have FL := FG.ext E4
  have nex := hne x (by simp)
  have nea := hne a (by simp)
  refine go_old fun O4 => ?_
  refine go_mine fun hM4 => ?_
  refine go_callV (q := 17) (y := (⟨"java/lang/StringBuilder", "append", "(Ljava/lang/String;)Ljava/lang/StringBuilder;"⟩ : MethodName)) (W := 1) (argsL := [(.ref sl)]) (rest := [(.ref n)]) (ws := [x, a]) (P := fun v h' L => ∃ out, (QAA Z h4 x a k (Int32.ofNat 0) (Int32.ofNat 1 + Int32.ofNat 15) 16 v h' out) ∧ Fr Z.heap.size L ∧ Ext Z.heap h' ∧ ∀ x ∈ out, Z.heap.size ≤ x ∧ x < h'.size) d58_14 rfl (hw _ (List.mem_of_getElem? (i := 72) rfl)) (hw _ (List.mem_of_getElem? (i := 73) rfl)) (fun s hZ => nf_of (args := #[]) (mvT hZ (hw _ (List.mem_of_getElem? (i := 75) rfl))) rfl) (hw _ (List.mem_of_getElem? (i := 75) rfl)) (hw _ (List.mem_of_getElem? (i := 74) rfl)) FL.1 (by decide) (con_pay (conBPB B O4 (fun z hz => hM4 z (by simp only [List.mem_cons, List.not_mem_nil, or_false] at hz; first | (subst hz; simp; done) | (rcases hz with rfl | rfl <;> simp))) (Ne.symm nex.1) (Ne.symm nex.2) (Ne.symm nea.2) FL WL) (fun z hz => hM4 z (by simp only [List.mem_cons, List.not_mem_nil, or_false] at hz; first | (subst hz; simp; done) | (rcases hz with rfl | rfl <;> simp))) (hw _ (List.mem_of_getElem? (i := 76) rfl)) (hw _ (List.mem_of_getElem? (i := 56) rfl)) (by decide) (by decide)) rfl rfl (lenOf pd34 rfl) (Nat.le_of_ble_eq_true rfl) (by decide) (by decide) (fun v h' L hP => ?_) (by simp) (fun v h5 L hP => ?_)
  · obtain ⟨out, hq, N, -⟩ := hP; exact ⟨N, hq.2.2.1⟩
  obtain ⟨out, hq, -, X, hO⟩ := hP
  obtain ⟨rfl, rfl, K5, FH⟩ := hq
  refine ⟨[], all0, ?_⟩
  have X5 : Ext h h5 := ext_keep X4 K5 (allS hx (allS haa all0))
  rw [show (Int32.ofNat 1 + Int32.ofNat 15) = Int32.ofNat 16 by decide] at FH
  show Go l true Z consts_1 _ _ _ _ _ _ _ _ _ _ _ 17 #[.val (.ref n), .val (.ref y)] [(.ref x), (.ref n)]
  refine go_callV (q := 20) (y := (⟨"java/lang/StringBuilder", "toString", "()Ljava/lang/String;"⟩ : MethodName)) (W := 1) (argsL := []) (rest := [(.ref n)]) (ws := []) (P := fun v h' L => ∃ out, (QCR h5 v h' out) ∧ Fr Z.heap.size L ∧ Ext Z.heap h' ∧ ∀ x ∈ out, Z.heap.size ≤ x ∧ x < h'.size) d58_17 rfl (hw _ (List.mem_of_getElem? (i := 122) rfl)) (hw _ (List.mem_of_getElem? (i := 123) rfl)) (fun s hZ => nf_of (args := #[]) (mvT hZ (hw _ (List.mem_of_getElem? (i := 75) rfl))) rfl) (hw _ (List.mem_of_getElem? (i := 125) rfl)) (hw _ (List.mem_of_getElem? (i := 124) rfl)) FH.1 (by decide) (con_pay (conTS0 B X FH) all0 (hw _ (List.mem_of_getElem? (i := 126) rfl)) (hw _ (List.mem_of_getElem? (i := 56) rfl)) (by decide) (by decide)) rfl rfl (lenOf pd38 rfl) (Nat.le_of_ble_eq_true rfl) (by decide) (by decide) (fun v h' L hP => ?_) all0 (fun v h6 L hP => ?_)
  · obtain ⟨out, hq, N, -⟩ := hP; exact ⟨N, keep_ext hq.2.1 _⟩
  obtain ⟨out, hq, -, X, hO⟩ := hP
  obtain ⟨rfl, E6, ms, rfl⟩ := hq
  refine ⟨[], all0, ?_⟩
  have X6 : Ext h h6 := ext_tr X5 E6
  show Go l true Z consts_1 _ _ _ _ _ _ _ _ _ _ _ 20 #[.val (.ref n), .val (.ref y)] [(.ref ms), (.ref n)]
  refine go_pS (q := 23) (y := (⟨"java/util/Objects", "requireNonNull", "(Ljava/lang/Object;Ljava/lang/String;)Ljava/lang/Object;"⟩ : MethodName)) (W := 0) (argsL := [(.ref n), (.ref ms)]) (rest := []) (v := some (.ref n)) d58_20 rfl (hw _ (List.mem_of_getElem? (i := 165) rfl)) (hw _ (List.mem_of_getElem? (i := 166) rfl)) (hw _ (List.mem_of_getElem? (i := 167) rfl)) (hw _ (List.mem_of_getElem? (i := 168) rfl)) (by decide) (conRN B X) rfl rfl (lenOf pd24 rfl) (Nat.le_of_ble_eq_true rfl) (by decide) (by decide) rfl rfl (by decide) (by decide) ?_
  show Go l true Z consts_1 _ _ _ _ _ _ _ _ _ _ _ 23 #[.val (.ref n), .val (.ref y)] [(.ref n)]
  refine go_pop (q := 24) d58_23 rfl rfl ?_
  refine go_aloadN (q := 25) d58_24 rfl rfl rfl ?_
  have SV6 := SV.ext X6
  obtain ⟨A6, t6, k6, V6, r6⟩ := id SV6
  obtain ⟨N6, vs6, l6, u6, F6⟩ : ∃ (N : Nat) (vs : List Value), 1 ≤ N ∧ N ≤ 4000 ∧ Arv Z h6 t6 k6 .byte (Int32.ofNat N) vs (.int 0) := by
    rcases r6 with ⟨_, _, F⟩ | ⟨_, F⟩
    · exact ⟨_, _, h1n, by omega, F⟩
    · exact ⟨_, _, by omega, by omega, F⟩
  refine go_pV (q := 28) (y := (⟨"java/lang/String", "isEmpty", "()Z"⟩ : MethodName)) (W := 0) (argsL := []) (rest := []) (v := some (.int (0 : Int32))) d58_25 rfl (hw _ (List.mem_of_getElem? (i := 169) rfl)) (hw _ (List.mem_of_getElem? (i := 170) rfl)) (fun s hZ => nf_of (args := #[]) (mvT hZ (hw _ (List.mem_of_getElem? (i := 85) rfl))) rfl) (hw _ (List.mem_of_getElem? (i := 172) rfl)) (hw _ (List.mem_of_getElem? (i := 171) rfl)) A6 (hw _ (List.mem_of_getElem? (i := 173) rfl)) (hw _ (List.mem_of_getElem? (i := 8) rfl)) (by decide) (conEm B X V6 F6 l6 u6) rfl rfl (lenOf pd17 rfl) (Nat.le_of_ble_eq_true rfl) (by decide) (by decide) rfl rfl (by decide) (by decide) ?_
  show Go l true Z consts_1 _ _ _ _ _ _ _ _ _ _ _ 28 #[.val (.ref n), .val (.ref y)] [(.int (0 : Int32))]
  refine go_if (q := 39) (q2 := 31) d58_28 (by decide) (by decide) rfl (fun hc => absurd hc (by decide)) (fun _ => ?_)
  refine go_aloadN (q := 32) d58_31 rfl rfl rfl ?_
  refine go_iconst (q := 33) (z := (Int32.ofNat 0)) d58_32 rfl rfl ?_
  refine go_pV (q := 36) (y := (⟨"java/lang/String", "indexOf", "(I)I"⟩ : MethodName)) (W := 0) (argsL := [(.int (Int32.ofNat 0))]) (rest := []) (v := some (.int (-1 : Int32))) d58_33 rfl (hw _ (List.mem_of_getElem? (i := 174) rfl)) (hw _ (List.mem_of_getElem? (i := 175) rfl)) (fun s hZ => nf_of (args := #[]) (mvT hZ (hw _ (List.mem_of_getElem? (i := 85) rfl))) rfl) (hw _ (List.mem_of_getElem? (i := 177) rfl)) (hw _ (List.mem_of_getElem? (i := 176) rfl)) A6 (hw _ (List.mem_of_getElem? (i := 178) rfl)) (hw _ (List.mem_of_getElem? (i := 8) rfl)) (by decide) (conX1 B X h1n hn hp SV6) rfl rfl (lenOf pd3 rfl) (Nat.le_of_ble_eq_true rfl) (by decide) (by decide) rfl rfl (by decide) (by decide) ?_
  show Go l true Z consts_1 _ _ _ _ _ _ _ _ _ _ _ 36 #[.val (.ref n), .val (.ref y)] [(.int (-1 : Int32))]
  refine go_if (q := 75) (q2 := 39) d58_36 (by decide) (by decide) rfl (fun _ => ?_) (fun hc => absurd hc (by decide))
  refine go_aloadN (q := 76) d58_75 rfl rfl rfl ?_
  exact go_areturn (out := []) rfl rfl rfl rfl d58_76 ⟨rfl, rfl, X6⟩ all0 (by decide) (by decide)
abbrev r_conRqC : Room := { frames := 10, cells := 7, slots := 152, locals := 144 }
set_option maxRecDepth 65536 in
set_option maxHeartbeats 4000000 in
theorem conRqC {l : Launch} {Z : State} {a0 : Array Value} {G1 : Int32} {G3 : Value} {h : Heap} {n y t : Addr} {kb : ClassId} {cs : List Nat} (B : Base Z a0 G1 G3) (hEL : EW Z a0 consts_1) (E0 : Ext Z.heap h) (h1n : 1 ≤ cs.length) (hn : cs.length ≤ 4) (hp : ∀ c ∈ cs, 1 ≤ c ∧ c < 65536) (SV : StrV Z h n cs) (WS : WStr Z h y t kb (Int32.ofNat 1) 2) : Con l true Z consts_1 (⟨"com/example/steady_step/steadystep/machine/Names", "require", "(Ljava/lang/String;Ljava/lang/String;)Ljava/lang/String;"⟩ : MethodName) prog_12_method_2_code 2 (some (.object "java/lang/String")) [] r_conRqC #[(.ref n), (.ref y)] h [] (QRq h n) := by
  have hw := B.hw
  refine con_of_go pn9_Names (fun m => ef59 m n y) E0 ⟨a0, hEL⟩ ?_
  refine go_aloadN (q := 1) d58_0 rfl rfl rfl ?_
  refine go_new (q := 4) d58_1 rfl (hw _ (List.mem_of_getElem? (i := 54) rfl)) (hw _ (List.mem_of_getElem? (i := 55) rfl)) (hw _ (List.mem_of_getElem? (i := 56) rfl)) (by decide) (by decide) fun h1 x e1 E1 A1 D1 => ?_
  refine go_dup (q := 5) d58_4 rfl rfl ?_
  refine go_mine fun hM1 => ?_
  refine go_callI (q := 8) (y := (⟨"java/lang/StringBuilder", "<init>", "()V"⟩ : MethodName)) (W := 2) (argsL := []) (rest := [(.ref x), (.ref n)]) (ws := [x]) (P := fun v h' L => ∃ out, (QAI Z h1 x v h' out) ∧ Fr Z.heap.size L ∧ Ext Z.heap h' ∧ ∀ x ∈ out, Z.heap.size ≤ x ∧ x < h'.size) d58_5 rfl rfl (hw _ (List.mem_of_getElem? (i := 57) rfl)) (hw _ (List.mem_of_getElem? (i := 58) rfl)) (hw _ (List.mem_of_getElem? (i := 59) rfl)) (by decide) (con_pay (conBI B (ext_tr E0 E1) hM1 A1 (D1 (Or.inl (hw _ (List.mem_of_getElem? (i := 69) rfl))) (ty := .array .byte) (by decide +kernel)) (D1 (Or.inl (hw _ (List.mem_of_getElem? (i := 71) rfl))) (ty := .byte) (by decide +kernel)) (D1 (Or.inl (hw _ (List.mem_of_getElem? (i := 93) rfl))) (ty := .int) (by decide +kernel)) (D1 (Or.inl (hw _ (List.mem_of_getElem? (i := 258) rfl))) (ty := .boolean) (by decide +kernel))) hM1 (hw _ (List.mem_of_getElem? (i := 59) rfl)) (hw _ (List.mem_of_getElem? (i := 56) rfl)) (by decide) (by decide)) rfl rfl (lenOf pd26 rfl) (Nat.le_of_ble_eq_true rfl) (by decide) (by decide) (fun v h' L hP => ?_) (fun _ z => z) (fun v h2 L hP => ?_)
  · obtain ⟨out, hq, N, -⟩ := hP; exact ⟨N, hq.2.1⟩
  obtain ⟨out, hq, -, X, hO⟩ := hP
  obtain ⟨rfl, K2, a, k, rfl, ha, hb, FF⟩ := hq
  refine ⟨[a], allS ⟨ha, hb⟩ all0, ?_⟩
  show Go l true Z consts_1 _ _ _ _ _ _ _ _ _ _ _ 8 #[.val (.ref n), .val (.ref y)] [(.ref x), (.ref n)]
  refine go_aloadN (q := 9) d58_8 rfl rfl rfl ?_
  have hx : h.size ≤ x := Nat.le_of_eq e1.symm
  have haa : h.size ≤ a := Nat.le_trans E1.1 ha
  have X2 : Ext h h2 := ext_keep E1 K2 (allS hx all0)
  have ny : y ≠ x := Nat.ne_of_lt (Nat.lt_of_lt_of_le WS.1.lt hx)
  have nt : t ≠ x := Nat.ne_of_lt (Nat.lt_of_lt_of_le WS.2.2.2.lt hx)
  have nta : t ≠ a := Nat.ne_of_lt (Nat.lt_of_lt_of_le WS.2.2.2.lt haa)
  refine go_mine fun hM2 => ?_
  refine go_callV (q := 12) (y := (⟨"java/lang/StringBuilder", "append", "(Ljava/lang/String;)Ljava/lang/StringBuilder;"⟩ : MethodName)) (W := 1) (argsL := [(.ref y)]) (rest := [(.ref n)]) (ws := [x]) (P := fun v h' L => ∃ out, (QAB Z h2 x (Int32.ofNat 0 + Int32.ofNat 1) v h' out) ∧ Fr Z.heap.size L ∧ Ext Z.heap h' ∧ ∀ x ∈ out, Z.heap.size ≤ x ∧ x < h'.size) d58_9 rfl (hw _ (List.mem_of_getElem? (i := 72) rfl)) (hw _ (List.mem_of_getElem? (i := 73) rfl)) (fun s hZ => nf_of (args := #[]) (mvT hZ (hw _ (List.mem_of_getElem? (i := 75) rfl))) rfl) (hw _ (List.mem_of_getElem? (i := 75) rfl)) (hw _ (List.mem_of_getElem? (i := 74) rfl)) FF.1 (by decide) (con_pay (conBPC B X (fun z hz => hM2 z (by simp only [List.mem_cons, List.not_mem_nil, or_false] at hz; first | (subst hz; simp; done) | (rcases hz with rfl | rfl <;> simp))) ny nt nta FF (WS.ext X2)) (fun z hz => hM2 z (by simp only [List.mem_cons, List.not_mem_nil, or_false] at hz; first | (subst hz; simp; done) | (rcases hz with rfl | rfl <;> simp))) (hw _ (List.mem_of_getElem? (i := 76) rfl)) (hw _ (List.mem_of_getElem? (i := 56) rfl)) (by decide) (by decide)) rfl rfl (lenOf pd34 rfl) (Nat.le_of_ble_eq_true rfl) (by decide) (by decide) (fun v h' L hP => ?_) (by simp) (fun v h3 L hP => ?_)
  · obtain ⟨out, hq, N, -⟩ := hP; exact ⟨N, hq.2.1⟩
  obtain ⟨out, hq, -, X, hO⟩ := hP
  obtain ⟨rfl, K3, a2, k2, rfl, ha2, hb2, FG⟩ := hq
  refine ⟨[a2], allS ⟨ha2, hb2⟩ all0, ?_⟩
  have X3 : Ext h h3 := ext_keep X2 K3 (allS hx all0)
  have ha3 : h.size ≤ a2 := Nat.le_trans X2.1 ha2
  rw [show (Int32.ofNat 0 + Int32.ofNat 1) = Int32.ofNat 1 by decide] at FG
  show Go l true Z consts_1 _ _ _ _ _ _ _ _ _ _ _ 12 #[.val (.ref n), .val (.ref y)] [(.ref x), (.ref n)]
  refine go_ldcS (q := 14) (n := 60) (text := lit) (vs := litV) (z := Int32.ofNat 15) d58_12 rfl rfl (hw _ (List.mem_of_getElem? (i := 119) rfl)) (strAtoms hw) hEL (List.mem_of_getElem? (i := 0) rfl) ⟨by decide, rfl⟩ (by decide) (by decide) (by decide) (by decide) (by decide) (by decide) fun h4 sl bl kl E4 f1 f2 f3 f4 hne => ?_
  have WL : WStr Z h4 sl bl kl (Int32.ofNat 0) 15 := ⟨f1, f3, f2, litV, by decide, f4⟩
  have X4 : Ext h h4 := ext_tr X3 E4
  have FL := FG.ext E4
  have nex := hne x (by simp)
  have nea := hne a2 (by simp)
  refine go_old fun O4 => ?_
  refine go_mine fun hM4 => ?_
  refine go_callV (q := 17) (y := (⟨"java/lang/StringBuilder", "append", "(Ljava/lang/String;)Ljava/lang/StringBuilder;"⟩ : MethodName)) (W := 1) (argsL := [(.ref sl)]) (rest := [(.ref n)]) (ws := [x, a2]) (P := fun v h' L => ∃ out, (QAA Z h4 x a2 k2 (Int32.ofNat 1) (Int32.ofNat 1 + Int32.ofNat 15) 32 v h' out) ∧ Fr Z.heap.size L ∧ Ext Z.heap h' ∧ ∀ x ∈ out, Z.heap.size ≤ x ∧ x < h'.size) d58_14 rfl (hw _ (List.mem_of_getElem? (i := 72) rfl)) (hw _ (List.mem_of_getElem? (i := 73) rfl)) (fun s hZ => nf_of (args := #[]) (mvT hZ (hw _ (List.mem_of_getElem? (i := 75) rfl))) rfl) (hw _ (List.mem_of_getElem? (i := 75) rfl)) (hw _ (List.mem_of_getElem? (i := 74) rfl)) FL.1 (by decide) (con_pay (conBPD B O4 (fun z hz => hM4 z (by simp only [List.mem_cons, List.not_mem_nil, or_false] at hz; first | (subst hz; simp; done) | (rcases hz with rfl | rfl <;> simp))) (Ne.symm nex.1) (Ne.symm nex.2) (Ne.symm nea.2) FL WL) (fun z hz => hM4 z (by simp only [List.mem_cons, List.not_mem_nil, or_false] at hz; first | (subst hz; simp; done) | (rcases hz with rfl | rfl <;> simp))) (hw _ (List.mem_of_getElem? (i := 76) rfl)) (hw _ (List.mem_of_getElem? (i := 56) rfl)) (by decide) (by decide)) rfl rfl (lenOf pd34 rfl) (Nat.le_of_ble_eq_true rfl) (by decide) (by decide) (fun v h' L hP => ?_) (by simp) (fun v h5 L hP => ?_)
  · obtain ⟨out, hq, N, -⟩ := hP; exact ⟨N, hq.2.2.1⟩
  obtain ⟨out, hq, -, X, hO⟩ := hP
  obtain ⟨rfl, rfl, K5, FH⟩ := hq
  refine ⟨[], all0, ?_⟩
  have X5 : Ext h h5 := ext_keep X4 K5 (allS hx (allS ha3 all0))
  rw [show (Int32.ofNat 1 + Int32.ofNat 15) = Int32.ofNat 16 by decide] at FH
  show Go l true Z consts_1 _ _ _ _ _ _ _ _ _ _ _ 17 #[.val (.ref n), .val (.ref y)] [(.ref x), (.ref n)]
  refine go_callV (q := 20) (y := (⟨"java/lang/StringBuilder", "toString", "()Ljava/lang/String;"⟩ : MethodName)) (W := 1) (argsL := []) (rest := [(.ref n)]) (ws := []) (P := fun v h' L => ∃ out, (QCR h5 v h' out) ∧ Fr Z.heap.size L ∧ Ext Z.heap h' ∧ ∀ x ∈ out, Z.heap.size ≤ x ∧ x < h'.size) d58_17 rfl (hw _ (List.mem_of_getElem? (i := 122) rfl)) (hw _ (List.mem_of_getElem? (i := 123) rfl)) (fun s hZ => nf_of (args := #[]) (mvT hZ (hw _ (List.mem_of_getElem? (i := 75) rfl))) rfl) (hw _ (List.mem_of_getElem? (i := 125) rfl)) (hw _ (List.mem_of_getElem? (i := 124) rfl)) FH.1 (by decide) (con_pay (conTS1 B X FH) all0 (hw _ (List.mem_of_getElem? (i := 126) rfl)) (hw _ (List.mem_of_getElem? (i := 56) rfl)) (by decide) (by decide)) rfl rfl (lenOf pd38 rfl) (Nat.le_of_ble_eq_true rfl) (by decide) (by decide) (fun v h' L hP => ?_) all0 (fun v h6 L hP => ?_)
  · obtain ⟨out, hq, N, -⟩ := hP; exact ⟨N, keep_ext hq.2.1 _⟩
  obtain ⟨out, hq, -, X, hO⟩ := hP
  obtain ⟨rfl, E6, ms, rfl⟩ := hq
  refine ⟨[], all0, ?_⟩
  have X6 : Ext h h6 := ext_tr X5 E6
  show Go l true Z consts_1 _ _ _ _ _ _ _ _ _ _ _ 20 #[.val (.ref n), .val (.ref y)] [(.ref ms), (.ref n)]
  refine go_pS (q := 23) (y := (⟨"java/util/Objects", "requireNonNull", "(Ljava/lang/Object;Ljava/lang/String;)Ljava/lang/Object;"⟩ : MethodName)) (W := 0) (argsL := [(.ref n), (.ref ms)]) (rest := []) (v := some (.ref n)) d58_20 rfl (hw _ (List.mem_of_getElem? (i := 165) rfl)) (hw _ (List.mem_of_getElem? (i := 166) rfl)) (hw _ (List.mem_of_getElem? (i := 167) rfl)) (hw _ (List.mem_of_getElem? (i := 168) rfl)) (by decide) (conRN B X) rfl rfl (lenOf pd24 rfl) (Nat.le_of_ble_eq_true rfl) (by decide) (by decide) rfl rfl (by decide) (by decide) ?_
  show Go l true Z consts_1 _ _ _ _ _ _ _ _ _ _ _ 23 #[.val (.ref n), .val (.ref y)] [(.ref n)]
  refine go_pop (q := 24) d58_23 rfl rfl ?_
  refine go_aloadN (q := 25) d58_24 rfl rfl rfl ?_
  have SV6 := SV.ext X6
  obtain ⟨A6, t6, k6, V6, r6⟩ := id SV6
  obtain ⟨N6, vs6, l6, u6, F6⟩ : ∃ (N : Nat) (vs : List Value), 1 ≤ N ∧ N ≤ 4000 ∧ Arv Z h6 t6 k6 .byte (Int32.ofNat N) vs (.int 0) := by
    rcases r6 with ⟨_, _, F⟩ | ⟨_, F⟩
    · exact ⟨_, _, h1n, by omega, F⟩
    · exact ⟨_, _, by omega, by omega, F⟩
  refine go_pV (q := 28) (y := (⟨"java/lang/String", "isEmpty", "()Z"⟩ : MethodName)) (W := 0) (argsL := []) (rest := []) (v := some (.int (0 : Int32))) d58_25 rfl (hw _ (List.mem_of_getElem? (i := 169) rfl)) (hw _ (List.mem_of_getElem? (i := 170) rfl)) (fun s hZ => nf_of (args := #[]) (mvT hZ (hw _ (List.mem_of_getElem? (i := 85) rfl))) rfl) (hw _ (List.mem_of_getElem? (i := 172) rfl)) (hw _ (List.mem_of_getElem? (i := 171) rfl)) A6 (hw _ (List.mem_of_getElem? (i := 173) rfl)) (hw _ (List.mem_of_getElem? (i := 8) rfl)) (by decide) (conEm B X V6 F6 l6 u6) rfl rfl (lenOf pd17 rfl) (Nat.le_of_ble_eq_true rfl) (by decide) (by decide) rfl rfl (by decide) (by decide) ?_
  show Go l true Z consts_1 _ _ _ _ _ _ _ _ _ _ _ 28 #[.val (.ref n), .val (.ref y)] [(.int (0 : Int32))]
  refine go_if (q := 39) (q2 := 31) d58_28 (by decide) (by decide) rfl (fun hc => absurd hc (by decide)) (fun _ => ?_)
  refine go_aloadN (q := 32) d58_31 rfl rfl rfl ?_
  refine go_iconst (q := 33) (z := (Int32.ofNat 0)) d58_32 rfl rfl ?_
  refine go_pV (q := 36) (y := (⟨"java/lang/String", "indexOf", "(I)I"⟩ : MethodName)) (W := 0) (argsL := [(.int (Int32.ofNat 0))]) (rest := []) (v := some (.int (-1 : Int32))) d58_33 rfl (hw _ (List.mem_of_getElem? (i := 174) rfl)) (hw _ (List.mem_of_getElem? (i := 175) rfl)) (fun s hZ => nf_of (args := #[]) (mvT hZ (hw _ (List.mem_of_getElem? (i := 85) rfl))) rfl) (hw _ (List.mem_of_getElem? (i := 177) rfl)) (hw _ (List.mem_of_getElem? (i := 176) rfl)) A6 (hw _ (List.mem_of_getElem? (i := 178) rfl)) (hw _ (List.mem_of_getElem? (i := 8) rfl)) (by decide) (conX1 B X h1n hn hp SV6) rfl rfl (lenOf pd3 rfl) (Nat.le_of_ble_eq_true rfl) (by decide) (by decide) rfl rfl (by decide) (by decide) ?_
  show Go l true Z consts_1 _ _ _ _ _ _ _ _ _ _ _ 36 #[.val (.ref n), .val (.ref y)] [(.int (-1 : Int32))]
  refine go_if (q := 75) (q2 := 39) d58_36 (by decide) (by decide) rfl (fun _ => ?_) (fun hc => absurd hc (by decide))
  refine go_aloadN (q := 76) d58_75 rfl rfl rfl ?_
  exact go_areturn (out := []) rfl rfl rfl rfl d58_76 ⟨rfl, rfl, X6⟩ all0 (by decide) (by decide)
theorem own_eqI {args : Array Value} {s : State} {t : Term} {z : Int32} (h : (Cond.eq t (.int z)).value args s none s [] = some true) : t.eval args s none [] s = some (.int z) := by
  simp only [Cond.value, Term.eval] at h
  cases ht : t.eval args s none [] s with
  | none => simp [ht] at h
  | some v => cases v <;> simp [ht] at h ⊢; exact h
theorem own_eqR {args : Array Value} {s : State} {t u : Term} {a : Addr} (hu : u.eval args s none [] s = some (.ref a)) (h : (Cond.eq t u).value args s none s [] = some true) : t.eval args s none [] s = some (.ref a) := by
  simp only [Cond.value, hu] at h
  cases ht : t.eval args s none [] s with
  | none => simp [ht] at h
  | some v => cases v <;> simp [ht] at h ⊢; exact h
theorem own_len {args : Array Value} {s : State} {t : Term} {a : Addr} {cl : Cell} {ty : FieldType} {z : Int32} (ft : t.eval args s none [] s = some (.ref a)) (A : Arr s s.heap a cl ty) (h : (Cond.eq (.length t) (.int z)).value args s none s [] = some true) : cl.slots.size < 2 ^ 31 ∧ cl.slots.size.toInt32 = z := by
  have e := own_eqI h
  have hA : s.arrayAt? a = some cl := A.fin (Vm.Alike.refl _)
  simp only [Term.eval, ft, Option.bind_eq_bind, Option.bind_some, hA] at e
  by_cases q : cl.slots.size < 2 ^ 31
  · refine ⟨q, ?_⟩
    simpa [q] using e
  · simp [q] at e
theorem own_elemV {args : Array Value} {s : State} {t : Term} {a : Addr} {cl : Cell} {ty : FieldType} {v : Value} {j : Int32} {i : Nat} (ft : t.eval args s none [] s = some (.ref a)) (A : Arr s s.heap a cl ty) (e : (Term.elem t (.int j)).eval args s none [] s = some v) (hj : j.toNatClampNeg = i) : cl.slots[i]? = some v := by
  have q := (elem_in e ft (Term.int_eval j) A.1).2
  rw [hj] at q; exact q
theorem own_elemI {args : Array Value} {s : State} {t : Term} {a : Addr} {cl : Cell} {ty : FieldType} {z : Int32} {j : Int32} {i : Nat} (ft : t.eval args s none [] s = some (.ref a)) (A : Arr s s.heap a cl ty) (h : (Cond.eq (.elem t (.int j)) (.int z)).value args s none s [] = some true) (hj : j.toNatClampNeg = i) : cl.slots[i]? = some (.int z) := own_elemV ft A (own_eqI h) hj
theorem own_elemR {args : Array Value} {s : State} {t u : Term} {a b : Addr} {cl : Cell} {ty : FieldType} {j : Int32} {i : Nat} (ft : t.eval args s none [] s = some (.ref a)) (A : Arr s s.heap a cl ty) (h : (Cond.eq (.elem t (.int j)) u).value args s none s [] = some true) (hu : u.eval args s none [] s = some (.ref b)) (hj : j.toNatClampNeg = i) : cl.slots[i]? = some (.ref b) := own_elemV ft A (own_eqR hu h) hj
set_option maxRecDepth 65536 in
set_option maxHeartbeats 4000000 in
theorem own_157 {l : Launch} {Z : State} {a0 : Array Value} {G1 : Int32} {G3 : Value} (B : Base Z a0 G1 G3) (hEL : EW Z a0 consts_1) (p0 p1 p2 p3 p4 p5 n0 n1 n2 n3 : Int32) {h : Heap} {n : Addr} {cs : List Nat} {mine : List Addr} (h1n : 1 ≤ cs.length) (hn : cs.length ≤ 4) (hp : ∀ c ∈ cs, 1 ≤ c ∧ c < 65536) (SV : StrV Z h n cs) : Go l true Z consts_1 x.cls x.name code maxLocals ret room_1 (fun v _ _ => v = some (.int 1)) h mine 4 20 157 #[.val (.int p0), .val (.int p1), .val (.int p2), .val (.int p3), .val (.int p4), .val (.int p5), .val (.int (Int32.ofNat cs.length)), .val (.int n0), .val (.int n1), .val (.int n2), .val (.int n3), .val (.ref n), .unset, .unset] [] := by
  have hw := B.hw
  obtain ⟨kw, hkw, ew⟩ := and_small p5 65535 (by decide)
  refine go_iload (q := 159) at_157 rfl rfl ?_
  refine go_ldcI (q := 161) (v := (Int32.ofNat 65535)) at_159 rfl (hw _ (List.mem_of_getElem? (i := 5) rfl)) ?_
  refine go_iand (q := 162) at_161 rfl ?_
  rw [ew]
  refine go_i2c (q := 163) at_162 rfl ?_
  rw [narN kw (by omega)]
  refine go_old fun O1 => ?_
  refine go_callS (q := 166) (y := (⟨"java/lang/String", "valueOf", "(C)Ljava/lang/String;"⟩ : MethodName)) (W := 0) (argsL := [(.int (Int32.ofNat kw))]) (rest := []) (ws := []) (P := fun v h' L => ∃ out, (QVO Z h v h' out) ∧ Fr Z.heap.size L ∧ Ext Z.heap h' ∧ ∀ x ∈ out, Z.heap.size ≤ x ∧ x < h'.size) at_163 rfl (hw _ (List.mem_of_getElem? (i := 36) rfl)) (hw _ (List.mem_of_getElem? (i := 37) rfl)) (hw _ (List.mem_of_getElem? (i := 8) rfl)) (hw _ (List.mem_of_getElem? (i := 38) rfl)) (by decide) (con_pay (conVO B O1 (n := kw) (by omega)) all0 (hw _ (List.mem_of_getElem? (i := 38) rfl)) (hw _ (List.mem_of_getElem? (i := 8) rfl)) (by decide) (by decide)) rfl rfl (lenOf pd14 rfl) (Nat.le_of_ble_eq_true rfl) (by decide) (by decide) (fun v h' L hP => ?_) all0 (fun v h1 L hP => ?_)
  · obtain ⟨out, hq, N, -⟩ := hP; exact ⟨N, keep_ext hq.2.1 _⟩
  obtain ⟨out, hq, -, X, hO⟩ := hP
  obtain ⟨rfl, E1, y, t, kb, rfl, hWS⟩ := hq
  refine ⟨[], all0, ?_⟩
  show Go l true Z consts_1 _ _ _ _ _ _ _ _ _ _ _ 166 #[.val (.int p0), .val (.int p1), .val (.int p2), .val (.int p3), .val (.int p4), .val (.int p5), .val (.int (Int32.ofNat cs.length)), .val (.int n0), .val (.int n1), .val (.int n2), .val (.int n3), .val (.ref n), .unset, .unset] [(.ref y)]
  refine go_astore (q := 168) (l' := #[.val (.int p0), .val (.int p1), .val (.int p2), .val (.int p3), .val (.int p4), .val (.int p5), .val (.int (Int32.ofNat cs.length)), .val (.int n0), .val (.int n1), .val (.int n2), .val (.int n3), .val (.ref n), .val (.ref y), .unset]) at_166 rfl rfl rfl ?_
  refine go_aload (q := 170) at_168 rfl rfl rfl ?_
  refine go_aload (q := 172) at_170 rfl rfl rfl ?_
  rcases hWS with WS | WS
  · refine go_callSW (q := 175) (y := (⟨"com/example/steady_step/steadystep/machine/Names", "require", "(Ljava/lang/String;Ljava/lang/String;)Ljava/lang/String;"⟩ : MethodName)) (W := 0) (argsL := [(.ref n), (.ref y)]) (rest := []) at_172 rfl rfl (hw _ (List.mem_of_getElem? (i := 50) rfl)) (hw _ (List.mem_of_getElem? (i := 51) rfl)) (hw _ (List.mem_of_getElem? (i := 52) rfl)) (hw _ (List.mem_of_getElem? (i := 53) rfl)) (by decide) (conRqA B hEL X h1n hn hp (SV.ext E1) WS) (fun _ z => nomatch z) rfl rfl (lenOf pd39 rfl) (Nat.le_refl _) (by decide) (by decide) (by decide) (by decide) fun v h2 out hQ hsz => ?_
    obtain ⟨rfl, rfl, E2⟩ := hQ
    show Go l true Z consts_1 _ _ _ _ _ _ _ _ _ _ _ 175 #[.val (.int p0), .val (.int p1), .val (.int p2), .val (.int p3), .val (.int p4), .val (.int p5), .val (.int (Int32.ofNat cs.length)), .val (.int n0), .val (.int n1), .val (.int n2), .val (.int n3), .val (.ref n), .val (.ref y), .unset] [(.ref n)]
    refine go_astore (q := 177) (l' := #[.val (.int p0), .val (.int p1), .val (.int p2), .val (.int p3), .val (.int p4), .val (.int p5), .val (.int (Int32.ofNat cs.length)), .val (.int n0), .val (.int n1), .val (.int n2), .val (.int n3), .val (.ref n), .val (.ref y), .val (.ref n)]) at_175 rfl rfl rfl ?_
    refine go_aload (q := 179) at_177 rfl rfl rfl ?_
    refine go_aload (q := 181) at_179 rfl rfl rfl ?_
    refine go_acmp (q := 198) (q2 := 184) at_181 (by decide) (by decide) rfl rfl rfl (fun hc => absurd hc (by simp [XT.acmp])) (fun _ => ?_)
    refine go_aload (q := 186) at_184 rfl rfl rfl ?_
    refine go_old fun O2 => ?_
    obtain ⟨A, t2, k2, V, ⟨Cf, hsm, F⟩ | ⟨Cf, F⟩⟩ := (SV.ext E1).ext E2
    · refine go_pV (q := 189) (y := (⟨"java/lang/String", "length", "()I"⟩ : MethodName)) (W := 0) (argsL := []) (rest := []) (v := some (.int (Int32.ofNat cs.length))) at_186 rfl (hw _ (List.mem_of_getElem? (i := 206) rfl)) (hw _ (List.mem_of_getElem? (i := 83) rfl)) (fun s hZ => nf_of (args := #[]) (mvT hZ (hw _ (List.mem_of_getElem? (i := 85) rfl))) rfl) (hw _ (List.mem_of_getElem? (i := 85) rfl)) (hw _ (List.mem_of_getElem? (i := 84) rfl)) A (hw _ (List.mem_of_getElem? (i := 86) rfl)) (hw _ (List.mem_of_getElem? (i := 8) rfl)) (by decide) (conLn B O2 rfl A V Cf F (r := Int32.ofNat cs.length) (shr0 _)) rfl rfl (lenOf pd16 rfl) (Nat.le_of_ble_eq_true rfl) (by decide) (by decide) rfl rfl (by decide) (by decide) ?_
      show Go l true Z consts_1 _ _ _ _ _ _ _ _ _ _ _ 189 #[.val (.int p0), .val (.int p1), .val (.int p2), .val (.int p3), .val (.int p4), .val (.int p5), .val (.int (Int32.ofNat cs.length)), .val (.int n0), .val (.int n1), .val (.int n2), .val (.int n3), .val (.ref n), .val (.ref y), .val (.ref n)] [(.int (Int32.ofNat cs.length))]
      refine go_iload (q := 191) at_189 rfl rfl ?_
      refine go_icmp (q := 198) (q2 := 194) at_191 (by decide) (by decide) rfl (fun hc => absurd hc (by rw [ic_ne _ _ (by omega) (by omega), decide_eq_true_iff]; omega)) (fun _ => ?_)
      refine go_iconst (q := 195) (z := (1 : Int32)) at_194 rfl rfl ?_
      refine go_goto (q := 199) at_195 (by decide) (by decide) ?_
      exact go_ireturn (out := []) rfl (by simp) rfl at_199 rfl all0 (by decide) (by decide)
    · refine go_pV (q := 189) (y := (⟨"java/lang/String", "length", "()I"⟩ : MethodName)) (W := 0) (argsL := []) (rest := []) (v := some (.int (Int32.ofNat cs.length))) at_186 rfl (hw _ (List.mem_of_getElem? (i := 206) rfl)) (hw _ (List.mem_of_getElem? (i := 83) rfl)) (fun s hZ => nf_of (args := #[]) (mvT hZ (hw _ (List.mem_of_getElem? (i := 85) rfl))) rfl) (hw _ (List.mem_of_getElem? (i := 85) rfl)) (hw _ (List.mem_of_getElem? (i := 84) rfl)) A (hw _ (List.mem_of_getElem? (i := 86) rfl)) (hw _ (List.mem_of_getElem? (i := 8) rfl)) (by decide) (conLn B O2 rfl A V Cf F (r := Int32.ofNat cs.length) (shr1 cs.length (by omega))) rfl rfl (lenOf pd16 rfl) (Nat.le_of_ble_eq_true rfl) (by decide) (by decide) rfl rfl (by decide) (by decide) ?_
      show Go l true Z consts_1 _ _ _ _ _ _ _ _ _ _ _ 189 #[.val (.int p0), .val (.int p1), .val (.int p2), .val (.int p3), .val (.int p4), .val (.int p5), .val (.int (Int32.ofNat cs.length)), .val (.int n0), .val (.int n1), .val (.int n2), .val (.int n3), .val (.ref n), .val (.ref y), .val (.ref n)] [(.int (Int32.ofNat cs.length))]
      refine go_iload (q := 191) at_189 rfl rfl ?_
      refine go_icmp (q := 198) (q2 := 194) at_191 (by decide) (by decide) rfl (fun hc => absurd hc (by rw [ic_ne _ _ (by omega) (by omega), decide_eq_true_iff]; omega)) (fun _ => ?_)
      refine go_iconst (q := 195) (z := (1 : Int32)) at_194 rfl rfl ?_
      refine go_goto (q := 199) at_195 (by decide) (by decide) ?_
      exact go_ireturn (out := []) rfl (by simp) rfl at_199 rfl all0 (by decide) (by decide)
  · refine go_callSW (q := 175) (y := (⟨"com/example/steady_step/steadystep/machine/Names", "require", "(Ljava/lang/String;Ljava/lang/String;)Ljava/lang/String;"⟩ : MethodName)) (W := 0) (argsL := [(.ref n), (.ref y)]) (rest := []) at_172 rfl rfl (hw _ (List.mem_of_getElem? (i := 50) rfl)) (hw _ (List.mem_of_getElem? (i := 51) rfl)) (hw _ (List.mem_of_getElem? (i := 52) rfl)) (hw _ (List.mem_of_getElem? (i := 53) rfl)) (by decide) (conRqC B hEL X h1n hn hp (SV.ext E1) WS) (fun _ z => nomatch z) rfl rfl (lenOf pd39 rfl) (Nat.le_refl _) (by decide) (by decide) (by decide) (by decide) fun v h2 out hQ hsz => ?_
    obtain ⟨rfl, rfl, E2⟩ := hQ
    show Go l true Z consts_1 _ _ _ _ _ _ _ _ _ _ _ 175 #[.val (.int p0), .val (.int p1), .val (.int p2), .val (.int p3), .val (.int p4), .val (.int p5), .val (.int (Int32.ofNat cs.length)), .val (.int n0), .val (.int n1), .val (.int n2), .val (.int n3), .val (.ref n), .val (.ref y), .unset] [(.ref n)]
    refine go_astore (q := 177) (l' := #[.val (.int p0), .val (.int p1), .val (.int p2), .val (.int p3), .val (.int p4), .val (.int p5), .val (.int (Int32.ofNat cs.length)), .val (.int n0), .val (.int n1), .val (.int n2), .val (.int n3), .val (.ref n), .val (.ref y), .val (.ref n)]) at_175 rfl rfl rfl ?_
    refine go_aload (q := 179) at_177 rfl rfl rfl ?_
    refine go_aload (q := 181) at_179 rfl rfl rfl ?_
    refine go_acmp (q := 198) (q2 := 184) at_181 (by decide) (by decide) rfl rfl rfl (fun hc => absurd hc (by simp [XT.acmp])) (fun _ => ?_)
    refine go_aload (q := 186) at_184 rfl rfl rfl ?_
    refine go_old fun O2 => ?_
    obtain ⟨A, t2, k2, V, ⟨Cf, hsm, F⟩ | ⟨Cf, F⟩⟩ := (SV.ext E1).ext E2
    · refine go_pV (q := 189) (y := (⟨"java/lang/String", "length", "()I"⟩ : MethodName)) (W := 0) (argsL := []) (rest := []) (v := some (.int (Int32.ofNat cs.length))) at_186 rfl (hw _ (List.mem_of_getElem? (i := 206) rfl)) (hw _ (List.mem_of_getElem? (i := 83) rfl)) (fun s hZ => nf_of (args := #[]) (mvT hZ (hw _ (List.mem_of_getElem? (i := 85) rfl))) rfl) (hw _ (List.mem_of_getElem? (i := 85) rfl)) (hw _ (List.mem_of_getElem? (i := 84) rfl)) A (hw _ (List.mem_of_getElem? (i := 86) rfl)) (hw _ (List.mem_of_getElem? (i := 8) rfl)) (by decide) (conLn B O2 rfl A V Cf F (r := Int32.ofNat cs.length) (shr0 _)) rfl rfl (lenOf pd16 rfl) (Nat.le_of_ble_eq_true rfl) (by decide) (by decide) rfl rfl (by decide) (by decide) ?_
      show Go l true Z consts_1 _ _ _ _ _ _ _ _ _ _ _ 189 #[.val (.int p0), .val (.int p1), .val (.int p2), .val (.int p3), .val (.int p4), .val (.int p5), .val (.int (Int32.ofNat cs.length)), .val (.int n0), .val (.int n1), .val (.int n2), .val (.int n3), .val (.ref n), .val (.ref y), .val (.ref n)] [(.int (Int32.ofNat cs.length))]
      refine go_iload (q := 191) at_189 rfl rfl ?_
      refine go_icmp (q := 198) (q2 := 194) at_191 (by decide) (by decide) rfl (fun hc => absurd hc (by rw [ic_ne _ _ (by omega) (by omega), decide_eq_true_iff]; omega)) (fun _ => ?_)
      refine go_iconst (q := 195) (z := (1 : Int32)) at_194 rfl rfl ?_
      refine go_goto (q := 199) at_195 (by decide) (by decide) ?_
      exact go_ireturn (out := []) rfl (by simp) rfl at_199 rfl all0 (by decide) (by decide)
    · refine go_pV (q := 189) (y := (⟨"java/lang/String", "length", "()I"⟩ : MethodName)) (W := 0) (argsL := []) (rest := []) (v := some (.int (Int32.ofNat cs.length))) at_186 rfl (hw _ (List.mem_of_getElem? (i := 206) rfl)) (hw _ (List.mem_of_getElem? (i := 83) rfl)) (fun s hZ => nf_of (args := #[]) (mvT hZ (hw _ (List.mem_of_getElem? (i := 85) rfl))) rfl) (hw _ (List.mem_of_getElem? (i := 85) rfl)) (hw _ (List.mem_of_getElem? (i := 84) rfl)) A (hw _ (List.mem_of_getElem? (i := 86) rfl)) (hw _ (List.mem_of_getElem? (i := 8) rfl)) (by decide) (conLn B O2 rfl A V Cf F (r := Int32.ofNat cs.length) (shr1 cs.length (by omega))) rfl rfl (lenOf pd16 rfl) (Nat.le_of_ble_eq_true rfl) (by decide) (by decide) rfl rfl (by decide) (by decide) ?_
      show Go l true Z consts_1 _ _ _ _ _ _ _ _ _ _ _ 189 #[.val (.int p0), .val (.int p1), .val (.int p2), .val (.int p3), .val (.int p4), .val (.int p5), .val (.int (Int32.ofNat cs.length)), .val (.int n0), .val (.int n1), .val (.int n2), .val (.int n3), .val (.ref n), .val (.ref y), .val (.ref n)] [(.int (Int32.ofNat cs.length))]
      refine go_iload (q := 191) at_189 rfl rfl ?_
      refine go_icmp (q := 198) (q2 := 194) at_191 (by decide) (by decide) rfl (fun hc => absurd hc (by rw [ic_ne _ _ (by omega) (by omega), decide_eq_true_iff]; omega)) (fun _ => ?_)
      refine go_iconst (q := 195) (z := (1 : Int32)) at_194 rfl rfl ?_
      refine go_goto (q := 199) at_195 (by decide) (by decide) ?_
      exact go_ireturn (out := []) rfl (by simp) rfl at_199 rfl all0 (by decide) (by decide)
theorem narC (n : Nat) (h : n < 65536) : nar .char (Int32.ofNat n) = Int32.ofNat n := narN n h
theorem ef_law (m : MethodId) (p0 p1 p2 p3 p4 p5 : Int32) : entryFrame m #[(.int p0), (.int p1), (.int p2), (.int p3), (.int p4), (.int p5)] maxLocals = mkF m 0 #[.val (.int p0), .val (.int p1), .val (.int p2), .val (.int p3), .val (.int p4), .val (.int p5), .unset, .unset, .unset, .unset, .unset, .unset, .unset, .unset] [] := by first | (simp [entryFrame, mkF, argsToLocals, Value.category, maxLocals]; done) | rfl
set_option maxRecDepth 65536 in
set_option maxHeartbeats 4000000 in
theorem own_law {l : Launch} {Z : State} {a0 : Array Value} {G1 : Int32} {G3 : Value} (B : Base Z a0 G1 G3) (hEL : EW Z a0 consts_1) (p0 p1 p2 p3 p4 p5 : Int32) (ws : List Jvm.Cond) : Con l true Z consts_1 x code maxLocals ret ws room_1 #[(.int p0), (.int p1), (.int p2), (.int p3), (.int p4), (.int p5)] Z.heap [] (fun v _ _ => v = some (.int 1)) := by
  have hw := B.hw
  have E0 := ext_refl Z.heap
  obtain ⟨kl, hkl, el⟩ := and_small p0 3 (by decide)
  obtain ⟨n0, q0, r0, conNN0⟩ := conNN (l := l) B E0 p1
  obtain ⟨n1, q1, r1, conNN1⟩ := conNN (l := l) B E0 p2
  obtain ⟨n2, q2, r2, conNN2⟩ := conNN (l := l) B E0 p3
  obtain ⟨n3, q3, r3, conNN3⟩ := conNN (l := l) B E0 p4
  refine con_of_go pn0_NamesRequirePinLaw (fun m => ef_law m p0 p1 p2 p3 p4 p5) E0 ⟨a0, hEL⟩ ?_
  refine go_iloadN (q := 1) at_0 rfl rfl ?_
  refine go_iconst (q := 2) (z := (Int32.ofNat 3)) at_1 rfl rfl ?_
  refine go_iand (q := 3) at_2 rfl ?_
  rw [el]
  refine go_iconst (q := 4) (z := (Int32.ofNat 1)) at_3 rfl rfl ?_
  refine go_iadd (q := 5) at_4 rfl ?_
  rw [show Int32.ofNat kl + Int32.ofNat 1 = Int32.ofNat (kl + 1) from Jvm.Free.XT.add32n kl 1]
  refine go_istore (q := 7) (l' := #[.val (.int p0), .val (.int p1), .val (.int p2), .val (.int p3), .val (.int p4), .val (.int p5), .val (.int (Int32.ofNat (kl + 1))), .unset, .unset, .unset, .unset, .unset, .unset, .unset]) at_5 rfl rfl ?_
  refine go_iloadN (q := 8) at_7 rfl rfl ?_
  refine go_pS (q := 11) (y := (⟨"com/example/steady_step/steadystep/machine/NamesRequirePinLaw", "nonNul", "(I)C"⟩ : MethodName)) (W := 0) (argsL := [(.int p1)]) (rest := []) (v := some (.int (Int32.ofNat n0))) at_8 rfl (hw _ (List.mem_of_getElem? (i := 0) rfl)) (hw _ (List.mem_of_getElem? (i := 1) rfl)) (hw _ (List.mem_of_getElem? (i := 2) rfl)) (hw _ (List.mem_of_getElem? (i := 3) rfl)) (by decide) (conNN0) rfl rfl (lenOf pd0 rfl) (Nat.le_of_ble_eq_true rfl) (by decide) (by decide) rfl rfl (by decide) (by decide) ?_
  show Go l true Z consts_1 _ _ _ _ _ _ _ _ _ _ _ 11 #[.val (.int p0), .val (.int p1), .val (.int p2), .val (.int p3), .val (.int p4), .val (.int p5), .val (.int (Int32.ofNat (kl + 1))), .unset, .unset, .unset, .unset, .unset, .unset, .unset] [(.int (Int32.ofNat n0))]
  refine go_istore (q := 13) (l' := #[.val (.int p0), .val (.int p1), .val (.int p2), .val (.int p3), .val (.int p4), .val (.int p5), .val (.int (Int32.ofNat (kl + 1))), .val (.int (Int32.ofNat n0)), .unset, .unset, .unset, .unset, .unset, .unset]) at_11 rfl rfl ?_
  refine go_iloadN (q := 14) at_13 rfl rfl ?_
  refine go_pS (q := 17) (y := (⟨"com/example/steady_step/steadystep/machine/NamesRequirePinLaw", "nonNul", "(I)C"⟩ : MethodName)) (W := 0) (argsL := [(.int p2)]) (rest := []) (v := some (.int (Int32.ofNat n1))) at_14 rfl (hw _ (List.mem_of_getElem? (i := 0) rfl)) (hw _ (List.mem_of_getElem? (i := 1) rfl)) (hw _ (List.mem_of_getElem? (i := 2) rfl)) (hw _ (List.mem_of_getElem? (i := 3) rfl)) (by decide) (conNN1) rfl rfl (lenOf pd0 rfl) (Nat.le_of_ble_eq_true rfl) (by decide) (by decide) rfl rfl (by decide) (by decide) ?_
  show Go l true Z consts_1 _ _ _ _ _ _ _ _ _ _ _ 17 #[.val (.int p0), .val (.int p1), .val (.int p2), .val (.int p3), .val (.int p4), .val (.int p5), .val (.int (Int32.ofNat (kl + 1))), .val (.int (Int32.ofNat n0)), .unset, .unset, .unset, .unset, .unset, .unset] [(.int (Int32.ofNat n1))]
  refine go_istore (q := 19) (l' := #[.val (.int p0), .val (.int p1), .val (.int p2), .val (.int p3), .val (.int p4), .val (.int p5), .val (.int (Int32.ofNat (kl + 1))), .val (.int (Int32.ofNat n0)), .val (.int (Int32.ofNat n1)), .unset, .unset, .unset, .unset, .unset]) at_17 rfl rfl ?_
  refine go_iloadN (q := 20) at_19 rfl rfl ?_
  refine go_pS (q := 23) (y := (⟨"com/example/steady_step/steadystep/machine/NamesRequirePinLaw", "nonNul", "(I)C"⟩ : MethodName)) (W := 0) (argsL := [(.int p3)]) (rest := []) (v := some (.int (Int32.ofNat n2))) at_20 rfl (hw _ (List.mem_of_getElem? (i := 0) rfl)) (hw _ (List.mem_of_getElem? (i := 1) rfl)) (hw _ (List.mem_of_getElem? (i := 2) rfl)) (hw _ (List.mem_of_getElem? (i := 3) rfl)) (by decide) (conNN2) rfl rfl (lenOf pd0 rfl) (Nat.le_of_ble_eq_true rfl) (by decide) (by decide) rfl rfl (by decide) (by decide) ?_
  show Go l true Z consts_1 _ _ _ _ _ _ _ _ _ _ _ 23 #[.val (.int p0), .val (.int p1), .val (.int p2), .val (.int p3), .val (.int p4), .val (.int p5), .val (.int (Int32.ofNat (kl + 1))), .val (.int (Int32.ofNat n0)), .val (.int (Int32.ofNat n1)), .unset, .unset, .unset, .unset, .unset] [(.int (Int32.ofNat n2))]
  refine go_istore (q := 25) (l' := #[.val (.int p0), .val (.int p1), .val (.int p2), .val (.int p3), .val (.int p4), .val (.int p5), .val (.int (Int32.ofNat (kl + 1))), .val (.int (Int32.ofNat n0)), .val (.int (Int32.ofNat n1)), .val (.int (Int32.ofNat n2)), .unset, .unset, .unset, .unset]) at_23 rfl rfl ?_
  refine go_iload (q := 27) at_25 rfl rfl ?_
  refine go_pS (q := 30) (y := (⟨"com/example/steady_step/steadystep/machine/NamesRequirePinLaw", "nonNul", "(I)C"⟩ : MethodName)) (W := 0) (argsL := [(.int p4)]) (rest := []) (v := some (.int (Int32.ofNat n3))) at_27 rfl (hw _ (List.mem_of_getElem? (i := 0) rfl)) (hw _ (List.mem_of_getElem? (i := 1) rfl)) (hw _ (List.mem_of_getElem? (i := 2) rfl)) (hw _ (List.mem_of_getElem? (i := 3) rfl)) (by decide) (conNN3) rfl rfl (lenOf pd0 rfl) (Nat.le_of_ble_eq_true rfl) (by decide) (by decide) rfl rfl (by decide) (by decide) ?_
  show Go l true Z consts_1 _ _ _ _ _ _ _ _ _ _ _ 30 #[.val (.int p0), .val (.int p1), .val (.int p2), .val (.int p3), .val (.int p4), .val (.int p5), .val (.int (Int32.ofNat (kl + 1))), .val (.int (Int32.ofNat n0)), .val (.int (Int32.ofNat n1)), .val (.int (Int32.ofNat n2)), .unset, .unset, .unset, .unset] [(.int (Int32.ofNat n3))]
  refine go_istore (q := 32) (l' := #[.val (.int p0), .val (.int p1), .val (.int p2), .val (.int p3), .val (.int p4), .val (.int p5), .val (.int (Int32.ofNat (kl + 1))), .val (.int (Int32.ofNat n0)), .val (.int (Int32.ofNat n1)), .val (.int (Int32.ofNat n2)), .val (.int (Int32.ofNat n3)), .unset, .unset, .unset]) at_30 rfl rfl ?_
  have hk4 : kl = 0 ∨ kl = 1 ∨ kl = 2 ∨ kl = 3 := by omega
  rcases hk4 with rfl | rfl | rfl | rfl
  · refine go_iload (q := 34) at_32 rfl rfl ?_
    refine go_iconst (q := 35) (z := (Int32.ofNat 1)) at_34 rfl rfl ?_
    refine go_icmp (q := 58) (q2 := 38) at_35 (by decide) (by decide) rfl (fun hc => absurd hc (by decide)) (fun _ => ?_)
    refine go_new (q := 41) at_38 rfl (hw _ (List.mem_of_getElem? (i := 6) rfl)) (hw _ (List.mem_of_getElem? (i := 7) rfl)) (hw _ (List.mem_of_getElem? (i := 8) rfl)) (by decide) (by decide) fun h1 s1 e1 E1 A1 D1 => ?_
    refine go_dup (q := 42) at_41 rfl rfl ?_
    refine go_iconst (q := 43) (z := (Int32.ofNat 1)) at_42 rfl rfl ?_
    refine go_newarray (q := 45) (cap := 1) (ad := "[C") at_43 rfl (hw _ (List.mem_of_getElem? (i := 9) rfl)) (by decide) (by decide) (by decide) (by decide) (by decide) rfl fun h2 b k2 e2 E2 F2 B2 => ?_
    have R1 : Arv Z h2 b k2 .char (Int32.ofNat 1) [.int 0] (.int 0) := F2.pad (pad_rep [] (.int 0) 1)
    refine go_dup (q := 46) at_45 rfl rfl ?_
    refine go_iconst (q := 47) (z := (Int32.ofNat 0)) at_46 rfl rfl ?_
    refine go_iload (q := 49) at_47 rfl rfl ?_
    refine go_castore (q := 50) (i := 0) at_49 rfl R1 (by decide) (by decide) (Nat.le_of_ble_eq_true rfl) (List.mem_cons_self ..) fun g0 J0 Q0 => ?_
    have KK := ((Keep.refl h2 [b]).trans J0 (fun x hx => Or.inl hx))
    rw [narC n0 r0] at Q0
    have RR : Arv Z g0 b k2 .char (Int32.ofNat ([n0] : List Nat).length) (([n0] : List Nat).map iv) (.int 0) := Q0
    have hp : ∀ c ∈ ([n0] : List Nat), 1 ≤ c ∧ c < 65536 := fun c hc => by simp only [List.mem_cons, List.not_mem_nil, or_false] at hc; rcases hc with rfl <;> exact ⟨by assumption, by assumption⟩
    have ns : s1 ≠ b := by rw [e2]; exact Nat.ne_of_lt A1.lt
    refine go_old fun OO => ?_
    refine go_mine fun hM => ?_
    refine go_callI (q := 53) (y := (⟨"java/lang/String", "<init>", "([C)V"⟩ : MethodName)) (W := 1) (argsL := [(.ref b)]) (rest := [(.ref s1)]) (ws := [s1]) (P := fun v h' L => ∃ out, (QS Z g0 s1 [n0] v h' out) ∧ Fr Z.heap.size L ∧ Ext Z.heap h' ∧ ∀ x ∈ out, Z.heap.size ≤ x ∧ x < h'.size) at_50 rfl rfl (hw _ (List.mem_of_getElem? (i := 10) rfl)) (hw _ (List.mem_of_getElem? (i := 11) rfl)) (hw _ (List.mem_of_getElem? (i := 12) rfl)) (by decide) (con_pay (conS1 B OO (fun z hz => hM z (by simp only [List.mem_cons, List.not_mem_nil, or_false] at hz; first | (subst hz; simp; done) | (rcases hz with rfl | rfl <;> simp))) (Nat.le_of_ble_eq_true rfl) (Nat.le_of_ble_eq_true rfl) (fun c hc => (hp c hc).2) RR ((A1.ext E2).keep KK) (((D1 (Or.inr (hw _ (List.mem_of_getElem? (i := 35) rfl))) (ty := .array .byte) (by decide +kernel)).ext E2).keep KK (ninS ns nin0)) (((D1 (Or.inr (hw _ (List.mem_of_getElem? (i := 33) rfl))) (ty := .byte) (by decide +kernel)).ext E2).keep KK (ninS ns nin0))) (fun z hz => hM z (by simp only [List.mem_cons, List.not_mem_nil, or_false] at hz; first | (subst hz; simp; done) | (rcases hz with rfl | rfl <;> simp))) (hw _ (List.mem_of_getElem? (i := 12) rfl)) (hw _ (List.mem_of_getElem? (i := 8) rfl)) (by decide) (by decide)) rfl rfl (lenOf pd11 rfl) (Nat.le_of_ble_eq_true rfl) (by decide) (by decide) (fun v h' L hP => ?_) (by simp) (fun v h3 L hP => ?_)
    · obtain ⟨out, hq, N, -⟩ := hP; exact ⟨N, hq.2.2.1⟩
    obtain ⟨out, hq, -, X, hO⟩ := hP
    obtain ⟨rfl, rfl, K4, SV⟩ := hq
    refine ⟨[], all0, ?_⟩
    show Go l true Z consts_1 _ _ _ _ _ _ _ _ _ _ _ 53 #[.val (.int p0), .val (.int p1), .val (.int p2), .val (.int p3), .val (.int p4), .val (.int p5), .val (.int (Int32.ofNat (0 + 1))), .val (.int (Int32.ofNat n0)), .val (.int (Int32.ofNat n1)), .val (.int (Int32.ofNat n2)), .val (.int (Int32.ofNat n3)), .unset, .unset, .unset] [(.ref s1)]
    refine go_astore (q := 55) (l' := #[.val (.int p0), .val (.int p1), .val (.int p2), .val (.int p3), .val (.int p4), .val (.int p5), .val (.int (Int32.ofNat (0 + 1))), .val (.int (Int32.ofNat n0)), .val (.int (Int32.ofNat n1)), .val (.int (Int32.ofNat n2)), .val (.int (Int32.ofNat n3)), .val (.ref s1), .unset, .unset]) at_53 rfl rfl rfl ?_
    refine go_goto (q := 157) at_55 (by decide) (by decide) ?_
    refine go_more (kc2 := 4) (kn2 := 20) (by decide) (by decide) ?_
    exact own_157 B hEL p0 p1 p2 p3 p4 p5 (Int32.ofNat n0) (Int32.ofNat n1) (Int32.ofNat n2) (Int32.ofNat n3) (Nat.le_of_ble_eq_true rfl) (Nat.le_of_ble_eq_true rfl) hp SV
  · refine go_iload (q := 34) at_32 rfl rfl ?_
    refine go_iconst (q := 35) (z := (Int32.ofNat 1)) at_34 rfl rfl ?_
    refine go_icmp (q := 58) (q2 := 38) at_35 (by decide) (by decide) rfl (fun _ => ?_) (fun hc => absurd hc (by decide))
    refine go_iload (q := 60) at_58 rfl rfl ?_
    refine go_iconst (q := 61) (z := (Int32.ofNat 2)) at_60 rfl rfl ?_
    refine go_icmp (q := 89) (q2 := 64) at_61 (by decide) (by decide) rfl (fun hc => absurd hc (by decide)) (fun _ => ?_)
    refine go_new (q := 67) at_64 rfl (hw _ (List.mem_of_getElem? (i := 6) rfl)) (hw _ (List.mem_of_getElem? (i := 7) rfl)) (hw _ (List.mem_of_getElem? (i := 8) rfl)) (by decide) (by decide) fun h1 s1 e1 E1 A1 D1 => ?_
    refine go_dup (q := 68) at_67 rfl rfl ?_
    refine go_iconst (q := 69) (z := (Int32.ofNat 2)) at_68 rfl rfl ?_
    refine go_newarray (q := 71) (cap := 2) (ad := "[C") at_69 rfl (hw _ (List.mem_of_getElem? (i := 9) rfl)) (by decide) (by decide) (by decide) (by decide) (by decide) rfl fun h2 b k2 e2 E2 F2 B2 => ?_
    have R1 : Arv Z h2 b k2 .char (Int32.ofNat 2) [.int 0, .int 0] (.int 0) := F2.pad (pad_rep [] (.int 0) 2)
    refine go_dup (q := 72) at_71 rfl rfl ?_
    refine go_iconst (q := 73) (z := (Int32.ofNat 0)) at_72 rfl rfl ?_
    refine go_iload (q := 75) at_73 rfl rfl ?_
    refine go_castore (q := 76) (i := 0) at_75 rfl R1 (by decide) (by decide) (Nat.le_of_ble_eq_true rfl) (List.mem_cons_self ..) fun g0 J0 Q0 => ?_
    refine go_dup (q := 77) at_76 rfl rfl ?_
    refine go_iconst (q := 78) (z := (Int32.ofNat 1)) at_77 rfl rfl ?_
    refine go_iload (q := 80) at_78 rfl rfl ?_
    refine go_castore (q := 81) (i := 1) at_80 rfl Q0 (by decide) (by decide) (Nat.le_of_ble_eq_true rfl) (List.mem_cons_self ..) fun g1 J1 Q1 => ?_
    have KK := (((Keep.refl h2 [b]).trans J0 (fun x hx => Or.inl hx)).trans J1 (fun x hx => Or.inl hx))
    rw [narC n0 r0, narC n1 r1] at Q1
    have RR : Arv Z g1 b k2 .char (Int32.ofNat ([n0, n1] : List Nat).length) (([n0, n1] : List Nat).map iv) (.int 0) := Q1
    have hp : ∀ c ∈ ([n0, n1] : List Nat), 1 ≤ c ∧ c < 65536 := fun c hc => by simp only [List.mem_cons, List.not_mem_nil, or_false] at hc; rcases hc with rfl | rfl <;> exact ⟨by assumption, by assumption⟩
    have ns : s1 ≠ b := by rw [e2]; exact Nat.ne_of_lt A1.lt
    refine go_old fun OO => ?_
    refine go_mine fun hM => ?_
    refine go_callI (q := 84) (y := (⟨"java/lang/String", "<init>", "([C)V"⟩ : MethodName)) (W := 1) (argsL := [(.ref b)]) (rest := [(.ref s1)]) (ws := [s1]) (P := fun v h' L => ∃ out, (QS Z g1 s1 [n0, n1] v h' out) ∧ Fr Z.heap.size L ∧ Ext Z.heap h' ∧ ∀ x ∈ out, Z.heap.size ≤ x ∧ x < h'.size) at_81 rfl rfl (hw _ (List.mem_of_getElem? (i := 10) rfl)) (hw _ (List.mem_of_getElem? (i := 11) rfl)) (hw _ (List.mem_of_getElem? (i := 12) rfl)) (by decide) (con_pay (conS1 B OO (fun z hz => hM z (by simp only [List.mem_cons, List.not_mem_nil, or_false] at hz; first | (subst hz; simp; done) | (rcases hz with rfl | rfl <;> simp))) (Nat.le_of_ble_eq_true rfl) (Nat.le_of_ble_eq_true rfl) (fun c hc => (hp c hc).2) RR ((A1.ext E2).keep KK) (((D1 (Or.inr (hw _ (List.mem_of_getElem? (i := 35) rfl))) (ty := .array .byte) (by decide +kernel)).ext E2).keep KK (ninS ns nin0)) (((D1 (Or.inr (hw _ (List.mem_of_getElem? (i := 33) rfl))) (ty := .byte) (by decide +kernel)).ext E2).keep KK (ninS ns nin0))) (fun z hz => hM z (by simp only [List.mem_cons, List.not_mem_nil, or_false] at hz; first | (subst hz; simp; done) | (rcases hz with rfl | rfl <;> simp))) (hw _ (List.mem_of_getElem? (i := 12) rfl)) (hw _ (List.mem_of_getElem? (i := 8) rfl)) (by decide) (by decide)) rfl rfl (lenOf pd11 rfl) (Nat.le_of_ble_eq_true rfl) (by decide) (by decide) (fun v h' L hP => ?_) (by simp) (fun v h3 L hP => ?_)
    · obtain ⟨out, hq, N, -⟩ := hP; exact ⟨N, hq.2.2.1⟩
    obtain ⟨out, hq, -, X, hO⟩ := hP
    obtain ⟨rfl, rfl, K4, SV⟩ := hq
    refine ⟨[], all0, ?_⟩
    show Go l true Z consts_1 _ _ _ _ _ _ _ _ _ _ _ 84 #[.val (.int p0), .val (.int p1), .val (.int p2), .val (.int p3), .val (.int p4), .val (.int p5), .val (.int (Int32.ofNat (1 + 1))), .val (.int (Int32.ofNat n0)), .val (.int (Int32.ofNat n1)), .val (.int (Int32.ofNat n2)), .val (.int (Int32.ofNat n3)), .unset, .unset, .unset] [(.ref s1)]
    refine go_astore (q := 86) (l' := #[.val (.int p0), .val (.int p1), .val (.int p2), .val (.int p3), .val (.int p4), .val (.int p5), .val (.int (Int32.ofNat (1 + 1))), .val (.int (Int32.ofNat n0)), .val (.int (Int32.ofNat n1)), .val (.int (Int32.ofNat n2)), .val (.int (Int32.ofNat n3)), .val (.ref s1), .unset, .unset]) at_84 rfl rfl rfl ?_
    refine go_goto (q := 157) at_86 (by decide) (by decide) ?_
    refine go_more (kc2 := 4) (kn2 := 20) (by decide) (by decide) ?_
    exact own_157 B hEL p0 p1 p2 p3 p4 p5 (Int32.ofNat n0) (Int32.ofNat n1) (Int32.ofNat n2) (Int32.ofNat n3) (Nat.le_of_ble_eq_true rfl) (Nat.le_of_ble_eq_true rfl) hp SV
  · refine go_iload (q := 34) at_32 rfl rfl ?_
    refine go_iconst (q := 35) (z := (Int32.ofNat 1)) at_34 rfl rfl ?_
    refine go_icmp (q := 58) (q2 := 38) at_35 (by decide) (by decide) rfl (fun _ => ?_) (fun hc => absurd hc (by decide))
    refine go_iload (q := 60) at_58 rfl rfl ?_
    refine go_iconst (q := 61) (z := (Int32.ofNat 2)) at_60 rfl rfl ?_
    refine go_icmp (q := 89) (q2 := 64) at_61 (by decide) (by decide) rfl (fun _ => ?_) (fun hc => absurd hc (by decide))
    refine go_iload (q := 91) at_89 rfl rfl ?_
    refine go_iconst (q := 92) (z := (Int32.ofNat 3)) at_91 rfl rfl ?_
    refine go_icmp (q := 125) (q2 := 95) at_92 (by decide) (by decide) rfl (fun hc => absurd hc (by decide)) (fun _ => ?_)
    refine go_new (q := 98) at_95 rfl (hw _ (List.mem_of_getElem? (i := 6) rfl)) (hw _ (List.mem_of_getElem? (i := 7) rfl)) (hw _ (List.mem_of_getElem? (i := 8) rfl)) (by decide) (by decide) fun h1 s1 e1 E1 A1 D1 => ?_
    refine go_dup (q := 99) at_98 rfl rfl ?_
    refine go_iconst (q := 100) (z := (Int32.ofNat 3)) at_99 rfl rfl ?_
    refine go_newarray (q := 102) (cap := 3) (ad := "[C") at_100 rfl (hw _ (List.mem_of_getElem? (i := 9) rfl)) (by decide) (by decide) (by decide) (by decide) (by decide) rfl fun h2 b k2 e2 E2 F2 B2 => ?_
    have R1 : Arv Z h2 b k2 .char (Int32.ofNat 3) [.int 0, .int 0, .int 0] (.int 0) := F2.pad (pad_rep [] (.int 0) 3)
    refine go_dup (q := 103) at_102 rfl rfl ?_
    refine go_iconst (q := 104) (z := (Int32.ofNat 0)) at_103 rfl rfl ?_
    refine go_iload (q := 106) at_104 rfl rfl ?_
    refine go_castore (q := 107) (i := 0) at_106 rfl R1 (by decide) (by decide) (Nat.le_of_ble_eq_true rfl) (List.mem_cons_self ..) fun g0 J0 Q0 => ?_
    refine go_dup (q := 108) at_107 rfl rfl ?_
    refine go_iconst (q := 109) (z := (Int32.ofNat 1)) at_108 rfl rfl ?_
    refine go_iload (q := 111) at_109 rfl rfl ?_
    refine go_castore (q := 112) (i := 1) at_111 rfl Q0 (by decide) (by decide) (Nat.le_of_ble_eq_true rfl) (List.mem_cons_self ..) fun g1 J1 Q1 => ?_
    refine go_dup (q := 113) at_112 rfl rfl ?_
    refine go_iconst (q := 114) (z := (Int32.ofNat 2)) at_113 rfl rfl ?_
    refine go_iload (q := 116) at_114 rfl rfl ?_
    refine go_castore (q := 117) (i := 2) at_116 rfl Q1 (by decide) (by decide) (Nat.le_of_ble_eq_true rfl) (List.mem_cons_self ..) fun g2 J2 Q2 => ?_
    have KK := ((((Keep.refl h2 [b]).trans J0 (fun x hx => Or.inl hx)).trans J1 (fun x hx => Or.inl hx)).trans J2 (fun x hx => Or.inl hx))
    rw [narC n0 r0, narC n1 r1, narC n2 r2] at Q2
    have RR : Arv Z g2 b k2 .char (Int32.ofNat ([n0, n1, n2] : List Nat).length) (([n0, n1, n2] : List Nat).map iv) (.int 0) := Q2
    have hp : ∀ c ∈ ([n0, n1, n2] : List Nat), 1 ≤ c ∧ c < 65536 := fun c hc => by simp only [List.mem_cons, List.not_mem_nil, or_false] at hc; rcases hc with rfl | rfl | rfl <;> exact ⟨by assumption, by assumption⟩
    have ns : s1 ≠ b := by rw [e2]; exact Nat.ne_of_lt A1.lt
    refine go_old fun OO => ?_
    refine go_mine fun hM => ?_
    refine go_callI (q := 120) (y := (⟨"java/lang/String", "<init>", "([C)V"⟩ : MethodName)) (W := 1) (argsL := [(.ref b)]) (rest := [(.ref s1)]) (ws := [s1]) (P := fun v h' L => ∃ out, (QS Z g2 s1 [n0, n1, n2] v h' out) ∧ Fr Z.heap.size L ∧ Ext Z.heap h' ∧ ∀ x ∈ out, Z.heap.size ≤ x ∧ x < h'.size) at_117 rfl rfl (hw _ (List.mem_of_getElem? (i := 10) rfl)) (hw _ (List.mem_of_getElem? (i := 11) rfl)) (hw _ (List.mem_of_getElem? (i := 12) rfl)) (by decide) (con_pay (conS1 B OO (fun z hz => hM z (by simp only [List.mem_cons, List.not_mem_nil, or_false] at hz; first | (subst hz; simp; done) | (rcases hz with rfl | rfl <;> simp))) (Nat.le_of_ble_eq_true rfl) (Nat.le_of_ble_eq_true rfl) (fun c hc => (hp c hc).2) RR ((A1.ext E2).keep KK) (((D1 (Or.inr (hw _ (List.mem_of_getElem? (i := 35) rfl))) (ty := .array .byte) (by decide +kernel)).ext E2).keep KK (ninS ns nin0)) (((D1 (Or.inr (hw _ (List.mem_of_getElem? (i := 33) rfl))) (ty := .byte) (by decide +kernel)).ext E2).keep KK (ninS ns nin0))) (fun z hz => hM z (by simp only [List.mem_cons, List.not_mem_nil, or_false] at hz; first | (subst hz; simp; done) | (rcases hz with rfl | rfl <;> simp))) (hw _ (List.mem_of_getElem? (i := 12) rfl)) (hw _ (List.mem_of_getElem? (i := 8) rfl)) (by decide) (by decide)) rfl rfl (lenOf pd11 rfl) (Nat.le_of_ble_eq_true rfl) (by decide) (by decide) (fun v h' L hP => ?_) (by simp) (fun v h3 L hP => ?_)
    · obtain ⟨out, hq, N, -⟩ := hP; exact ⟨N, hq.2.2.1⟩
    obtain ⟨out, hq, -, X, hO⟩ := hP
    obtain ⟨rfl, rfl, K4, SV⟩ := hq
    refine ⟨[], all0, ?_⟩
    show Go l true Z consts_1 _ _ _ _ _ _ _ _ _ _ _ 120 #[.val (.int p0), .val (.int p1), .val (.int p2), .val (.int p3), .val (.int p4), .val (.int p5), .val (.int (Int32.ofNat (2 + 1))), .val (.int (Int32.ofNat n0)), .val (.int (Int32.ofNat n1)), .val (.int (Int32.ofNat n2)), .val (.int (Int32.ofNat n3)), .unset, .unset, .unset] [(.ref s1)]
    refine go_astore (q := 122) (l' := #[.val (.int p0), .val (.int p1), .val (.int p2), .val (.int p3), .val (.int p4), .val (.int p5), .val (.int (Int32.ofNat (2 + 1))), .val (.int (Int32.ofNat n0)), .val (.int (Int32.ofNat n1)), .val (.int (Int32.ofNat n2)), .val (.int (Int32.ofNat n3)), .val (.ref s1), .unset, .unset]) at_120 rfl rfl rfl ?_
    refine go_goto (q := 157) at_122 (by decide) (by decide) ?_
    refine go_more (kc2 := 4) (kn2 := 20) (by decide) (by decide) ?_
    exact own_157 B hEL p0 p1 p2 p3 p4 p5 (Int32.ofNat n0) (Int32.ofNat n1) (Int32.ofNat n2) (Int32.ofNat n3) (Nat.le_of_ble_eq_true rfl) (Nat.le_of_ble_eq_true rfl) hp SV
  · refine go_iload (q := 34) at_32 rfl rfl ?_
    refine go_iconst (q := 35) (z := (Int32.ofNat 1)) at_34 rfl rfl ?_
    refine go_icmp (q := 58) (q2 := 38) at_35 (by decide) (by decide) rfl (fun _ => ?_) (fun hc => absurd hc (by decide))
    refine go_iload (q := 60) at_58 rfl rfl ?_
    refine go_iconst (q := 61) (z := (Int32.ofNat 2)) at_60 rfl rfl ?_
    refine go_icmp (q := 89) (q2 := 64) at_61 (by decide) (by decide) rfl (fun _ => ?_) (fun hc => absurd hc (by decide))
    refine go_iload (q := 91) at_89 rfl rfl ?_
    refine go_iconst (q := 92) (z := (Int32.ofNat 3)) at_91 rfl rfl ?_
    refine go_icmp (q := 125) (q2 := 95) at_92 (by decide) (by decide) rfl (fun _ => ?_) (fun hc => absurd hc (by decide))
    refine go_new (q := 128) at_125 rfl (hw _ (List.mem_of_getElem? (i := 6) rfl)) (hw _ (List.mem_of_getElem? (i := 7) rfl)) (hw _ (List.mem_of_getElem? (i := 8) rfl)) (by decide) (by decide) fun h1 s1 e1 E1 A1 D1 => ?_
    refine go_dup (q := 129) at_128 rfl rfl ?_
    refine go_iconst (q := 130) (z := (Int32.ofNat 4)) at_129 rfl rfl ?_
    refine go_newarray (q := 132) (cap := 4) (ad := "[C") at_130 rfl (hw _ (List.mem_of_getElem? (i := 9) rfl)) (by decide) (by decide) (by decide) (by decide) (by decide) rfl fun h2 b k2 e2 E2 F2 B2 => ?_
    have R1 : Arv Z h2 b k2 .char (Int32.ofNat 4) [.int 0, .int 0, .int 0, .int 0] (.int 0) := F2.pad (pad_rep [] (.int 0) 4)
    refine go_dup (q := 133) at_132 rfl rfl ?_
    refine go_iconst (q := 134) (z := (Int32.ofNat 0)) at_133 rfl rfl ?_
    refine go_iload (q := 136) at_134 rfl rfl ?_
    refine go_castore (q := 137) (i := 0) at_136 rfl R1 (by decide) (by decide) (Nat.le_of_ble_eq_true rfl) (List.mem_cons_self ..) fun g0 J0 Q0 => ?_
    refine go_dup (q := 138) at_137 rfl rfl ?_
    refine go_iconst (q := 139) (z := (Int32.ofNat 1)) at_138 rfl rfl ?_
    refine go_iload (q := 141) at_139 rfl rfl ?_
    refine go_castore (q := 142) (i := 1) at_141 rfl Q0 (by decide) (by decide) (Nat.le_of_ble_eq_true rfl) (List.mem_cons_self ..) fun g1 J1 Q1 => ?_
    refine go_dup (q := 143) at_142 rfl rfl ?_
    refine go_iconst (q := 144) (z := (Int32.ofNat 2)) at_143 rfl rfl ?_
    refine go_iload (q := 146) at_144 rfl rfl ?_
    refine go_castore (q := 147) (i := 2) at_146 rfl Q1 (by decide) (by decide) (Nat.le_of_ble_eq_true rfl) (List.mem_cons_self ..) fun g2 J2 Q2 => ?_
    refine go_dup (q := 148) at_147 rfl rfl ?_
    refine go_iconst (q := 149) (z := (Int32.ofNat 3)) at_148 rfl rfl ?_
    refine go_iload (q := 151) at_149 rfl rfl ?_
    refine go_castore (q := 152) (i := 3) at_151 rfl Q2 (by decide) (by decide) (Nat.le_of_ble_eq_true rfl) (List.mem_cons_self ..) fun g3 J3 Q3 => ?_
    have KK := (((((Keep.refl h2 [b]).trans J0 (fun x hx => Or.inl hx)).trans J1 (fun x hx => Or.inl hx)).trans J2 (fun x hx => Or.inl hx)).trans J3 (fun x hx => Or.inl hx))
    rw [narC n0 r0, narC n1 r1, narC n2 r2, narC n3 r3] at Q3
    have RR : Arv Z g3 b k2 .char (Int32.ofNat ([n0, n1, n2, n3] : List Nat).length) (([n0, n1, n2, n3] : List Nat).map iv) (.int 0) := Q3
    have hp : ∀ c ∈ ([n0, n1, n2, n3] : List Nat), 1 ≤ c ∧ c < 65536 := fun c hc => by simp only [List.mem_cons, List.not_mem_nil, or_false] at hc; rcases hc with rfl | rfl | rfl | rfl <;> exact ⟨by assumption, by assumption⟩
    have ns : s1 ≠ b := by rw [e2]; exact Nat.ne_of_lt A1.lt
    refine go_old fun OO => ?_
    refine go_mine fun hM => ?_
    refine go_callI (q := 155) (y := (⟨"java/lang/String", "<init>", "([C)V"⟩ : MethodName)) (W := 1) (argsL := [(.ref b)]) (rest := [(.ref s1)]) (ws := [s1]) (P := fun v h' L => ∃ out, (QS Z g3 s1 [n0, n1, n2, n3] v h' out) ∧ Fr Z.heap.size L ∧ Ext Z.heap h' ∧ ∀ x ∈ out, Z.heap.size ≤ x ∧ x < h'.size) at_152 rfl rfl (hw _ (List.mem_of_getElem? (i := 10) rfl)) (hw _ (List.mem_of_getElem? (i := 11) rfl)) (hw _ (List.mem_of_getElem? (i := 12) rfl)) (by decide) (con_pay (conS1 B OO (fun z hz => hM z (by simp only [List.mem_cons, List.not_mem_nil, or_false] at hz; first | (subst hz; simp; done) | (rcases hz with rfl | rfl <;> simp))) (Nat.le_of_ble_eq_true rfl) (Nat.le_of_ble_eq_true rfl) (fun c hc => (hp c hc).2) RR ((A1.ext E2).keep KK) (((D1 (Or.inr (hw _ (List.mem_of_getElem? (i := 35) rfl))) (ty := .array .byte) (by decide +kernel)).ext E2).keep KK (ninS ns nin0)) (((D1 (Or.inr (hw _ (List.mem_of_getElem? (i := 33) rfl))) (ty := .byte) (by decide +kernel)).ext E2).keep KK (ninS ns nin0))) (fun z hz => hM z (by simp only [List.mem_cons, List.not_mem_nil, or_false] at hz; first | (subst hz; simp; done) | (rcases hz with rfl | rfl <;> simp))) (hw _ (List.mem_of_getElem? (i := 12) rfl)) (hw _ (List.mem_of_getElem? (i := 8) rfl)) (by decide) (by decide)) rfl rfl (lenOf pd11 rfl) (Nat.le_of_ble_eq_true rfl) (by decide) (by decide) (fun v h' L hP => ?_) (by simp) (fun v h3 L hP => ?_)
    · obtain ⟨out, hq, N, -⟩ := hP; exact ⟨N, hq.2.2.1⟩
    obtain ⟨out, hq, -, X, hO⟩ := hP
    obtain ⟨rfl, rfl, K4, SV⟩ := hq
    refine ⟨[], all0, ?_⟩
    show Go l true Z consts_1 _ _ _ _ _ _ _ _ _ _ _ 155 #[.val (.int p0), .val (.int p1), .val (.int p2), .val (.int p3), .val (.int p4), .val (.int p5), .val (.int (Int32.ofNat (3 + 1))), .val (.int (Int32.ofNat n0)), .val (.int (Int32.ofNat n1)), .val (.int (Int32.ofNat n2)), .val (.int (Int32.ofNat n3)), .unset, .unset, .unset] [(.ref s1)]
    refine go_astore (q := 157) (l' := #[.val (.int p0), .val (.int p1), .val (.int p2), .val (.int p3), .val (.int p4), .val (.int p5), .val (.int (Int32.ofNat (3 + 1))), .val (.int (Int32.ofNat n0)), .val (.int (Int32.ofNat n1)), .val (.int (Int32.ofNat n2)), .val (.int (Int32.ofNat n3)), .val (.ref s1), .unset, .unset]) at_155 rfl rfl rfl ?_
    refine go_more (kc2 := 4) (kn2 := 20) (by decide) (by decide) ?_
    exact own_157 B hEL p0 p1 p2 p3 p4 p5 (Int32.ofNat n0) (Int32.ofNat n1) (Int32.ofNat n2) (Int32.ofNat n3) (Nat.le_of_ble_eq_true rfl) (Nat.le_of_ble_eq_true rfl) hp SV
set_option maxRecDepth 65536 in
set_option maxHeartbeats 4000000 in
theorem comes_1 {Post : Tables → Env → Array Value → State → Outcome → State → Prop} (hpost : ∀ tb e args s v u, (limb_1_1.after args s (.returned v) u = true ∧ limb_1_2.after args s (.returned v) u = true ∧ True) → FramedW s (.returned v) u (Jvm.fieldLocs frame_1_writes args s ++ Jvm.arrayLocs frame_1_arrays args s ++ Jvm.staticLocs frame_1_statics s) 32 1344 → Post tb e args s (.returned v) u) :
    ArmFor flags0 classFile x code maxLocals ret World_1 tables_1 room_1 Calls_1 rest_1 Pre_1 Post := by
  intro l hfl _ _ p e ha hc hk s m args below hf hA hF happ hP
  obtain ⟨hcalls, hrest, hpre⟩ := hP
  obtain ⟨-, -, -, hnamed, -, -, -, hat⟩ := (Spec.applies_iff hf).mp happ
  obtain ⟨hg, hn⟩ := and_e (Cond.before_iff.mp (show (Jvm.Cond.and given_1 narrow_1).before args s = true from hpre))
  obtain ⟨h1, g0⟩ := and_e hg
  obtain ⟨q0, g1⟩ := and_e g0
  obtain ⟨q1, g2⟩ := and_e g1
  obtain ⟨q2, g3⟩ := and_e g2
  obtain ⟨q3, g4⟩ := and_e g3
  obtain ⟨q4, g5⟩ := and_e g4
  have q5 := g5
  obtain ⟨w0, w1, w2, w3, w4, w5, rfl⟩ : ∃ w0 w1 w2 w3 w4 w5 : Value, args = #[w0, w1, w2, w3, w4, w5] := by
    have hs : args.size = 6 := by simpa [Cond.value, given_1] using h1
    obtain ⟨L⟩ := args
    match L, hs with
    | [w0, w1, w2, w3, w4, w5], _ => exact ⟨w0, w1, w2, w3, w4, w5, rfl⟩
  have hw := fun d (hd : d ∈ tables_1) => atoms_spec (ws := Jvm.Cond.code x code maxLocals ret :: tables_1) hat d (List.mem_cons_of_mem _ hd)
  obtain ⟨hsets, hown0⟩ := atoms_of _ (rest_1_c_eq ▸ (show rest_1_c.before _ s = true from hrest))
  have hfit : Fit s := fun {y c} hc i hi => by
    obtain ⟨ha, rfl⟩ := Array.getElem?_eq_some_iff.mp hc
    have q := List.all_eq_true.mp ((Array.all_eq_true_iff_forall_mem.mp hF) _ (Array.getElem_mem ha)) i (List.mem_range.mpr hi)
    simpa [Array.getElem?_eq_getElem hi] using q
  obtain ⟨i0, e0⟩ := is_v q0
  obtain rfl : w0 = (.int i0) := Option.some.inj e0
  obtain ⟨i1, e1⟩ := is_v q1
  obtain rfl : w1 = (.int i1) := Option.some.inj e1
  obtain ⟨i2, e2⟩ := is_v q2
  obtain rfl : w2 = (.int i2) := Option.some.inj e2
  obtain ⟨i3, e3⟩ := is_v q3
  obtain rfl : w3 = (.int i3) := Option.some.inj e3
  obtain ⟨i4, e4⟩ := is_v q4
  obtain rfl : w4 = (.int i4) := Option.some.inj e4
  obtain ⟨i5, e5⟩ := is_v q5
  obtain rfl : w5 = (.int i5) := Option.some.inj e5
  have n5 := not_v (Cond.before_iff.mp (hsets _ (List.mem_of_getElem? (i := 2) rfl)))
  obtain ⟨i11, e10⟩ := is_v (Cond.before_iff.mp (hsets _ (List.mem_of_getElem? (i := 1) rfl)))
  have S12 : Sta s s.heap "java/lang/String" "COMPACT_STRINGS" "Z" (.int i11) := Sta.start e10 (Or.inl (hsets _ (List.mem_of_getElem? (i := 0) rfl)))
  have c17 : ¬ (i11 = (0 : Int32)) := gotF (Cond.eq_ints e10 (Term.int_eval (0))) n5
  obtain ⟨v13, e14, r15⟩ := isR_v (Cond.before_iff.mp (hsets _ (List.mem_of_getElem? (i := 8) rfl)))
  have S16 : Sta s s.heap "jdk/internal/util/Preconditions" "SIOOBE_FORMATTER" "Ljava/util/function/BiFunction;" v13 := Sta.start e14 (Or.inl (hsets _ (List.mem_of_getElem? (i := 7) rfl)))
  have OA : Sta s s.heap "java/lang/StringUTF16" "$assertionsDisabled" "Z" (.int 1) := Sta.start (own_eqI (Cond.before_iff.mp (hsets _ (List.mem_of_getElem? (i := 12) rfl)))) (Or.inl (hsets _ (List.mem_of_getElem? (i := 11) rfl)))
  have OH : Sta s s.heap "java/lang/StringUTF16" "HI_BYTE_SHIFT" "I" (.int 0) := Sta.start (own_eqI (Cond.before_iff.mp (hsets _ (List.mem_of_getElem? (i := 15) rfl)))) (Or.inl (hsets _ (List.mem_of_getElem? (i := 14) rfl)))
  have OL : Sta s s.heap "java/lang/StringUTF16" "LO_BYTE_SHIFT" "I" (.int 8) := Sta.start (own_eqI (Cond.before_iff.mp (hsets _ (List.mem_of_getElem? (i := 18) rfl)))) (Or.inl (hsets _ (List.mem_of_getElem? (i := 17) rfl)))
  have hEL : EW s _ consts_1 := EW.cons (hw _ (List.mem_of_getElem? (i := 119) rfl)) (by decide) (EW.nil)
  have hCH : CHv s consts_1 s.vm s.heap := CHv.start hEL (fun p hp => hcalls.1 p hp) (hsets _ (List.mem_of_getElem? (i := 2) rfl)) (hw _ (List.mem_of_getElem? (i := 25) rfl)) (hw _ (List.mem_of_getElem? (i := 7) rfl))
  obtain ⟨n, o, h1, h2, h3, v, L, out, rfl, hv, N, -, -, -, hq⟩ := own_law ⟨hw, S12, c17, S16, r15, OA, OH, OL⟩ hEL i0 i1 i2 i3 i4 i5 tables_1 p e ha hc hk s m _ below hf ((Spec.applies_iff_loose hf).mp happ).1 ⟨rfl, State.Warmed39.refl s, rfl, hCH, Mine.nil⟩ trivial
  subst hv
  refine ⟨n, _, h1, h2, h3, hpost _ _ _ _ _ _ ⟨Cond.after_iff.mpr rfl, Cond.after_iff.mpr (eq_i res_at (Term.int_eval (1)) rfl), trivial⟩ ⟨hq.1.1, hq.1.2.1, hq.1.2.2.1, (hq.1.2.2.2.sift fun y hy => Or.inr (N y hy)).mono (by decide) (by decide)⟩⟩
theorem main_1_1 : Claimed_1_1 := comes_1 fun _ _ _ _ _ _ h hF => ⟨h.1, hF⟩
theorem main_1_2 : Claimed_1_2 := comes_1 fun _ _ _ _ _ _ h hF => ⟨h.2.1, hF⟩
end Jvm.Pilot.@@N@@
namespace Jvm.Pilot.@@N@@
open Jvm Jvm.ClassFile Sem Op Lib Jvm.Free Jvm.Stand Jvm.Pilot.@@N@@.Jvm.D
/-! MADE BY PROGRAM (witnessworld.py) out of the Statement's table words and the real class files: 27 classes; the members and pool entries that the words name. The judged class is class 1, her method 2. -/
namespace start1
open Jvm.ClassFile
def u (s : String) : CpInfo := .utf8 (stringToUtf16 s)
/-- a pool by its gaps: so many unusable entries, then the entry; so many at the end -/
def gap : Nat → List CpInfo → List CpInfo
  | 0, r => r
  | n + 1, r => .unusable :: gap n r
def poolList (es : List (Nat × CpInfo)) (last : Nat) : List CpInfo := es.foldr (fun e r => gap e.1 (e.2 :: r)) (gap last [])
def pool (es : List (Nat × CpInfo)) (last : Nat) : Array CpInfo := ⟨poolList es last⟩
def fileOf (pool : Array CpInfo) (this : Nat) (attrs : Array Attribute := #[]) (ms : Array MethodInfo := #[]) (fl : Nat := 33) (sup : Nat := 0) (ifs : Array Nat := #[]) (fds : Array FieldInfo := #[]) : ClassFile where
  minorVersion := 0
  majorVersion := 65
  constantPool := pool
  accessFlags := fl
  thisClass := this
  superClass := sup
  interfaces := ifs
  fields := fds
  methods := ms
  attributes := attrs
def plain (name : String) (sup : Option ClassId) : Class where
  name := name
  kind := .ordinary
  loader := none
  accessFlags := 33
  super := sup
  interfaces := #[]
  cf := none
  fields := #[]
  methods := #[]
  instanceTypes := #[]
  staticTypes := #[]
  resolved := #[]
  callSites := []
  init := .initialized
  statics := none
  mirror := none

def pool0 : Array CpInfo := pool [(5, u "<init>"), (0, u "()V"), (1, .class_ 10), (1, u "java/lang/Object"), (85, u "clone"), (0, u "()Ljava/lang/Object;")] 26

def k0c0 : Code := { maxStack := 0, maxLocals := 1, code := object_method_1_code, exceptionTable := #[], attributes := #[] }
def k0m0 : Method := { name := "<init>", desc := "()V", sig := { parameters := [], returnType := none }, accessFlags := 1, code := some k0c0 }
def k0m1 : Method := { name := "clone", desc := "()Ljava/lang/Object;", sig := { parameters := [], returnType := some (.object "java/lang/Object") }, accessFlags := 260, code := none }
/-- java/lang/Object -/
def k0 : Class := { plain "java/lang/Object" none with
  accessFlags := 33
  interfaces := #[]
  cf := some (fileOf pool0 8 #[] #[{ accessFlags := 1, nameIndex := 5, descriptorIndex := 6, attributes := #[] }, { accessFlags := 260, nameIndex := 96, descriptorIndex := 97, attributes := #[] }] 33 0 #[] #[])
  fields := #[]
  methods := #[k0m0, k0m1]
  instanceTypes := #[]
  staticTypes := #[]
  resolved := Array.replicate 124 none
  statics := none }

def pool1 : Array CpInfo := pool [(2, .class_ 4), (1, u "java/lang/Object"), (0, u "<init>"), (0, u "()V"), (0, .integer 2147483647), (0, .integer 65535), (0, .methodref 10 11), (0, .class_ 12), (0, .nameAndType 13 14), (0, u "com/example/steady_step/steadystep/machine/NamesRequirePinLaw"), (0, u "nonNul"), (0, u "(I)C"), (0, .class_ 16), (0, u "java/lang/String"), (0, .methodref 15 18), (0, .nameAndType 5 19), (0, u "([C)V"), (0, .methodref 15 21), (0, .nameAndType 22 23), (0, u "valueOf"), (0, u "(C)Ljava/lang/String;"), (0, .methodref 25 26), (0, .class_ 27), (0, .nameAndType 28 29), (0, u "com/example/steady_step/steadystep/machine/Names"), (0, u "require"), (0, u "(Ljava/lang/String;Ljava/lang/String;)Ljava/lang/String;"), (0, .methodref 15 31), (0, .nameAndType 32 33), (0, u "length"), (0, u "()I"), (2, u "law"), (0, u "(IIIIII)Z")] 3

def k1m0 : Method := { name := "<init>", desc := "()V", sig := { parameters := [], returnType := none }, accessFlags := 2, code := none }
def k1c1 : Code := { maxStack := 2, maxLocals := 1, code := method_2_code, exceptionTable := #[], attributes := #[] }
def k1m1 : Method := { name := "nonNul", desc := "(I)C", sig := { parameters := [.int], returnType := some .char }, accessFlags := 10, code := some k1c1 }
def k1c2 : Code := { maxStack := 6, maxLocals := 14, code := code, exceptionTable := #[], attributes := #[] }
def k1m2 : Method := { name := "law", desc := "(IIIIII)Z", sig := { parameters := [.int, .int, .int, .int, .int, .int], returnType := some .boolean }, accessFlags := 9, code := some k1c2 }
/-- com/example/steady_step/steadystep/machine/NamesRequirePinLaw -/
def k1 : Class := { plain "com/example/steady_step/steadystep/machine/NamesRequirePinLaw" (some 0) with
  accessFlags := 49
  interfaces := #[]
  cf := some (fileOf pool1 10 #[] #[{ accessFlags := 2, nameIndex := 5, descriptorIndex := 6, attributes := #[] }, { accessFlags := 10, nameIndex := 13, descriptorIndex := 14, attributes := #[] }, { accessFlags := 9, nameIndex := 36, descriptorIndex := 37, attributes := #[] }] 49 2 #[] #[])
  fields := #[]
  methods := #[k1m0, k1m1, k1m2]
  instanceTypes := #[]
  staticTypes := #[]
  resolved := Array.replicate 41 none
  statics := none }

def pool2 : Array CpInfo := pool [(1, .class_ 2), (0, u "java/io/Serializable"), (0, .class_ 4), (0, u "java/lang/Object")] 2

/-- java/io/Serializable -/
def k2 : Class := { plain "java/io/Serializable" (some 0) with
  accessFlags := 1537
  interfaces := #[]
  cf := some (fileOf pool2 1 #[] #[] 1537 3 #[] #[])
  fields := #[]
  methods := #[]
  instanceTypes := #[]
  staticTypes := #[]
  resolved := Array.replicate 7 none
  statics := none }

def pool3 : Array CpInfo := pool [(1, .class_ 2), (0, u "java/lang/Comparable"), (0, .class_ 4), (0, u "java/lang/Object")] 7

/-- java/lang/Comparable -/
def k3 : Class := { plain "java/lang/Comparable" (some 0) with
  accessFlags := 1537
  interfaces := #[]
  cf := some (fileOf pool3 1 #[] #[] 1537 3 #[] #[])
  fields := #[]
  methods := #[]
  instanceTypes := #[]
  staticTypes := #[]
  resolved := Array.replicate 12 none
  statics := none }

def pool4 : Array CpInfo := pool [(2, .class_ 4), (1, u "java/lang/CharSequence"), (42, .class_ 48), (0, u "java/lang/CharSequence$1CodePointIterator"), (10, .class_ 60), (0, u "java/lang/CharSequence$1CharIterator"), (5, .class_ 67), (0, u "java/lang/Object")] 63

/-- java/lang/CharSequence -/
def k4 : Class := { plain "java/lang/CharSequence" (some 0) with
  accessFlags := 1537
  interfaces := #[]
  cf := some (fileOf pool4 2 #[.nestMembers #[47, 59]] #[] 1537 66 #[] #[])
  fields := #[]
  methods := #[]
  instanceTypes := #[]
  staticTypes := #[]
  resolved := Array.replicate 131 none
  statics := none }

def pool5 : Array CpInfo := pool [(1, .class_ 2), (0, u "java/lang/constant/Constable"), (0, .class_ 4), (0, u "java/lang/Object")] 6

/-- java/lang/constant/Constable -/
def k5 : Class := { plain "java/lang/constant/Constable" (some 0) with
  accessFlags := 1537
  interfaces := #[]
  cf := some (fileOf pool5 1 #[] #[] 1537 3 #[] #[])
  fields := #[]
  methods := #[]
  instanceTypes := #[]
  staticTypes := #[]
  resolved := Array.replicate 11 none
  statics := none }

def pool6 : Array CpInfo := pool [(1, .class_ 2), (0, u "java/lang/constant/ConstantDesc"), (0, .class_ 4), (0, u "java/lang/Object")] 32

/-- java/lang/constant/ConstantDesc -/
def k6 : Class := { plain "java/lang/constant/ConstantDesc" (some 0) with
  accessFlags := 1537
  interfaces := #[]
  cf := some (fileOf pool6 1 #[] #[] 1537 3 #[] #[])
  fields := #[]
  methods := #[]
  instanceTypes := #[]
  staticTypes := #[]
  resolved := Array.replicate 37 none
  statics := none }

def pool7 : Array CpInfo := pool [(1, .methodref 2 3), (0, .class_ 4), (0, .nameAndType 5 6), (0, u "java/lang/Object"), (0, u "<init>"), (0, u "()V"), (2, .fieldref 10 11), (0, .class_ 12), (0, .nameAndType 13 14), (0, u "java/lang/String"), (0, u "value"), (0, u "[B"), (0, .fieldref 10 16), (0, .nameAndType 17 18), (0, u "coder"), (0, u "B"), (2, u "hash"), (0, u "I"), (2, u "hashIsZero"), (0, u "Z"), (0, .methodref 10 28), (0, .nameAndType 5 29), (0, u "([CIILjava/lang/Void;)V"), (6, u "checkBoundsOffCount"), (0, u "(III)I"), (0, .fieldref 10 39), (0, .nameAndType 40 26), (0, u "COMPACT_STRINGS"), (1, .class_ 44), (1, u "java/lang/StringUTF16"), (0, u "compress"), (1, .methodref 42 48), (0, .nameAndType 49 50), (0, u "coderFromArrayLen"), (0, u "([BI)B"), (2, u "toBytes"), (0, .methodref 55 56), (0, .class_ 57), (0, .nameAndType 58 59), (0, u "java/util/Arrays"), (0, u "copyOfRange"), (0, u "([BII)[B"), (46, .methodref 107 108), (0, .class_ 109), (0, .nameAndType 110 111), (0, u "java/lang/StringLatin1"), (0, u "inflate"), (0, u "([BI[BII)V"), (30, u "()Z"), (34, .methodref 42 178), (0, .nameAndType 45 179), (0, u "([CII)[B"), (13, .class_ 195), (1, u "java/lang/System"), (13, .methodref 10 210), (0, .nameAndType 5 211), (0, u "([BB)V"), (0, .methodref 193 213), (0, .nameAndType 214 215), (0, u "arraycopy"), (0, u "(Ljava/lang/Object;ILjava/lang/Object;II)V"), (118, u "()I"), (0, .methodref 10 336), (0, .nameAndType 17 337), (0, u "()B"), (2, u "()[B"), (28, u "(C)Z"), (119, .methodref 10 490), (0, .nameAndType 5 491), (0, u "(Ljava/lang/AbstractStringBuilder;Ljava/lang/Void;)V"), (0, .methodref 10 493), (0, .nameAndType 494 142), (0, u "isLatin1"), (10, .methodref 10 506), (0, .nameAndType 507 334), (0, u "length"), (5, u "checkFromToIndex"), (9, u "checkBoundsBeginEnd"), (0, u "(III)V"), (7, u "getBytes"), (16, .methodref 550 506), (0, .class_ 551), (0, u "java/lang/AbstractStringBuilder"), (0, .methodref 550 553), (0, .nameAndType 554 340), (0, u "getValue"), (20, .class_ 576), (0, u "java/lang/CharSequence"), (22, u "CASE_INSENSITIVE_ORDER"), (0, u "Ljava/util/Comparator;"), (32, .methodref 10 634), (0, .nameAndType 635 636), (0, u "indexOf"), (0, u "(II)I"), (0, .methodref 107 638), (0, .nameAndType 635 639), (0, u "([BIII)I"), (0, .methodref 42 638), (51, u "isEmpty"), (72, u "(I)I"), (16, u "valueOf"), (0, u "(C)Ljava/lang/String;"), (37, u "([BIB)V"), (188, u "([C)V"), (4, .methodref 107 1016), (0, .nameAndType 1017 369), (0, u "canEncode"), (0, .methodref 107 1019), (0, .nameAndType 53 1020), (0, u "(C)[B"), (0, .methodref 42 1019), (25, .methodref 550 493), (0, .fieldref 550 1049), (0, .nameAndType 1050 26), (0, u "maybeLatin1"), (2, .fieldref 1054 1055), (0, .class_ 1056), (0, .nameAndType 1057 1058), (0, u "jdk/internal/util/Preconditions"), (0, u "SIOOBE_FORMATTER"), (0, u "Ljava/util/function/BiFunction;"), (3, .methodref 1054 1063), (0, .nameAndType 513 1064), (0, u "(IIILjava/util/function/BiFunction;)I"), (0, .methodref 1054 1066), (0, .nameAndType 1067 1064), (0, u "checkFromIndexSize"), (33, u "serialPersistentFields"), (0, u "[Ljava/io/ObjectStreamField;"), (0, .class_ 1104), (0, u "java/lang/String$CaseInsensitiveComparator"), (1, .class_ 1107), (0, u "java/io/Serializable"), (0, .class_ 1109), (0, u "java/lang/Comparable"), (0, .class_ 1111), (0, u "java/lang/constant/Constable"), (0, .class_ 1113), (0, u "java/lang/constant/ConstantDesc"), (2, u "serialVersionUID"), (0, u "J"), (3, u "REPL"), (0, u "C"), (2, u "LATIN1"), (1, u "UTF16"), (105, u "(Ljava/lang/StringBuilder;)V")] 217

def k7m0 : Method := { name := "<init>", desc := "()V", sig := { parameters := [], returnType := none }, accessFlags := 1, code := none }
def k7c1 : Code := { maxStack := 5, maxLocals := 2, code := jdk_42_method_3_code, exceptionTable := #[], attributes := #[] }
def k7m1 : Method := { name := "<init>", desc := "([C)V", sig := { parameters := [(.array .char)], returnType := none }, accessFlags := 1, code := some k7c1 }
def k7c2 : Code := { maxStack := 3, maxLocals := 2, code := jdk_42_method_53_code, exceptionTable := #[], attributes := #[] }
def k7m2 : Method := { name := "<init>", desc := "(Ljava/lang/StringBuilder;)V", sig := { parameters := [(.object "java/lang/StringBuilder")], returnType := none }, accessFlags := 1, code := some k7c2 }
def k7c3 : Code := { maxStack := 2, maxLocals := 1, code := jdk_42_method_54_code, exceptionTable := #[], attributes := #[] }
def k7m3 : Method := { name := "length", desc := "()I", sig := { parameters := [], returnType := some .int }, accessFlags := 1, code := some k7c3 }
def k7c4 : Code := { maxStack := 1, maxLocals := 1, code := jdk_42_method_55_code, exceptionTable := #[], attributes := #[] }
def k7m4 : Method := { name := "isEmpty", desc := "()Z", sig := { parameters := [], returnType := some .boolean }, accessFlags := 1, code := some k7c4 }
def k7c5 : Code := { maxStack := 3, maxLocals := 2, code := jdk_42_method_79_code, exceptionTable := #[], attributes := #[] }
def k7m5 : Method := { name := "indexOf", desc := "(I)I", sig := { parameters := [.int], returnType := some .int }, accessFlags := 1, code := some k7c5 }
def k7c6 : Code := { maxStack := 4, maxLocals := 3, code := jdk_42_method_80_code, exceptionTable := #[], attributes := #[] }
def k7m6 : Method := { name := "indexOf", desc := "(II)I", sig := { parameters := [.int, .int], returnType := some .int }, accessFlags := 1, code := some k7c6 }
def k7c7 : Code := { maxStack := 4, maxLocals := 1, code := jdk_42_method_139_code, exceptionTable := #[], attributes := #[] }
def k7m7 : Method := { name := "valueOf", desc := "(C)Ljava/lang/String;", sig := { parameters := [.char], returnType := some (.object "java/lang/String") }, accessFlags := 9, code := some k7c7 }
def k7c8 : Code := { maxStack := 5, maxLocals := 4, code := jdk_42_method_147_code, exceptionTable := #[], attributes := #[] }
def k7m8 : Method := { name := "getBytes", desc := "([BIB)V", sig := { parameters := [(.array .byte), .int, .byte], returnType := none }, accessFlags := 0, code := some k7c8 }
def k7c9 : Code := { maxStack := 4, maxLocals := 6, code := jdk_42_method_149_code, exceptionTable := #[], attributes := #[] }
def k7m9 : Method := { name := "<init>", desc := "([CIILjava/lang/Void;)V", sig := { parameters := [(.array .char), .int, .int, (.object "java/lang/Void")], returnType := none }, accessFlags := 2, code := some k7c9 }
def k7c10 : Code := { maxStack := 5, maxLocals := 5, code := jdk_42_method_150_code, exceptionTable := #[], attributes := #[] }
def k7m10 : Method := { name := "<init>", desc := "(Ljava/lang/AbstractStringBuilder;Ljava/lang/Void;)V", sig := { parameters := [(.object "java/lang/AbstractStringBuilder"), (.object "java/lang/Void")], returnType := none }, accessFlags := 0, code := some k7c10 }
def k7c11 : Code := { maxStack := 2, maxLocals := 3, code := jdk_42_method_151_code, exceptionTable := #[], attributes := #[] }
def k7m11 : Method := { name := "<init>", desc := "([BB)V", sig := { parameters := [(.array .byte), .byte], returnType := none }, accessFlags := 0, code := some k7c11 }
def k7c12 : Code := { maxStack := 1, maxLocals := 1, code := jdk_42_method_152_code, exceptionTable := #[], attributes := #[] }
def k7m12 : Method := { name := "coder", desc := "()B", sig := { parameters := [], returnType := some .byte }, accessFlags := 0, code := some k7c12 }
def k7c13 : Code := { maxStack := 1, maxLocals := 1, code := jdk_42_method_154_code, exceptionTable := #[], attributes := #[] }
def k7m13 : Method := { name := "isLatin1", desc := "()Z", sig := { parameters := [], returnType := some .boolean }, accessFlags := 0, code := some k7c13 }
def k7c14 : Code := { maxStack := 4, maxLocals := 3, code := jdk_42_method_157_code, exceptionTable := #[], attributes := #[] }
def k7m14 : Method := { name := "checkBoundsOffCount", desc := "(III)I", sig := { parameters := [.int, .int, .int], returnType := some .int }, accessFlags := 8, code := some k7c14 }
def k7c15 : Code := { maxStack := 4, maxLocals := 3, code := jdk_42_method_158_code, exceptionTable := #[], attributes := #[] }
def k7m15 : Method := { name := "checkBoundsBeginEnd", desc := "(III)V", sig := { parameters := [.int, .int, .int], returnType := none }, accessFlags := 8, code := some k7c15 }
/-- java/lang/String -/
def k7 : Class := { plain "java/lang/String" (some 0) with
  accessFlags := 49
  interfaces := #[2, 3, 4, 5, 6]
  cf := some (fileOf pool7 10 #[.nestMembers #[1103]] #[{ accessFlags := 1, nameIndex := 5, descriptorIndex := 6, attributes := #[] }, { accessFlags := 1, nameIndex := 5, descriptorIndex := 1010, attributes := #[] }, { accessFlags := 1, nameIndex := 5, descriptorIndex := 1233, attributes := #[] }, { accessFlags := 1, nameIndex := 507, descriptorIndex := 334, attributes := #[] }, { accessFlags := 1, nameIndex := 692, descriptorIndex := 142, attributes := #[] }, { accessFlags := 1, nameIndex := 635, descriptorIndex := 765, attributes := #[] }, { accessFlags := 1, nameIndex := 635, descriptorIndex := 636, attributes := #[] }, { accessFlags := 9, nameIndex := 782, descriptorIndex := 783, attributes := #[] }, { accessFlags := 0, nameIndex := 532, descriptorIndex := 821, attributes := #[] }, { accessFlags := 2, nameIndex := 5, descriptorIndex := 29, attributes := #[] }, { accessFlags := 0, nameIndex := 5, descriptorIndex := 491, attributes := #[] }, { accessFlags := 0, nameIndex := 5, descriptorIndex := 211, attributes := #[] }, { accessFlags := 0, nameIndex := 17, descriptorIndex := 337, attributes := #[] }, { accessFlags := 0, nameIndex := 494, descriptorIndex := 142, attributes := #[] }, { accessFlags := 8, nameIndex := 36, descriptorIndex := 37, attributes := #[] }, { accessFlags := 8, nameIndex := 523, descriptorIndex := 524, attributes := #[] }] 49 2 #[1106, 1108, 575, 1110, 1112] #[{ accessFlags := 18, nameIndex := 13, descriptorIndex := 14, attributes := #[] }, { accessFlags := 18, nameIndex := 17, descriptorIndex := 18, attributes := #[] }, { accessFlags := 2, nameIndex := 21, descriptorIndex := 22, attributes := #[] }, { accessFlags := 2, nameIndex := 25, descriptorIndex := 26, attributes := #[] }, { accessFlags := 26, nameIndex := 1116, descriptorIndex := 1117, attributes := #[] }, { accessFlags := 24, nameIndex := 40, descriptorIndex := 26, attributes := #[] }, { accessFlags := 26, nameIndex := 1101, descriptorIndex := 1102, attributes := #[] }, { accessFlags := 26, nameIndex := 1121, descriptorIndex := 1122, attributes := #[] }, { accessFlags := 25, nameIndex := 599, descriptorIndex := 600, attributes := #[] }, { accessFlags := 24, nameIndex := 1125, descriptorIndex := 18, attributes := #[] }, { accessFlags := 24, nameIndex := 1127, descriptorIndex := 18, attributes := #[] }])
  fields := #[{ name := "value", type := (.array .byte), accessFlags := 18, slot := 0, constantValue := 0 }, { name := "coder", type := .byte, accessFlags := 18, slot := 1, constantValue := 0 }, { name := "hash", type := .int, accessFlags := 2, slot := 2, constantValue := 0 }, { name := "hashIsZero", type := .boolean, accessFlags := 2, slot := 3, constantValue := 0 }, { name := "serialVersionUID", type := .long, accessFlags := 26, slot := 0, constantValue := 0 }, { name := "COMPACT_STRINGS", type := .boolean, accessFlags := 24, slot := 1, constantValue := 0 }, { name := "serialPersistentFields", type := (.array (.object "java/io/ObjectStreamField")), accessFlags := 26, slot := 2, constantValue := 0 }, { name := "REPL", type := .char, accessFlags := 26, slot := 3, constantValue := 0 }, { name := "CASE_INSENSITIVE_ORDER", type := (.object "java/util/Comparator"), accessFlags := 25, slot := 4, constantValue := 0 }, { name := "LATIN1", type := .byte, accessFlags := 24, slot := 5, constantValue := 0 }, { name := "UTF16", type := .byte, accessFlags := 24, slot := 6, constantValue := 0 }]
  methods := #[k7m0, k7m1, k7m2, k7m3, k7m4, k7m5, k7m6, k7m7, k7m8, k7m9, k7m10, k7m11, k7m12, k7m13, k7m14, k7m15]
  instanceTypes := #[(.array .byte), .byte, .int, .boolean]
  staticTypes := #[.long, .boolean, (.array (.object "java/io/ObjectStreamField")), .char, (.object "java/util/Comparator"), .byte, .byte]
  resolved := Array.replicate 1451 none
  statics := some 0 }

def pool8 : Array CpInfo := pool [(3, .class_ 4), (0, u "java/lang/String"), (1, .class_ 8), (1, u "java/lang/Object"), (0, u "<init>"), (0, u "()V"), (0, .methodref 12 13), (0, .class_ 14), (0, .nameAndType 15 16), (0, u "java/lang/StringUTF16"), (0, u "newBytesLength"), (0, u "(I)I"), (3, .integer 1073741823), (23, .fieldref 12 45), (0, .nameAndType 46 47), (0, u "$assertionsDisabled"), (0, u "Z"), (0, .methodref 12 49), (0, .nameAndType 50 51), (0, u "length"), (0, u "([B)I"), (7, .fieldref 12 60), (0, .nameAndType 61 62), (0, u "HI_BYTE_SHIFT"), (0, u "I"), (0, .fieldref 12 64), (0, .nameAndType 65 62), (0, u "LO_BYTE_SHIFT"), (5, .methodref 12 72), (0, .nameAndType 73 74), (0, u "getChar"), (0, u "([BI)C"), (21, .methodref 12 97), (0, .nameAndType 98 99), (0, u "checkBoundsBeginEnd"), (0, u "(II[B)V"), (7, .methodref 12 108), (0, .nameAndType 109 110), (0, u "newBytesFor"), (0, u "(I)[B"), (0, .methodref 12 112), (0, .nameAndType 113 114), (0, u "putChar"), (0, u "([BII)V"), (0, .methodref 12 116), (0, .nameAndType 117 118), (0, u "compress"), (0, u "([CI[BII)I"), (0, .methodref 12 120), (0, .nameAndType 121 122), (0, u "toBytes"), (0, u "([CII)[B"), (17, u "inflate"), (0, u "([BI[BII)V"), (31, .methodref 12 174), (0, .nameAndType 175 99), (0, u "checkBoundsOffCount"), (7, .methodref 184 185), (0, .class_ 186), (0, .nameAndType 187 188), (0, u "java/lang/Math"), (0, u "min"), (0, u "(II)I"), (35, .methodref 184 225), (0, .nameAndType 226 188), (0, u "max"), (0, .integer 65536), (0, .methodref 12 229), (0, .nameAndType 230 231), (0, u "indexOfChar"), (0, u "([BIII)I"), (9, .methodref 3 242), (0, .nameAndType 98 243), (0, u "(III)V"), (0, .methodref 12 245), (0, .nameAndType 246 231), (0, u "indexOfCharUnsafe"), (14, u "coderFromArrayLen"), (0, u "([BI)B"), (5, u "indexOf"), (12, u "(III)I"), (87, .class_ 371), (1, u "java/lang/StringUTF16$LinesSpliterator"), (47, .methodref 3 420), (0, .nameAndType 175 281), (9, u "MAX_LENGTH"), (44, u "(C)[B"), (151, .class_ 628), (0, u "java/lang/StringUTF16$CodePointsSpliterator"), (0, .class_ 630), (0, u "java/lang/StringUTF16$CharsSpliterator")] 4

def k8m0 : Method := { name := "<init>", desc := "()V", sig := { parameters := [], returnType := none }, accessFlags := 0, code := none }
def k8c1 : Code := { maxStack := 1, maxLocals := 1, code := jdk_52_method_2_code, exceptionTable := #[], attributes := #[] }
def k8m1 : Method := { name := "newBytesFor", desc := "(I)[B", sig := { parameters := [.int], returnType := some (.array .byte) }, accessFlags := 9, code := some k8c1 }
def k8c2 : Code := { maxStack := 4, maxLocals := 1, code := jdk_52_method_3_code, exceptionTable := #[], attributes := #[] }
def k8m2 : Method := { name := "newBytesLength", desc := "(I)I", sig := { parameters := [.int], returnType := some .int }, accessFlags := 9, code := some k8c2 }
def k8c3 : Code := { maxStack := 4, maxLocals := 3, code := jdk_52_method_4_code, exceptionTable := #[], attributes := #[] }
def k8m3 : Method := { name := "putChar", desc := "([BII)V", sig := { parameters := [(.array .byte), .int, .int], returnType := none }, accessFlags := 8, code := some k8c3 }
def k8c4 : Code := { maxStack := 3, maxLocals := 2, code := jdk_52_method_5_code, exceptionTable := #[], attributes := #[] }
def k8m4 : Method := { name := "getChar", desc := "([BI)C", sig := { parameters := [(.array .byte), .int], returnType := some .char }, accessFlags := 8, code := some k8c4 }
def k8c5 : Code := { maxStack := 2, maxLocals := 1, code := jdk_52_method_6_code, exceptionTable := #[], attributes := #[] }
def k8m5 : Method := { name := "length", desc := "([B)I", sig := { parameters := [(.array .byte)], returnType := some .int }, accessFlags := 9, code := some k8c5 }
def k8c6 : Code := { maxStack := 4, maxLocals := 5, code := jdk_52_method_14_code, exceptionTable := #[], attributes := #[] }
def k8m6 : Method := { name := "toBytes", desc := "([CII)[B", sig := { parameters := [(.array .char), .int, .int], returnType := some (.array .byte) }, accessFlags := 9, code := some k8c6 }
def k8c7 : Code := { maxStack := 2, maxLocals := 2, code := jdk_52_method_15_code, exceptionTable := #[], attributes := #[] }
def k8m7 : Method := { name := "coderFromArrayLen", desc := "([BI)B", sig := { parameters := [(.array .byte), .int], returnType := some .byte }, accessFlags := 8, code := some k8c7 }
def k8c8 : Code := { maxStack := 5, maxLocals := 6, code := jdk_52_method_16_code, exceptionTable := #[], attributes := #[] }
def k8m8 : Method := { name := "compress", desc := "([CII)[B", sig := { parameters := [(.array .char), .int, .int], returnType := some (.array .byte) }, accessFlags := 9, code := some k8c8 }
def k8c9 : Code := { maxStack := 3, maxLocals := 7, code := jdk_52_method_21_code, exceptionTable := #[], attributes := #[] }
def k8m9 : Method := { name := "compress", desc := "([CI[BII)I", sig := { parameters := [(.array .char), .int, (.array .byte), .int, .int], returnType := some .int }, accessFlags := 9, code := some k8c9 }
def k8c10 : Code := { maxStack := 3, maxLocals := 2, code := jdk_52_method_24_code, exceptionTable := #[], attributes := #[] }
def k8m10 : Method := { name := "toBytes", desc := "(C)[B", sig := { parameters := [.char], returnType := some (.array .byte) }, accessFlags := 9, code := some k8c10 }
def k8c11 : Code := { maxStack := 4, maxLocals := 4, code := jdk_52_method_40_code, exceptionTable := #[], attributes := #[] }
def k8m11 : Method := { name := "indexOf", desc := "([BIII)I", sig := { parameters := [(.array .byte), .int, .int, .int], returnType := some .int }, accessFlags := 9, code := some k8c11 }
def k8c12 : Code := { maxStack := 4, maxLocals := 4, code := jdk_52_method_47_code, exceptionTable := #[], attributes := #[] }
def k8m12 : Method := { name := "indexOfChar", desc := "([BIII)I", sig := { parameters := [(.array .byte), .int, .int, .int], returnType := some .int }, accessFlags := 10, code := some k8c12 }
def k8c13 : Code := { maxStack := 2, maxLocals := 5, code := jdk_52_method_48_code, exceptionTable := #[], attributes := #[] }
def k8m13 : Method := { name := "indexOfCharUnsafe", desc := "([BIII)I", sig := { parameters := [(.array .byte), .int, .int, .int], returnType := some .int }, accessFlags := 10, code := some k8c13 }
def k8c14 : Code := { maxStack := 4, maxLocals := 6, code := jdk_52_method_86_code, exceptionTable := #[], attributes := #[] }
def k8m14 : Method := { name := "inflate", desc := "([BI[BII)V", sig := { parameters := [(.array .byte), .int, (.array .byte), .int, .int], returnType := none }, accessFlags := 9, code := some k8c14 }
def k8c15 : Code := { maxStack := 3, maxLocals := 3, code := jdk_52_method_93_code, exceptionTable := #[], attributes := #[] }
def k8m15 : Method := { name := "checkBoundsBeginEnd", desc := "(II[B)V", sig := { parameters := [.int, .int, (.array .byte)], returnType := none }, accessFlags := 9, code := some k8c15 }
def k8c16 : Code := { maxStack := 3, maxLocals := 3, code := jdk_52_method_94_code, exceptionTable := #[], attributes := #[] }
def k8m16 : Method := { name := "checkBoundsOffCount", desc := "(II[B)V", sig := { parameters := [.int, .int, (.array .byte)], returnType := none }, accessFlags := 9, code := some k8c16 }
/-- java/lang/StringUTF16 -/
def k8 : Class := { plain "java/lang/StringUTF16" (some 0) with
  accessFlags := 48
  interfaces := #[]
  cf := some (fileOf pool8 12 #[.nestMembers #[627, 629, 369]] #[{ accessFlags := 0, nameIndex := 9, descriptorIndex := 10, attributes := #[] }, { accessFlags := 9, nameIndex := 109, descriptorIndex := 110, attributes := #[] }, { accessFlags := 9, nameIndex := 15, descriptorIndex := 16, attributes := #[] }, { accessFlags := 8, nameIndex := 113, descriptorIndex := 114, attributes := #[] }, { accessFlags := 8, nameIndex := 73, descriptorIndex := 74, attributes := #[] }, { accessFlags := 9, nameIndex := 50, descriptorIndex := 51, attributes := #[] }, { accessFlags := 9, nameIndex := 121, descriptorIndex := 122, attributes := #[] }, { accessFlags := 8, nameIndex := 261, descriptorIndex := 262, attributes := #[] }, { accessFlags := 9, nameIndex := 117, descriptorIndex := 122, attributes := #[] }, { accessFlags := 9, nameIndex := 117, descriptorIndex := 118, attributes := #[] }, { accessFlags := 9, nameIndex := 121, descriptorIndex := 475, attributes := #[] }, { accessFlags := 9, nameIndex := 268, descriptorIndex := 231, attributes := #[] }, { accessFlags := 10, nameIndex := 230, descriptorIndex := 231, attributes := #[] }, { accessFlags := 10, nameIndex := 246, descriptorIndex := 231, attributes := #[] }, { accessFlags := 9, nameIndex := 140, descriptorIndex := 141, attributes := #[] }, { accessFlags := 9, nameIndex := 98, descriptorIndex := 99, attributes := #[] }, { accessFlags := 9, nameIndex := 175, descriptorIndex := 99, attributes := #[] }] 48 6 #[] #[{ accessFlags := 26, nameIndex := 61, descriptorIndex := 62, attributes := #[] }, { accessFlags := 26, nameIndex := 65, descriptorIndex := 62, attributes := #[] }, { accessFlags := 24, nameIndex := 430, descriptorIndex := 62, attributes := #[] }, { accessFlags := 4120, nameIndex := 46, descriptorIndex := 47, attributes := #[] }])
  fields := #[{ name := "HI_BYTE_SHIFT", type := .int, accessFlags := 26, slot := 0, constantValue := 0 }, { name := "LO_BYTE_SHIFT", type := .int, accessFlags := 26, slot := 1, constantValue := 0 }, { name := "MAX_LENGTH", type := .int, accessFlags := 24, slot := 2, constantValue := 0 }, { name := "$assertionsDisabled", type := .boolean, accessFlags := 4120, slot := 3, constantValue := 0 }]
  methods := #[k8m0, k8m1, k8m2, k8m3, k8m4, k8m5, k8m6, k8m7, k8m8, k8m9, k8m10, k8m11, k8m12, k8m13, k8m14, k8m15, k8m16]
  instanceTypes := #[]
  staticTypes := #[.int, .int, .int, .boolean]
  resolved := Array.replicate 635 none
  statics := some 1 }

def pool9 : Array CpInfo := pool [(4, .class_ 6), (1, u "java/lang/Object"), (0, u "<init>"), (0, u "()V"), (5, .class_ 16), (1, u "java/lang/StringLatin1"), (0, u "inflate"), (2, .class_ 22), (1, u "java/lang/StringUTF16"), (3, .nameAndType 17 27), (0, u "([BI[BII)V"), (10, .methodref 39 40), (0, .class_ 41), (0, .nameAndType 42 43), (0, u "java/lang/Math"), (0, u "min"), (0, u "(II)I"), (44, .methodref 14 89), (0, .nameAndType 90 91), (0, u "canEncode"), (0, u "(I)Z"), (0, .methodref 39 93), (0, .nameAndType 94 43), (0, u "max"), (0, .methodref 14 96), (0, .nameAndType 97 98), (0, u "indexOfChar"), (0, u "([BIII)I"), (2, u "indexOf"), (3, u "(C)Z"), (15, u "$assertionsDisabled"), (0, u "Z"), (98, .class_ 223), (1, u "java/lang/StringLatin1$LinesSpliterator"), (16, .methodref 20 26), (139, u "toBytes"), (1, u "(C)[B"), (7, .class_ 391), (0, u "java/lang/StringLatin1$CharsSpliterator")] 3

def k9m0 : Method := { name := "<init>", desc := "()V", sig := { parameters := [], returnType := none }, accessFlags := 0, code := none }
def k9c1 : Code := { maxStack := 2, maxLocals := 1, code := jdk_43_method_3_code, exceptionTable := #[], attributes := #[] }
def k9m1 : Method := { name := "canEncode", desc := "(C)Z", sig := { parameters := [.char], returnType := some .boolean }, accessFlags := 9, code := some k9c1 }
def k9c2 : Code := { maxStack := 2, maxLocals := 1, code := jdk_43_method_4_code, exceptionTable := #[], attributes := #[] }
def k9m2 : Method := { name := "canEncode", desc := "(I)Z", sig := { parameters := [.int], returnType := some .boolean }, accessFlags := 9, code := some k9c2 }
def k9c3 : Code := { maxStack := 4, maxLocals := 4, code := jdk_43_method_22_code, exceptionTable := #[], attributes := #[] }
def k9m3 : Method := { name := "indexOf", desc := "([BIII)I", sig := { parameters := [(.array .byte), .int, .int, .int], returnType := some .int }, accessFlags := 9, code := some k9c3 }
def k9c4 : Code := { maxStack := 2, maxLocals := 6, code := jdk_43_method_23_code, exceptionTable := #[], attributes := #[] }
def k9m4 : Method := { name := "indexOfChar", desc := "([BIII)I", sig := { parameters := [(.array .byte), .int, .int, .int], returnType := some .int }, accessFlags := 10, code := some k9c4 }
def k9c5 : Code := { maxStack := 4, maxLocals := 1, code := jdk_43_method_46_code, exceptionTable := #[], attributes := #[] }
def k9m5 : Method := { name := "toBytes", desc := "(C)[B", sig := { parameters := [.char], returnType := some (.array .byte) }, accessFlags := 9, code := some k9c5 }
def k9c6 : Code := { maxStack := 5, maxLocals := 5, code := jdk_43_method_50_code, exceptionTable := #[], attributes := #[] }
def k9m6 : Method := { name := "inflate", desc := "([BI[BII)V", sig := { parameters := [(.array .byte), .int, (.array .byte), .int, .int], returnType := none }, accessFlags := 9, code := some k9c6 }
/-- java/lang/StringLatin1 -/
def k9 : Class := { plain "java/lang/StringLatin1" (some 0) with
  accessFlags := 48
  interfaces := #[]
  cf := some (fileOf pool9 14 #[.nestMembers #[390, 221]] #[{ accessFlags := 0, nameIndex := 7, descriptorIndex := 8, attributes := #[] }, { accessFlags := 9, nameIndex := 90, descriptorIndex := 105, attributes := #[] }, { accessFlags := 9, nameIndex := 90, descriptorIndex := 91, attributes := #[] }, { accessFlags := 9, nameIndex := 101, descriptorIndex := 98, attributes := #[] }, { accessFlags := 10, nameIndex := 97, descriptorIndex := 98, attributes := #[] }, { accessFlags := 9, nameIndex := 380, descriptorIndex := 382, attributes := #[] }, { accessFlags := 9, nameIndex := 17, descriptorIndex := 27, attributes := #[] }] 48 4 #[] #[{ accessFlags := 4120, nameIndex := 121, descriptorIndex := 122, attributes := #[] }])
  fields := #[{ name := "$assertionsDisabled", type := .boolean, accessFlags := 4120, slot := 0, constantValue := 0 }]
  methods := #[k9m0, k9m1, k9m2, k9m3, k9m4, k9m5, k9m6]
  instanceTypes := #[]
  staticTypes := #[.boolean]
  resolved := Array.replicate 395 none
  statics := none }

def pool10 : Array CpInfo := pool [(2, .class_ 4), (0, .nameAndType 5 6), (0, u "java/lang/Object"), (0, u "<init>"), (0, u "()V"), (3, .class_ 11), (0, u "java/lang/StringBuilder"), (0, .methodref 10 3), (0, .methodref 10 14), (0, .nameAndType 15 16), (0, u "append"), (0, u "(Ljava/lang/String;)Ljava/lang/StringBuilder;"), (0, .string 18), (0, u " cannot be null"), (0, .methodref 10 20), (0, .nameAndType 21 22), (0, u "toString"), (0, u "()Ljava/lang/String;"), (0, .methodref 24 25), (0, .class_ 26), (0, .nameAndType 27 28), (0, u "java/util/Objects"), (0, u "requireNonNull"), (0, u "(Ljava/lang/Object;Ljava/lang/String;)Ljava/lang/Object;"), (0, .methodref 30 31), (0, .class_ 32), (0, .nameAndType 33 34), (0, u "java/lang/String"), (0, u "isEmpty"), (0, u "()Z"), (0, .methodref 30 36), (0, .nameAndType 37 38), (0, u "indexOf"), (0, u "(I)I"), (9, .class_ 49), (0, u "com/example/steady_step/steadystep/machine/Names"), (2, u "require"), (0, u "(Ljava/lang/String;Ljava/lang/String;)Ljava/lang/String;")] 3

def k10m0 : Method := { name := "<init>", desc := "()V", sig := { parameters := [], returnType := none }, accessFlags := 2, code := none }
def k10c1 : Code := { maxStack := 4, maxLocals := 2, code := prog_12_method_2_code, exceptionTable := #[], attributes := #[] }
def k10m1 : Method := { name := "require", desc := "(Ljava/lang/String;Ljava/lang/String;)Ljava/lang/String;", sig := { parameters := [(.object "java/lang/String"), (.object "java/lang/String")], returnType := some (.object "java/lang/String") }, accessFlags := 9, code := some k10c1 }
/-- com/example/steady_step/steadystep/machine/Names -/
def k10 : Class := { plain "com/example/steady_step/steadystep/machine/Names" (some 0) with
  accessFlags := 49
  interfaces := #[]
  cf := some (fileOf pool10 48 #[] #[{ accessFlags := 2, nameIndex := 5, descriptorIndex := 6, attributes := #[] }, { accessFlags := 9, nameIndex := 52, descriptorIndex := 53, attributes := #[] }] 49 2 #[] #[])
  fields := #[]
  methods := #[k10m0, k10m1]
  instanceTypes := #[]
  staticTypes := #[]
  resolved := Array.replicate 57 none
  statics := none }

def pool11 : Array CpInfo := pool [(1, .class_ 2), (0, u "java/lang/Appendable"), (0, .class_ 4), (0, u "java/lang/Object")] 9

/-- java/lang/Appendable -/
def k11 : Class := { plain "java/lang/Appendable" (some 0) with
  accessFlags := 1537
  interfaces := #[]
  cf := some (fileOf pool11 1 #[] #[] 1537 3 #[] #[])
  fields := #[]
  methods := #[]
  instanceTypes := #[]
  staticTypes := #[]
  resolved := Array.replicate 14 none
  statics := none }

def pool12 : Array CpInfo := pool [(1, .class_ 2), (0, u "java/lang/String"), (0, .methodref 4 5), (0, .class_ 6), (0, .nameAndType 7 8), (0, u "java/lang/Object"), (0, u "<init>"), (0, u "()V"), (1, .class_ 12), (1, u "java/lang/AbstractStringBuilder"), (0, u "EMPTYVALUE"), (0, u "[B"), (0, .fieldref 10 16), (0, .nameAndType 17 14), (0, u "value"), (0, .fieldref 1 19), (0, .nameAndType 20 21), (0, u "COMPACT_STRINGS"), (0, u "Z"), (0, .fieldref 10 23), (0, .nameAndType 24 25), (0, u "coder"), (0, u "B"), (0, .methodref 27 28), (0, .class_ 29), (0, .nameAndType 30 31), (0, u "java/lang/StringUTF16"), (0, u "newBytesFor"), (0, u "(I)[B"), (0, .methodref 1 33), (0, .nameAndType 34 35), (0, u "length"), (0, u "()I"), (4, .methodref 1 41), (0, .nameAndType 24 42), (0, u "()B"), (2, u "append"), (0, u "(Ljava/lang/String;)Ljava/lang/AbstractStringBuilder;"), (1, .class_ 49), (0, u "java/lang/CharSequence"), (19, u "(Ljava/lang/String;)V"), (5, u "maybeLatin1"), (3, .fieldref 10 80), (0, .nameAndType 81 82), (0, u "count"), (0, u "I"), (0, .methodref 10 84), (0, .nameAndType 85 86), (0, u "isLatin1"), (0, u "()Z"), (1, .class_ 90), (1, u "java/lang/StringLatin1"), (9, .methodref 10 101), (0, .nameAndType 102 103), (0, u "ensureCapacityInternal"), (0, u "(I)V"), (21, .methodref 88 126), (0, .nameAndType 127 128), (0, u "inflate"), (0, u "([BI[BII)V"), (66, .methodref 10 196), (0, .nameAndType 127 8), (11, .methodref 10 209), (0, .nameAndType 210 211), (0, u "putStringAt"), (0, u "(ILjava/lang/String;)V"), (5, u "inflateIfNeededFor"), (2, .nameAndType 221 222), (0, u "getBytes"), (0, u "([BIB)V"), (174, .methodref 10 398), (0, .nameAndType 217 69), (0, .methodref 1 220), (3, u "()[B"), (40, .class_ 445), (0, u "java/lang/Appendable"), (106, u "getValue")] 56

def k12m0 : Method := { name := "<init>", desc := "()V", sig := { parameters := [], returnType := none }, accessFlags := 0, code := none }
def k12c1 : Code := { maxStack := 2, maxLocals := 2, code := jdk_68_method_2_code, exceptionTable := #[], attributes := #[] }
def k12m1 : Method := { name := "<init>", desc := "(I)V", sig := { parameters := [.int], returnType := none }, accessFlags := 0, code := some k12c1 }
def k12c2 : Code := { maxStack := 1, maxLocals := 1, code := jdk_68_method_6_code, exceptionTable := #[], attributes := #[] }
def k12m2 : Method := { name := "length", desc := "()I", sig := { parameters := [], returnType := some .int }, accessFlags := 1, code := some k12c2 }
def k12c3 : Code := { maxStack := 4, maxLocals := 3, code := jdk_68_method_9_code, exceptionTable := #[], attributes := #[] }
def k12m3 : Method := { name := "ensureCapacityInternal", desc := "(I)V", sig := { parameters := [.int], returnType := none }, accessFlags := 2, code := some k12c3 }
def k12c4 : Code := { maxStack := 5, maxLocals := 2, code := jdk_68_method_11_code, exceptionTable := #[], attributes := #[] }
def k12m4 : Method := { name := "inflate", desc := "()V", sig := { parameters := [], returnType := none }, accessFlags := 2, code := some k12c4 }
def k12c5 : Code := { maxStack := 3, maxLocals := 3, code := jdk_68_method_22_code, exceptionTable := #[], attributes := #[] }
def k12m5 : Method := { name := "append", desc := "(Ljava/lang/String;)Ljava/lang/AbstractStringBuilder;", sig := { parameters := [(.object "java/lang/String")], returnType := some (.object "java/lang/AbstractStringBuilder") }, accessFlags := 1, code := some k12c5 }
def k12c6 : Code := { maxStack := 1, maxLocals := 1, code := jdk_68_method_64_code, exceptionTable := #[], attributes := #[] }
def k12m6 : Method := { name := "getValue", desc := "()[B", sig := { parameters := [], returnType := some (.array .byte) }, accessFlags := 16, code := some k12c6 }
def k12c7 : Code := { maxStack := 1, maxLocals := 1, code := jdk_68_method_68_code, exceptionTable := #[], attributes := #[] }
def k12m7 : Method := { name := "isLatin1", desc := "()Z", sig := { parameters := [], returnType := some .boolean }, accessFlags := 16, code := some k12c7 }
def k12c8 : Code := { maxStack := 2, maxLocals := 2, code := jdk_68_method_71_code, exceptionTable := #[], attributes := #[] }
def k12m8 : Method := { name := "inflateIfNeededFor", desc := "(Ljava/lang/String;)V", sig := { parameters := [(.object "java/lang/String")], returnType := none }, accessFlags := 2, code := some k12c8 }
def k12c9 : Code := { maxStack := 4, maxLocals := 3, code := jdk_68_method_73_code, exceptionTable := #[], attributes := #[] }
def k12m9 : Method := { name := "putStringAt", desc := "(ILjava/lang/String;)V", sig := { parameters := [.int, (.object "java/lang/String")], returnType := none }, accessFlags := 2, code := some k12c9 }
/-- java/lang/AbstractStringBuilder -/
def k12 : Class := { plain "java/lang/AbstractStringBuilder" (some 0) with
  accessFlags := 1056
  interfaces := #[11, 4]
  cf := some (fileOf pool12 10 #[] #[{ accessFlags := 0, nameIndex := 7, descriptorIndex := 8, attributes := #[] }, { accessFlags := 0, nameIndex := 7, descriptorIndex := 103, attributes := #[] }, { accessFlags := 1, nameIndex := 34, descriptorIndex := 35, attributes := #[] }, { accessFlags := 2, nameIndex := 102, descriptorIndex := 103, attributes := #[] }, { accessFlags := 2, nameIndex := 127, descriptorIndex := 8, attributes := #[] }, { accessFlags := 1, nameIndex := 45, descriptorIndex := 46, attributes := #[] }, { accessFlags := 16, nameIndex := 552, descriptorIndex := 403, attributes := #[] }, { accessFlags := 16, nameIndex := 85, descriptorIndex := 86, attributes := #[] }, { accessFlags := 2, nameIndex := 217, descriptorIndex := 69, attributes := #[] }, { accessFlags := 2, nameIndex := 210, descriptorIndex := 211, attributes := #[] }] 1056 4 #[444, 48] #[{ accessFlags := 0, nameIndex := 17, descriptorIndex := 14, attributes := #[] }, { accessFlags := 0, nameIndex := 24, descriptorIndex := 25, attributes := #[] }, { accessFlags := 0, nameIndex := 75, descriptorIndex := 21, attributes := #[] }, { accessFlags := 0, nameIndex := 81, descriptorIndex := 82, attributes := #[] }, { accessFlags := 26, nameIndex := 13, descriptorIndex := 14, attributes := #[] }])
  fields := #[{ name := "value", type := (.array .byte), accessFlags := 0, slot := 0, constantValue := 0 }, { name := "coder", type := .byte, accessFlags := 0, slot := 1, constantValue := 0 }, { name := "maybeLatin1", type := .boolean, accessFlags := 0, slot := 2, constantValue := 0 }, { name := "count", type := .int, accessFlags := 0, slot := 3, constantValue := 0 }, { name := "EMPTYVALUE", type := (.array .byte), accessFlags := 26, slot := 0, constantValue := 0 }]
  methods := #[k12m0, k12m1, k12m2, k12m3, k12m4, k12m5, k12m6, k12m7, k12m8, k12m9]
  instanceTypes := #[(.array .byte), .byte, .boolean, .int]
  staticTypes := #[(.array .byte)]
  resolved := Array.replicate 609 none
  statics := none }

def pool13 : Array CpInfo := pool [(1, .methodref 2 3), (0, .class_ 4), (0, .nameAndType 5 6), (0, u "java/lang/AbstractStringBuilder"), (0, u "<init>"), (0, u "(I)V"), (11, .class_ 20), (1, u "java/lang/String"), (3, .class_ 26), (1, u "java/lang/StringBuilder"), (0, u "append"), (0, u "(Ljava/lang/String;)Ljava/lang/StringBuilder;"), (0, .methodref 2 30), (0, .nameAndType 27 31), (0, u "(Ljava/lang/String;)Ljava/lang/AbstractStringBuilder;"), (105, .methodref 18 138), (0, .nameAndType 5 139), (0, u "(Ljava/lang/StringBuilder;)V"), (5, u "()V"), (10, u "()I"), (186, .methodref 2 344), (0, .nameAndType 345 156), (0, u "length"), (3, .class_ 350), (0, u "java/lang/Appendable"), (0, .class_ 352), (0, u "java/io/Serializable"), (0, .class_ 354), (0, u "java/lang/Comparable"), (0, .class_ 356), (0, u "java/lang/CharSequence"), (0, u "serialVersionUID"), (0, u "J"), (40, u "toString"), (0, u "()Ljava/lang/String;")] 21

def k13c0 : Code := { maxStack := 2, maxLocals := 1, code := jdk_67_method_1_code, exceptionTable := #[], attributes := #[] }
def k13m0 : Method := { name := "<init>", desc := "()V", sig := { parameters := [], returnType := none }, accessFlags := 1, code := some k13c0 }
def k13c1 : Code := { maxStack := 2, maxLocals := 2, code := jdk_67_method_7_code, exceptionTable := #[], attributes := #[] }
def k13m1 : Method := { name := "append", desc := "(Ljava/lang/String;)Ljava/lang/StringBuilder;", sig := { parameters := [(.object "java/lang/String")], returnType := some (.object "java/lang/StringBuilder") }, accessFlags := 1, code := some k13c1 }
def k13c2 : Code := { maxStack := 3, maxLocals := 1, code := jdk_67_method_42_code, exceptionTable := #[], attributes := #[] }
def k13m2 : Method := { name := "toString", desc := "()Ljava/lang/String;", sig := { parameters := [], returnType := some (.object "java/lang/String") }, accessFlags := 1, code := some k13c2 }
def k13c3 : Code := { maxStack := 1, maxLocals := 1, code := jdk_67_method_93_code, exceptionTable := #[], attributes := #[] }
def k13m3 : Method := { name := "length", desc := "()I", sig := { parameters := [], returnType := some .int }, accessFlags := 4161, code := some k13c3 }
/-- java/lang/StringBuilder -/
def k13 : Class := { plain "java/lang/StringBuilder" (some 12) with
  accessFlags := 49
  interfaces := #[11, 2, 3, 4]
  cf := some (fileOf pool13 24 #[] #[{ accessFlags := 1, nameIndex := 5, descriptorIndex := 145, attributes := #[] }, { accessFlags := 1, nameIndex := 27, descriptorIndex := 28, attributes := #[] }, { accessFlags := 1, nameIndex := 399, descriptorIndex := 400, attributes := #[] }, { accessFlags := 4161, nameIndex := 345, descriptorIndex := 156, attributes := #[] }] 49 2 #[349, 351, 353, 355] #[{ accessFlags := 24, nameIndex := 357, descriptorIndex := 358, attributes := #[] }])
  fields := #[{ name := "serialVersionUID", type := .long, accessFlags := 24, slot := 0, constantValue := 0 }]
  methods := #[k13m0, k13m1, k13m2, k13m3]
  instanceTypes := #[(.array .byte), .byte, .boolean, .int]
  staticTypes := #[.long]
  resolved := Array.replicate 422 none
  statics := none }

def pool14 : Array CpInfo := pool [(2, .class_ 4), (1, u "java/lang/Object"), (0, u "<init>"), (0, u "()V"), (1, .class_ 10), (1, u "java/lang/System"), (0, u "allowSecurityManager"), (0, u "I"), (16, u "cons"), (0, u "Ljava/io/Console;"), (77, .class_ 110), (1, u "java/lang/System$CallersHolder"), (43, u "initialErrStream"), (0, u "Ljava/io/PrintStream;"), (19, u "security"), (0, u "Ljava/lang/SecurityManager;"), (31, .class_ 209), (0, u "java/lang/System$1"), (7, u "props"), (0, u "Ljava/util/Properties;"), (2, u "lineSeparator"), (0, u "Ljava/lang/String;"), (96, .class_ 321), (1, u "java/lang/System$LoggerFinder"), (5, .class_ 328), (0, u "java/lang/System$Logger"), (67, u "err"), (2, u "out"), (91, u "notSupportedJnuEncoding"), (15, u "in"), (17, u "initialIn"), (0, u "Ljava/io/InputStream;"), (35, u "bootLayer"), (0, u "Ljava/lang/ModuleLayer;"), (99, .class_ 664), (0, u "java/lang/System$2"), (9, u "NEVER"), (2, u "MAYBE"), (49, u "arraycopy"), (0, u "(Ljava/lang/Object;ILjava/lang/Object;II)V"), (72, .class_ 802), (0, u "java/lang/System$Logger$Level")] 31

def k14m0 : Method := { name := "<init>", desc := "()V", sig := { parameters := [], returnType := none }, accessFlags := 2, code := none }
def k14m1 : Method := { name := "arraycopy", desc := "(Ljava/lang/Object;ILjava/lang/Object;II)V", sig := { parameters := [(.object "java/lang/Object"), .int, (.object "java/lang/Object"), .int, .int], returnType := none }, accessFlags := 265, code := none }
/-- java/lang/System -/
def k14 : Class := { plain "java/lang/System" (some 0) with
  accessFlags := 49
  interfaces := #[]
  cf := some (fileOf pool14 8 #[.nestMembers #[319, 327, 801, 108, 663, 208]] #[{ accessFlags := 2, nameIndex := 5, descriptorIndex := 6, attributes := #[] }, { accessFlags := 265, nameIndex := 727, descriptorIndex := 728, attributes := #[] }] 49 2 #[] #[{ accessFlags := 25, nameIndex := 507, descriptorIndex := 526, attributes := #[] }, { accessFlags := 25, nameIndex := 399, descriptorIndex := 155, attributes := #[] }, { accessFlags := 25, nameIndex := 396, descriptorIndex := 155, attributes := #[] }, { accessFlags := 10, nameIndex := 525, descriptorIndex := 526, attributes := #[] }, { accessFlags := 26, nameIndex := 674, descriptorIndex := 12, attributes := #[] }, { accessFlags := 26, nameIndex := 677, descriptorIndex := 12, attributes := #[] }, { accessFlags := 10, nameIndex := 11, descriptorIndex := 12, attributes := #[] }, { accessFlags := 74, nameIndex := 175, descriptorIndex := 176, attributes := #[] }, { accessFlags := 10, nameIndex := 491, descriptorIndex := 222, attributes := #[] }, { accessFlags := 74, nameIndex := 29, descriptorIndex := 30, attributes := #[] }, { accessFlags := 74, nameIndex := 154, descriptorIndex := 155, attributes := #[] }, { accessFlags := 10, nameIndex := 217, descriptorIndex := 218, attributes := #[] }, { accessFlags := 10, nameIndex := 221, descriptorIndex := 222, attributes := #[] }, { accessFlags := 8, nameIndex := 562, descriptorIndex := 563, attributes := #[] }])
  fields := #[{ name := "in", type := (.object "java/io/InputStream"), accessFlags := 25, slot := 0, constantValue := 0 }, { name := "out", type := (.object "java/io/PrintStream"), accessFlags := 25, slot := 1, constantValue := 0 }, { name := "err", type := (.object "java/io/PrintStream"), accessFlags := 25, slot := 2, constantValue := 0 }, { name := "initialIn", type := (.object "java/io/InputStream"), accessFlags := 10, slot := 3, constantValue := 0 }, { name := "NEVER", type := .int, accessFlags := 26, slot := 4, constantValue := 0 }, { name := "MAYBE", type := .int, accessFlags := 26, slot := 5, constantValue := 0 }, { name := "allowSecurityManager", type := .int, accessFlags := 10, slot := 6, constantValue := 0 }, { name := "security", type := (.object "java/lang/SecurityManager"), accessFlags := 74, slot := 7, constantValue := 0 }, { name := "notSupportedJnuEncoding", type := (.object "java/lang/String"), accessFlags := 10, slot := 8, constantValue := 0 }, { name := "cons", type := (.object "java/io/Console"), accessFlags := 74, slot := 9, constantValue := 0 }, { name := "initialErrStream", type := (.object "java/io/PrintStream"), accessFlags := 74, slot := 10, constantValue := 0 }, { name := "props", type := (.object "java/util/Properties"), accessFlags := 10, slot := 11, constantValue := 0 }, { name := "lineSeparator", type := (.object "java/lang/String"), accessFlags := 10, slot := 12, constantValue := 0 }, { name := "bootLayer", type := (.object "java/lang/ModuleLayer"), accessFlags := 8, slot := 13, constantValue := 0 }]
  methods := #[k14m0, k14m1]
  instanceTypes := #[]
  staticTypes := #[(.object "java/io/InputStream"), (.object "java/io/PrintStream"), (.object "java/io/PrintStream"), (.object "java/io/InputStream"), .int, .int, .int, (.object "java/lang/SecurityManager"), (.object "java/lang/String"), (.object "java/io/Console"), (.object "java/io/PrintStream"), (.object "java/util/Properties"), (.object "java/lang/String"), (.object "java/lang/ModuleLayer")]
  resolved := Array.replicate 834 none
  statics := none }

def pool15 : Array CpInfo := pool [(2, .class_ 4), (1, u "java/lang/Object"), (0, u "<init>"), (0, u "()V"), (7, .class_ 16), (1, u "java/util/Arrays"), (57, .class_ 76), (1, u "java/util/Arrays$NaturalOrder"), (32, u "()Ljava/lang/Object;"), (3, .class_ 115), (1, u "java/util/Arrays$LegacyMergeSort"), (1, u "Z"), (10, .nameAndType 129 109), (0, u "clone"), (9, u "copyOfRange"), (170, .methodref 311 128), (0, .class_ 312), (0, u "[B"), (29, u "([BII)[B"), (32, .class_ 376), (0, u "java/util/Arrays$ArrayList"), (68, u "$assertionsDisabled"), (269, u "MIN_ARRAY_SORT_GRAN"), (0, u "I"), (2, u "INSERTIONSORT_THRESHOLD"), (255, .class_ 976), (0, u "java/util/Arrays$ArrayItr")] 52

def k15m0 : Method := { name := "<init>", desc := "()V", sig := { parameters := [], returnType := none }, accessFlags := 2, code := none }
def k15c1 : Code := { maxStack := 3, maxLocals := 3, code := jdk_65_method_132_code, exceptionTable := #[], attributes := #[] }
def k15m1 : Method := { name := "copyOfRange", desc := "([BII)[B", sig := { parameters := [(.array .byte), .int, .int], returnType := some (.array .byte) }, accessFlags := 9, code := some k15c1 }
/-- java/util/Arrays -/
def k15 : Class := { plain "java/util/Arrays" (some 0) with
  accessFlags := 49
  interfaces := #[]
  cf := some (fileOf pool15 14 #[.nestMembers #[975, 375, 113, 74]] #[{ accessFlags := 2, nameIndex := 5, descriptorIndex := 6, attributes := #[] }, { accessFlags := 9, nameIndex := 139, descriptorIndex := 342, attributes := #[] }] 49 2 #[] #[{ accessFlags := 26, nameIndex := 715, descriptorIndex := 716, attributes := #[] }, { accessFlags := 26, nameIndex := 719, descriptorIndex := 716, attributes := #[] }, { accessFlags := 4120, nameIndex := 445, descriptorIndex := 117, attributes := #[] }])
  fields := #[{ name := "MIN_ARRAY_SORT_GRAN", type := .int, accessFlags := 26, slot := 0, constantValue := 0 }, { name := "INSERTIONSORT_THRESHOLD", type := .int, accessFlags := 26, slot := 1, constantValue := 0 }, { name := "$assertionsDisabled", type := .boolean, accessFlags := 4120, slot := 2, constantValue := 0 }]
  methods := #[k15m0, k15m1]
  instanceTypes := #[]
  staticTypes := #[.int, .int, .boolean]
  resolved := Array.replicate 1029 none
  statics := none }

def pool16 : Array CpInfo := pool [(1, .class_ 2), (0, u "java/lang/Cloneable"), (0, .class_ 4), (0, u "java/lang/Object")] 2

/-- java/lang/Cloneable -/
def k16 : Class := { plain "java/lang/Cloneable" (some 0) with
  accessFlags := 1537
  interfaces := #[]
  cf := some (fileOf pool16 1 #[] #[] 1537 3 #[] #[])
  fields := #[]
  methods := #[]
  instanceTypes := #[]
  staticTypes := #[]
  resolved := Array.replicate 7 none
  statics := none }

def pool17 : Array CpInfo := pool [(2, .class_ 4), (1, u "java/lang/Object"), (0, u "<init>"), (0, u "()V"), (35, .class_ 44), (1, u "java/util/Objects"), (0, u "requireNonNull"), (48, u "(Ljava/lang/Object;Ljava/lang/String;)Ljava/lang/Object;")] 89

def k17m0 : Method := { name := "<init>", desc := "()V", sig := { parameters := [], returnType := none }, accessFlags := 2, code := none }
def k17c1 : Code := { maxStack := 3, maxLocals := 2, code := jdk_31_method_11_code, exceptionTable := #[], attributes := #[] }
def k17m1 : Method := { name := "requireNonNull", desc := "(Ljava/lang/Object;Ljava/lang/String;)Ljava/lang/Object;", sig := { parameters := [(.object "java/lang/Object"), (.object "java/lang/String")], returnType := some (.object "java/lang/Object") }, accessFlags := 9, code := some k17c1 }
/-- java/util/Objects -/
def k17 : Class := { plain "java/util/Objects" (some 0) with
  accessFlags := 49
  interfaces := #[]
  cf := some (fileOf pool17 42 #[] #[{ accessFlags := 2, nameIndex := 5, descriptorIndex := 6, attributes := #[] }, { accessFlags := 9, nameIndex := 45, descriptorIndex := 94, attributes := #[] }] 49 2 #[] #[])
  fields := #[]
  methods := #[k17m0, k17m1]
  instanceTypes := #[]
  staticTypes := #[]
  resolved := Array.replicate 184 none
  statics := none }

def pool18 : Array CpInfo := pool [(1, .class_ 2), (0, u "java/lang/Math"), (1, .class_ 6), (1, u "java/lang/Object"), (0, u "<init>"), (0, u "()V"), (89, .class_ 100), (1, u "java/lang/Math$RandomNumberGeneratorHolder"), (71, u "negativeZeroFloatBits"), (0, u "J"), (2, u "negativeZeroDoubleBits"), (21, u "max"), (2, u "min"), (43, u "$assertionsDisabled"), (0, u "Z"), (88, u "(II)I"), (2, u "twoToTheDoubleScaleDown"), (0, u "D"), (4, u "twoToTheDoubleScaleUp"), (9, u "E"), (3, u "PI"), (2, u "TAU"), (2, u "DEGREES_TO_RADIANS"), (0, u "RADIANS_TO_DEGREES")] 94

def k18m0 : Method := { name := "<init>", desc := "()V", sig := { parameters := [], returnType := none }, accessFlags := 2, code := none }
def k18c1 : Code := { maxStack := 2, maxLocals := 2, code := jdk_29_method_65_code, exceptionTable := #[], attributes := #[] }
def k18m1 : Method := { name := "max", desc := "(II)I", sig := { parameters := [.int, .int], returnType := some .int }, accessFlags := 9, code := some k18c1 }
def k18c2 : Code := { maxStack := 2, maxLocals := 2, code := jdk_29_method_69_code, exceptionTable := #[], attributes := #[] }
def k18m2 : Method := { name := "min", desc := "(II)I", sig := { parameters := [.int, .int], returnType := some .int }, accessFlags := 9, code := some k18c2 }
/-- java/lang/Math -/
def k18 : Class := { plain "java/lang/Math" (some 0) with
  accessFlags := 49
  interfaces := #[]
  cf := some (fileOf pool18 1 #[.nestMembers #[98]] #[{ accessFlags := 2, nameIndex := 7, descriptorIndex := 8, attributes := #[] }, { accessFlags := 9, nameIndex := 198, descriptorIndex := 335, attributes := #[] }, { accessFlags := 9, nameIndex := 201, descriptorIndex := 335, attributes := #[] }] 49 4 #[] #[{ accessFlags := 25, nameIndex := 354, descriptorIndex := 339, attributes := #[] }, { accessFlags := 25, nameIndex := 358, descriptorIndex := 339, attributes := #[] }, { accessFlags := 25, nameIndex := 361, descriptorIndex := 339, attributes := #[] }, { accessFlags := 26, nameIndex := 364, descriptorIndex := 339, attributes := #[] }, { accessFlags := 26, nameIndex := 365, descriptorIndex := 339, attributes := #[] }, { accessFlags := 26, nameIndex := 172, descriptorIndex := 173, attributes := #[] }, { accessFlags := 26, nameIndex := 176, descriptorIndex := 173, attributes := #[] }, { accessFlags := 8, nameIndex := 344, descriptorIndex := 339, attributes := #[] }, { accessFlags := 8, nameIndex := 338, descriptorIndex := 339, attributes := #[] }, { accessFlags := 4120, nameIndex := 245, descriptorIndex := 246, attributes := #[] }])
  fields := #[{ name := "E", type := .double, accessFlags := 25, slot := 0, constantValue := 0 }, { name := "PI", type := .double, accessFlags := 25, slot := 1, constantValue := 0 }, { name := "TAU", type := .double, accessFlags := 25, slot := 2, constantValue := 0 }, { name := "DEGREES_TO_RADIANS", type := .double, accessFlags := 26, slot := 3, constantValue := 0 }, { name := "RADIANS_TO_DEGREES", type := .double, accessFlags := 26, slot := 4, constantValue := 0 }, { name := "negativeZeroFloatBits", type := .long, accessFlags := 26, slot := 5, constantValue := 0 }, { name := "negativeZeroDoubleBits", type := .long, accessFlags := 26, slot := 6, constantValue := 0 }, { name := "twoToTheDoubleScaleUp", type := .double, accessFlags := 8, slot := 7, constantValue := 0 }, { name := "twoToTheDoubleScaleDown", type := .double, accessFlags := 8, slot := 8, constantValue := 0 }, { name := "$assertionsDisabled", type := .boolean, accessFlags := 4120, slot := 9, constantValue := 0 }]
  methods := #[k18m0, k18m1, k18m2]
  instanceTypes := #[]
  staticTypes := #[.double, .double, .double, .double, .double, .long, .long, .double, .double, .boolean]
  resolved := Array.replicate 460 none
  statics := none }

def pool19 : Array CpInfo := pool [(2, .class_ 4), (1, u "java/lang/Object"), (0, u "<init>"), (0, u "()V"), (17, .class_ 26), (1, u "jdk/internal/util/Preconditions"), (20, u "checkFromToIndex"), (1, u "checkFromIndexSize"), (5, .class_ 56), (0, u "jdk/internal/util/Preconditions$4"), (57, .class_ 115), (0, u "jdk/internal/util/Preconditions$1"), (7, u "SIOOBE_FORMATTER"), (0, u "Ljava/util/function/BiFunction;"), (0, .class_ 126), (0, u "jdk/internal/util/Preconditions$2"), (3, u "AIOOBE_FORMATTER"), (0, .class_ 132), (0, u "jdk/internal/util/Preconditions$3"), (3, u "IOOBE_FORMATTER"), (46, u "(IIILjava/util/function/BiFunction;)I")] 10

def k19m0 : Method := { name := "<init>", desc := "()V", sig := { parameters := [], returnType := none }, accessFlags := 1, code := none }
def k19c1 : Code := { maxStack := 4, maxLocals := 4, code := jdk_41_method_12_code, exceptionTable := #[], attributes := #[] }
def k19m1 : Method := { name := "checkFromToIndex", desc := "(IIILjava/util/function/BiFunction;)I", sig := { parameters := [.int, .int, .int, (.object "java/util/function/BiFunction")], returnType := some .int }, accessFlags := 9, code := some k19c1 }
def k19c2 : Code := { maxStack := 4, maxLocals := 4, code := jdk_41_method_13_code, exceptionTable := #[], attributes := #[] }
def k19m2 : Method := { name := "checkFromIndexSize", desc := "(IIILjava/util/function/BiFunction;)I", sig := { parameters := [.int, .int, .int, (.object "java/util/function/BiFunction")], returnType := some .int }, accessFlags := 9, code := some k19c2 }
/-- jdk/internal/util/Preconditions -/
def k19 : Class := { plain "jdk/internal/util/Preconditions" (some 0) with
  accessFlags := 33
  interfaces := #[]
  cf := some (fileOf pool19 24 #[.nestMembers #[55, 131, 125, 114]] #[{ accessFlags := 1, nameIndex := 5, descriptorIndex := 6, attributes := #[] }, { accessFlags := 9, nameIndex := 47, descriptorIndex := 183, attributes := #[] }, { accessFlags := 9, nameIndex := 49, descriptorIndex := 183, attributes := #[] }] 33 2 #[] #[{ accessFlags := 25, nameIndex := 123, descriptorIndex := 124, attributes := #[] }, { accessFlags := 25, nameIndex := 130, descriptorIndex := 124, attributes := #[] }, { accessFlags := 25, nameIndex := 136, descriptorIndex := 124, attributes := #[] }])
  fields := #[{ name := "SIOOBE_FORMATTER", type := (.object "java/util/function/BiFunction"), accessFlags := 25, slot := 0, constantValue := 0 }, { name := "AIOOBE_FORMATTER", type := (.object "java/util/function/BiFunction"), accessFlags := 25, slot := 1, constantValue := 0 }, { name := "IOOBE_FORMATTER", type := (.object "java/util/function/BiFunction"), accessFlags := 25, slot := 2, constantValue := 0 }]
  methods := #[k19m0, k19m1, k19m2]
  instanceTypes := #[]
  staticTypes := #[(.object "java/util/function/BiFunction"), (.object "java/util/function/BiFunction"), (.object "java/util/function/BiFunction")]
  resolved := Array.replicate 194 none
  statics := some 2 }

def pool20 : Array CpInfo := pool [(9, u "<init>"), (6, .class_ 18), (1, u "java/lang/Object"), (0, u "()V"), (1, .class_ 23), (1, u "jdk/internal/util/ArraysSupport"), (0, u "LOG2_ARRAY_LONG_INDEX_SCALE"), (0, u "I"), (2, u "U"), (0, u "Ljdk/internal/misc/Unsafe;"), (8, u "BIG_ENDIAN"), (0, u "Z"), (8, u "LOG2_BYTE_BIT_SIZE"), (4, u "LOG2_ARRAY_INT_INDEX_SCALE"), (54, u "JLA"), (0, u "Ljdk/internal/access/JavaLangAccess;"), (11, u "LOG2_ARRAY_BOOLEAN_INDEX_SCALE"), (9, u "LOG2_ARRAY_BYTE_INDEX_SCALE"), (5, u "LOG2_ARRAY_CHAR_INDEX_SCALE"), (5, u "LOG2_ARRAY_SHORT_INDEX_SCALE"), (18, u "LOG2_ARRAY_FLOAT_INDEX_SCALE"), (24, u "LOG2_ARRAY_DOUBLE_INDEX_SCALE"), (89, u "T_BOOLEAN"), (2, u "T_CHAR"), (1, u "T_FLOAT"), (1, u "T_DOUBLE"), (1, u "T_BYTE"), (1, u "T_SHORT"), (1, u "T_INT"), (1, u "T_LONG"), (1, u "SOFT_MAX_ARRAY_LENGTH")] 83

def k20m0 : Method := { name := "<init>", desc := "()V", sig := { parameters := [], returnType := none }, accessFlags := 2, code := none }
/-- jdk/internal/util/ArraysSupport -/
def k20 : Class := { plain "jdk/internal/util/ArraysSupport" (some 0) with
  accessFlags := 33
  interfaces := #[]
  cf := some (fileOf pool20 21 #[] #[{ accessFlags := 2, nameIndex := 9, descriptorIndex := 19, attributes := #[] }] 33 16 #[] #[{ accessFlags := 24, nameIndex := 28, descriptorIndex := 29, attributes := #[] }, { accessFlags := 26, nameIndex := 38, descriptorIndex := 39, attributes := #[] }, { accessFlags := 25, nameIndex := 121, descriptorIndex := 25, attributes := #[] }, { accessFlags := 25, nameIndex := 131, descriptorIndex := 25, attributes := #[] }, { accessFlags := 25, nameIndex := 137, descriptorIndex := 25, attributes := #[] }, { accessFlags := 25, nameIndex := 143, descriptorIndex := 25, attributes := #[] }, { accessFlags := 25, nameIndex := 53, descriptorIndex := 25, attributes := #[] }, { accessFlags := 25, nameIndex := 24, descriptorIndex := 25, attributes := #[] }, { accessFlags := 25, nameIndex := 162, descriptorIndex := 25, attributes := #[] }, { accessFlags := 25, nameIndex := 187, descriptorIndex := 25, attributes := #[] }, { accessFlags := 26, nameIndex := 48, descriptorIndex := 25, attributes := #[] }, { accessFlags := 25, nameIndex := 277, descriptorIndex := 25, attributes := #[] }, { accessFlags := 25, nameIndex := 280, descriptorIndex := 25, attributes := #[] }, { accessFlags := 25, nameIndex := 282, descriptorIndex := 25, attributes := #[] }, { accessFlags := 25, nameIndex := 284, descriptorIndex := 25, attributes := #[] }, { accessFlags := 25, nameIndex := 286, descriptorIndex := 25, attributes := #[] }, { accessFlags := 25, nameIndex := 288, descriptorIndex := 25, attributes := #[] }, { accessFlags := 25, nameIndex := 290, descriptorIndex := 25, attributes := #[] }, { accessFlags := 25, nameIndex := 292, descriptorIndex := 25, attributes := #[] }, { accessFlags := 26, nameIndex := 108, descriptorIndex := 109, attributes := #[] }, { accessFlags := 25, nameIndex := 294, descriptorIndex := 25, attributes := #[] }])
  fields := #[{ name := "U", type := (.object "jdk/internal/misc/Unsafe"), accessFlags := 24, slot := 0, constantValue := 0 }, { name := "BIG_ENDIAN", type := .boolean, accessFlags := 26, slot := 1, constantValue := 0 }, { name := "LOG2_ARRAY_BOOLEAN_INDEX_SCALE", type := .int, accessFlags := 25, slot := 2, constantValue := 0 }, { name := "LOG2_ARRAY_BYTE_INDEX_SCALE", type := .int, accessFlags := 25, slot := 3, constantValue := 0 }, { name := "LOG2_ARRAY_CHAR_INDEX_SCALE", type := .int, accessFlags := 25, slot := 4, constantValue := 0 }, { name := "LOG2_ARRAY_SHORT_INDEX_SCALE", type := .int, accessFlags := 25, slot := 5, constantValue := 0 }, { name := "LOG2_ARRAY_INT_INDEX_SCALE", type := .int, accessFlags := 25, slot := 6, constantValue := 0 }, { name := "LOG2_ARRAY_LONG_INDEX_SCALE", type := .int, accessFlags := 25, slot := 7, constantValue := 0 }, { name := "LOG2_ARRAY_FLOAT_INDEX_SCALE", type := .int, accessFlags := 25, slot := 8, constantValue := 0 }, { name := "LOG2_ARRAY_DOUBLE_INDEX_SCALE", type := .int, accessFlags := 25, slot := 9, constantValue := 0 }, { name := "LOG2_BYTE_BIT_SIZE", type := .int, accessFlags := 26, slot := 10, constantValue := 0 }, { name := "T_BOOLEAN", type := .int, accessFlags := 25, slot := 11, constantValue := 0 }, { name := "T_CHAR", type := .int, accessFlags := 25, slot := 12, constantValue := 0 }, { name := "T_FLOAT", type := .int, accessFlags := 25, slot := 13, constantValue := 0 }, { name := "T_DOUBLE", type := .int, accessFlags := 25, slot := 14, constantValue := 0 }, { name := "T_BYTE", type := .int, accessFlags := 25, slot := 15, constantValue := 0 }, { name := "T_SHORT", type := .int, accessFlags := 25, slot := 16, constantValue := 0 }, { name := "T_INT", type := .int, accessFlags := 25, slot := 17, constantValue := 0 }, { name := "T_LONG", type := .int, accessFlags := 25, slot := 18, constantValue := 0 }, { name := "JLA", type := (.object "jdk/internal/access/JavaLangAccess"), accessFlags := 26, slot := 19, constantValue := 0 }, { name := "SOFT_MAX_ARRAY_LENGTH", type := .int, accessFlags := 25, slot := 20, constantValue := 0 }]
  methods := #[k20m0]
  instanceTypes := #[]
  staticTypes := #[(.object "jdk/internal/misc/Unsafe"), .boolean, .int, .int, .int, .int, .int, .int, .int, .int, .int, .int, .int, .int, .int, .int, .int, .int, .int, (.object "jdk/internal/access/JavaLangAccess"), .int]
  resolved := Array.replicate 378 none
  statics := none }

/-- the primitive byte -/
def k21 : Class := { plain "byte" none with kind := .primitive 'B', accessFlags := 0x411 }
/-- [B -/
def k22 : Class := { plain "[B" (some 0) with kind := .array 21 .byte, interfaces := #[16, 2], accessFlags := 1041 }

/-- the primitive char -/
def k23 : Class := { plain "char" none with kind := .primitive 'C', accessFlags := 0x411 }
/-- [C -/
def k24 : Class := { plain "[C" (some 0) with kind := .array 23 .char, interfaces := #[16, 2], accessFlags := 1041 }

/-- the primitive int -/
def k25 : Class := { plain "int" none with kind := .primitive 'I', accessFlags := 0x411 }
/-- [I -/
def k26 : Class := { plain "[I" (some 0) with kind := .array 25 .int, interfaces := #[16, 2], accessFlags := 1041 }

def heap : Heap := #[{ cls := 7, slots := #[.long 0, .int 1, .null, .int 0, .null, .int 0, .int 0], vm := .statics 7 },
  { cls := 8, slots := #[.int 0, .int 8, .int 0, .int 1], vm := .statics 8 },
  { cls := 19, slots := #[.null, .null, .null], vm := .statics 19 }]
def classes : Array Class := #[k0, k1, k2, k3, k4, k5, k6, k7, k8, k9, k10, k11, k12, k13, k14, k15, k16, k17, k18, k19, k20, k21, k22, k23, k24, k25, k26]
def interned : List (Array UInt16 × Addr) := []
def slotsUsed : Nat := 14
def theMethod : MethodId := ⟨1, 2⟩
def args0 : Array Value := #[.int 1, .int 64, .int 300, .int 66, .int 67, .int 68]
def aboutOver (below : List Frame) : State where
  vm := { classes := classes, interned := interned.toArray }
  heap := heap
  slotsUsed := slotsUsed
  threads := #[{ frames := .invoking theMethod args0 :: below }]
def below0 : List Frame := [.native { method := ⟨0, 0⟩, args := #[] }]
def about1 : State := aboutOver below0
def p0 : Program := .bare "" "" ""
def e0 : Env := launch0.env 0 0 0
theorem w_frames : about1.frames = Frame.invoking theMethod args0 :: below0 := rfl
set_option maxRecDepth 65536 in
theorem w_args : argsFit about1.vm theMethod args0 = true := by decide +kernel
set_option maxRecDepth 65536 in
theorem w_heap : heapFits about1 = true := by decide +kernel
set_option maxRecDepth 65536 in
theorem w_runnable : about1.curStatus? = some .runnable := by decide +kernel
set_option maxRecDepth 65536 in
theorem w_alone : about1.alone = true := by decide +kernel
set_option maxRecDepth 65536 in
theorem w_named : about1.methodNamed? x = some theMethod := by decide +kernel
set_option maxRecDepth 65536 in
theorem w_hears : about1.hears theMethod below0 = true := by decide +kernel
set_option maxRecDepth 65536 in
theorem w_ripe : about1.ripe theMethod args0 below0 = true := by decide +kernel
theorem w_running : about1.status = .running := rfl
set_option maxRecDepth 65536 in
theorem w_room : about1.hasRoom e0.platform room_1 = true :=
  launch0.hasRoom_least _ room_1 (by decide +kernel) (by decide +kernel) (by decide +kernel) (by decide +kernel) (by decide +kernel) (by decide +kernel)
theorem allAtoms_all (ts : List Jvm.Cond) (a : Array Jvm.Value) (st : Jvm.State) : (allAtoms ts).before a st = ts.all (fun c => c.before a st) := by
  induction ts with
  | nil => rfl
  | cons c t ih =>
    show (Jvm.Cond.and c (allAtoms t)).before a st = _
    rw [Jvm.Cond.before_and, ih, List.all_cons]
def words1 : List Jvm.Cond := Jvm.Cond.code x code maxLocals ret :: tables_1
/-- a 'code' word, met by the world's own term for the bytes: nothing is compared byte by byte -/
theorem code_word {y : MethodName} {bytes : ByteArray} {mx : Nat} {rt : Option FieldType} {a : Array Value} {s : State} {m : MethodId} {meth : Method} {c : Code} (h1 : s.methodNamed? y = some m) (h2 : s.vm.method? m = some meth) (h3 : meth.code = some c) (h4 : c.code = bytes)
    (h5 : (c.maxLocals == mx && c.exceptionTable.isEmpty && decide (c.maxStack ≤ mostOperands) && decide (meth.sig.returnType = rt) && !meth.locks && decide (parseMethodDescriptor y.desc = some meth.sig)) = true) : (Jvm.Cond.code y bytes mx rt).before a s = true := by
  simp only [Bool.and_eq_true, beq_iff_eq, Bool.not_eq_true', decide_eq_true_eq] at h5
  obtain ⟨⟨⟨⟨⟨g1, g2⟩, g3⟩, g4⟩, g5⟩, g6⟩ := h5
  simp [Cond.before, Cond.holds, Cond.value, h1, h2, h3, h4, g1, g2, g3, g4, g5, g6]
def isCode : Jvm.Cond → Bool
  | .code _ _ _ _ => true
  | _ => false
theorem all_split {L : List Jvm.Cond} {P : Jvm.Cond → Bool} (h1 : L.all (fun c => isCode c || P c) = true) (h2 : ∀ c ∈ L.filter isCode, P c = true) : L.all P = true := by
  refine List.all_eq_true.mpr fun c hc => ?_
  have h := List.all_eq_true.mp h1 c hc
  rcases Bool.eq_false_or_eq_true (isCode c) with hi | hi
  · exact h2 c (List.mem_filter.mpr ⟨hc, hi⟩)
  · simpa [hi] using h
set_option maxRecDepth 65536 in
theorem w_c0 : (Jvm.Cond.code x code maxLocals ret).before args0 about1 = true := code_word (m := ⟨1, 2⟩) (meth := k1m2) (c := k1c2) (by decide +kernel) rfl rfl rfl (by decide +kernel)
set_option maxRecDepth 65536 in
theorem w_c1 : (Jvm.Cond.code ({ cls := "com/example/steady_step/steadystep/machine/NamesRequirePinLaw", name := "nonNul", desc := "(I)C" } : Jvm.MethodName) method_2_code (1 : Nat) (Option.some Jvm.ClassFile.FieldType.char)).before args0 about1 = true := code_word (m := ⟨1, 1⟩) (meth := k1m1) (c := k1c1) (by decide +kernel) rfl rfl rfl (by decide +kernel)
set_option maxRecDepth 65536 in
theorem w_c2 : (Jvm.Cond.code ({ cls := "java/lang/String", name := "<init>", desc := "([C)V" } : Jvm.MethodName) jdk_42_method_3_code (2 : Nat) (Option.none : Option Jvm.ClassFile.FieldType)).before args0 about1 = true := code_word (m := ⟨7, 1⟩) (meth := k7m1) (c := k7c1) (by decide +kernel) rfl rfl rfl (by decide +kernel)
set_option maxRecDepth 65536 in
theorem w_c3 : (Jvm.Cond.code ({ cls := "java/lang/String", name := "<init>", desc := "([CIILjava/lang/Void;)V" } : Jvm.MethodName) jdk_42_method_149_code (6 : Nat) (Option.none : Option Jvm.ClassFile.FieldType)).before args0 about1 = true := code_word (m := ⟨7, 9⟩) (meth := k7m9) (c := k7c9) (by decide +kernel) rfl rfl rfl (by decide +kernel)
set_option maxRecDepth 65536 in
theorem w_c4 : (Jvm.Cond.code ({ cls := "java/lang/Object", name := "<init>", desc := "()V" } : Jvm.MethodName) object_method_1_code (1 : Nat) (Option.none : Option Jvm.ClassFile.FieldType)).before args0 about1 = true := code_word (m := ⟨0, 0⟩) (meth := k0m0) (c := k0c0) (by decide +kernel) rfl rfl rfl (by decide +kernel)
set_option maxRecDepth 65536 in
theorem w_c5 : (Jvm.Cond.code ({ cls := "java/lang/StringUTF16", name := "compress", desc := "([CII)[B" } : Jvm.MethodName) jdk_52_method_16_code (6 : Nat) (Option.some (Jvm.ClassFile.FieldType.array Jvm.ClassFile.FieldType.byte))).before args0 about1 = true := code_word (m := ⟨8, 8⟩) (meth := k8m8) (c := k8c8) (by decide +kernel) rfl rfl rfl (by decide +kernel)
set_option maxRecDepth 65536 in
theorem w_c6 : (Jvm.Cond.code ({ cls := "java/lang/StringUTF16", name := "compress", desc := "([CI[BII)I" } : Jvm.MethodName) jdk_52_method_21_code (7 : Nat) (Option.some Jvm.ClassFile.FieldType.int)).before args0 about1 = true := code_word (m := ⟨8, 9⟩) (meth := k8m9) (c := k8c9) (by decide +kernel) rfl rfl rfl (by decide +kernel)
set_option maxRecDepth 65536 in
theorem w_c7 : (Jvm.Cond.code ({ cls := "java/lang/StringUTF16", name := "coderFromArrayLen", desc := "([BI)B" } : Jvm.MethodName) jdk_52_method_15_code (2 : Nat) (Option.some Jvm.ClassFile.FieldType.byte)).before args0 about1 = true := code_word (m := ⟨8, 7⟩) (meth := k8m7) (c := k8c7) (by decide +kernel) rfl rfl rfl (by decide +kernel)
set_option maxRecDepth 65536 in
theorem w_c8 : (Jvm.Cond.code ({ cls := "java/lang/String", name := "valueOf", desc := "(C)Ljava/lang/String;" } : Jvm.MethodName) jdk_42_method_139_code (1 : Nat) (Option.some (Jvm.ClassFile.FieldType.object "java/lang/String"))).before args0 about1 = true := code_word (m := ⟨7, 7⟩) (meth := k7m7) (c := k7c7) (by decide +kernel) rfl rfl rfl (by decide +kernel)
set_option maxRecDepth 65536 in
theorem w_c9 : (Jvm.Cond.code ({ cls := "java/lang/StringLatin1", name := "canEncode", desc := "(C)Z" } : Jvm.MethodName) jdk_43_method_3_code (1 : Nat) (Option.some Jvm.ClassFile.FieldType.boolean)).before args0 about1 = true := code_word (m := ⟨9, 1⟩) (meth := k9m1) (c := k9c1) (by decide +kernel) rfl rfl rfl (by decide +kernel)
set_option maxRecDepth 65536 in
theorem w_c10 : (Jvm.Cond.code ({ cls := "java/lang/StringLatin1", name := "toBytes", desc := "(C)[B" } : Jvm.MethodName) jdk_43_method_46_code (1 : Nat) (Option.some (Jvm.ClassFile.FieldType.array Jvm.ClassFile.FieldType.byte))).before args0 about1 = true := code_word (m := ⟨9, 5⟩) (meth := k9m5) (c := k9c5) (by decide +kernel) rfl rfl rfl (by decide +kernel)
set_option maxRecDepth 65536 in
theorem w_c11 : (Jvm.Cond.code ({ cls := "java/lang/String", name := "<init>", desc := "([BB)V" } : Jvm.MethodName) jdk_42_method_151_code (3 : Nat) (Option.none : Option Jvm.ClassFile.FieldType)).before args0 about1 = true := code_word (m := ⟨7, 11⟩) (meth := k7m11) (c := k7c11) (by decide +kernel) rfl rfl rfl (by decide +kernel)
set_option maxRecDepth 65536 in
theorem w_c12 : (Jvm.Cond.code ({ cls := "com/example/steady_step/steadystep/machine/Names", name := "require", desc := "(Ljava/lang/String;Ljava/lang/String;)Ljava/lang/String;" } : Jvm.MethodName) prog_12_method_2_code (2 : Nat) (Option.some (Jvm.ClassFile.FieldType.object "java/lang/String"))).before args0 about1 = true := code_word (m := ⟨10, 1⟩) (meth := k10m1) (c := k10c1) (by decide +kernel) rfl rfl rfl (by decide +kernel)
set_option maxRecDepth 65536 in
theorem w_c13 : (Jvm.Cond.code ({ cls := "java/lang/StringBuilder", name := "<init>", desc := "()V" } : Jvm.MethodName) jdk_67_method_1_code (1 : Nat) (Option.none : Option Jvm.ClassFile.FieldType)).before args0 about1 = true := code_word (m := ⟨13, 0⟩) (meth := k13m0) (c := k13c0) (by decide +kernel) rfl rfl rfl (by decide +kernel)
set_option maxRecDepth 65536 in
theorem w_c14 : (Jvm.Cond.code ({ cls := "java/lang/AbstractStringBuilder", name := "<init>", desc := "(I)V" } : Jvm.MethodName) jdk_68_method_2_code (2 : Nat) (Option.none : Option Jvm.ClassFile.FieldType)).before args0 about1 = true := code_word (m := ⟨12, 1⟩) (meth := k12m1) (c := k12c1) (by decide +kernel) rfl rfl rfl (by decide +kernel)
set_option maxRecDepth 65536 in
theorem w_c15 : (Jvm.Cond.code ({ cls := "java/lang/StringBuilder", name := "append", desc := "(Ljava/lang/String;)Ljava/lang/StringBuilder;" } : Jvm.MethodName) jdk_67_method_7_code (2 : Nat) (Option.some (Jvm.ClassFile.FieldType.object "java/lang/StringBuilder"))).before args0 about1 = true := code_word (m := ⟨13, 1⟩) (meth := k13m1) (c := k13c1) (by decide +kernel) rfl rfl rfl (by decide +kernel)
set_option maxRecDepth 65536 in
theorem w_c16 : (Jvm.Cond.code ({ cls := "java/lang/AbstractStringBuilder", name := "append", desc := "(Ljava/lang/String;)Ljava/lang/AbstractStringBuilder;" } : Jvm.MethodName) jdk_68_method_22_code (3 : Nat) (Option.some (Jvm.ClassFile.FieldType.object "java/lang/AbstractStringBuilder"))).before args0 about1 = true := code_word (m := ⟨12, 5⟩) (meth := k12m5) (c := k12c5) (by decide +kernel) rfl rfl rfl (by decide +kernel)
set_option maxRecDepth 65536 in
theorem w_c17 : (Jvm.Cond.code ({ cls := "java/lang/String", name := "length", desc := "()I" } : Jvm.MethodName) jdk_42_method_54_code (1 : Nat) (Option.some Jvm.ClassFile.FieldType.int)).before args0 about1 = true := code_word (m := ⟨7, 3⟩) (meth := k7m3) (c := k7c3) (by decide +kernel) rfl rfl rfl (by decide +kernel)
set_option maxRecDepth 65536 in
theorem w_c18 : (Jvm.Cond.code ({ cls := "java/lang/String", name := "coder", desc := "()B" } : Jvm.MethodName) jdk_42_method_152_code (1 : Nat) (Option.some Jvm.ClassFile.FieldType.byte)).before args0 about1 = true := code_word (m := ⟨7, 12⟩) (meth := k7m12) (c := k7c12) (by decide +kernel) rfl rfl rfl (by decide +kernel)
set_option maxRecDepth 65536 in
theorem w_c19 : (Jvm.Cond.code ({ cls := "java/lang/AbstractStringBuilder", name := "ensureCapacityInternal", desc := "(I)V" } : Jvm.MethodName) jdk_68_method_9_code (3 : Nat) (Option.none : Option Jvm.ClassFile.FieldType)).before args0 about1 = true := code_word (m := ⟨12, 3⟩) (meth := k12m3) (c := k12c3) (by decide +kernel) rfl rfl rfl (by decide +kernel)
set_option maxRecDepth 65536 in
theorem w_c20 : (Jvm.Cond.code ({ cls := "java/lang/AbstractStringBuilder", name := "putStringAt", desc := "(ILjava/lang/String;)V" } : Jvm.MethodName) jdk_68_method_73_code (3 : Nat) (Option.none : Option Jvm.ClassFile.FieldType)).before args0 about1 = true := code_word (m := ⟨12, 9⟩) (meth := k12m9) (c := k12c9) (by decide +kernel) rfl rfl rfl (by decide +kernel)
set_option maxRecDepth 65536 in
theorem w_c21 : (Jvm.Cond.code ({ cls := "java/lang/AbstractStringBuilder", name := "inflateIfNeededFor", desc := "(Ljava/lang/String;)V" } : Jvm.MethodName) jdk_68_method_71_code (2 : Nat) (Option.none : Option Jvm.ClassFile.FieldType)).before args0 about1 = true := code_word (m := ⟨12, 8⟩) (meth := k12m8) (c := k12c8) (by decide +kernel) rfl rfl rfl (by decide +kernel)
set_option maxRecDepth 65536 in
theorem w_c22 : (Jvm.Cond.code ({ cls := "java/lang/String", name := "getBytes", desc := "([BIB)V" } : Jvm.MethodName) jdk_42_method_147_code (4 : Nat) (Option.none : Option Jvm.ClassFile.FieldType)).before args0 about1 = true := code_word (m := ⟨7, 8⟩) (meth := k7m8) (c := k7c8) (by decide +kernel) rfl rfl rfl (by decide +kernel)
set_option maxRecDepth 65536 in
theorem w_c23 : (Jvm.Cond.code ({ cls := "java/lang/StringBuilder", name := "toString", desc := "()Ljava/lang/String;" } : Jvm.MethodName) jdk_67_method_42_code (1 : Nat) (Option.some (Jvm.ClassFile.FieldType.object "java/lang/String"))).before args0 about1 = true := code_word (m := ⟨13, 2⟩) (meth := k13m2) (c := k13c2) (by decide +kernel) rfl rfl rfl (by decide +kernel)
set_option maxRecDepth 65536 in
theorem w_c24 : (Jvm.Cond.code ({ cls := "java/lang/String", name := "<init>", desc := "(Ljava/lang/StringBuilder;)V" } : Jvm.MethodName) jdk_42_method_53_code (2 : Nat) (Option.none : Option Jvm.ClassFile.FieldType)).before args0 about1 = true := code_word (m := ⟨7, 2⟩) (meth := k7m2) (c := k7c2) (by decide +kernel) rfl rfl rfl (by decide +kernel)
set_option maxRecDepth 65536 in
theorem w_c25 : (Jvm.Cond.code ({ cls := "java/lang/String", name := "<init>", desc := "(Ljava/lang/AbstractStringBuilder;Ljava/lang/Void;)V" } : Jvm.MethodName) jdk_42_method_150_code (5 : Nat) (Option.none : Option Jvm.ClassFile.FieldType)).before args0 about1 = true := code_word (m := ⟨7, 10⟩) (meth := k7m10) (c := k7c10) (by decide +kernel) rfl rfl rfl (by decide +kernel)
set_option maxRecDepth 65536 in
theorem w_c26 : (Jvm.Cond.code ({ cls := "java/lang/AbstractStringBuilder", name := "getValue", desc := "()[B" } : Jvm.MethodName) jdk_68_method_64_code (1 : Nat) (Option.some (Jvm.ClassFile.FieldType.array Jvm.ClassFile.FieldType.byte))).before args0 about1 = true := code_word (m := ⟨12, 6⟩) (meth := k12m6) (c := k12c6) (by decide +kernel) rfl rfl rfl (by decide +kernel)
set_option maxRecDepth 65536 in
theorem w_c27 : (Jvm.Cond.code ({ cls := "java/lang/StringBuilder", name := "length", desc := "()I" } : Jvm.MethodName) jdk_67_method_93_code (1 : Nat) (Option.some Jvm.ClassFile.FieldType.int)).before args0 about1 = true := code_word (m := ⟨13, 3⟩) (meth := k13m3) (c := k13c3) (by decide +kernel) rfl rfl rfl (by decide +kernel)
set_option maxRecDepth 65536 in
theorem w_c28 : (Jvm.Cond.code ({ cls := "java/lang/AbstractStringBuilder", name := "length", desc := "()I" } : Jvm.MethodName) jdk_68_method_6_code (1 : Nat) (Option.some Jvm.ClassFile.FieldType.int)).before args0 about1 = true := code_word (m := ⟨12, 2⟩) (meth := k12m2) (c := k12c2) (by decide +kernel) rfl rfl rfl (by decide +kernel)
set_option maxRecDepth 65536 in
theorem w_c29 : (Jvm.Cond.code ({ cls := "java/lang/AbstractStringBuilder", name := "isLatin1", desc := "()Z" } : Jvm.MethodName) jdk_68_method_68_code (1 : Nat) (Option.some Jvm.ClassFile.FieldType.boolean)).before args0 about1 = true := code_word (m := ⟨12, 7⟩) (meth := k12m7) (c := k12c7) (by decide +kernel) rfl rfl rfl (by decide +kernel)
set_option maxRecDepth 65536 in
theorem w_c30 : (Jvm.Cond.code ({ cls := "java/util/Arrays", name := "copyOfRange", desc := "([BII)[B" } : Jvm.MethodName) jdk_65_method_132_code (3 : Nat) (Option.some (Jvm.ClassFile.FieldType.array Jvm.ClassFile.FieldType.byte))).before args0 about1 = true := code_word (m := ⟨15, 1⟩) (meth := k15m1) (c := k15c1) (by decide +kernel) rfl rfl rfl (by decide +kernel)
set_option maxRecDepth 65536 in
theorem w_c31 : (Jvm.Cond.code ({ cls := "java/util/Objects", name := "requireNonNull", desc := "(Ljava/lang/Object;Ljava/lang/String;)Ljava/lang/Object;" } : Jvm.MethodName) jdk_31_method_11_code (2 : Nat) (Option.some (Jvm.ClassFile.FieldType.object "java/lang/Object"))).before args0 about1 = true := code_word (m := ⟨17, 1⟩) (meth := k17m1) (c := k17c1) (by decide +kernel) rfl rfl rfl (by decide +kernel)
set_option maxRecDepth 65536 in
theorem w_c32 : (Jvm.Cond.code ({ cls := "java/lang/String", name := "isEmpty", desc := "()Z" } : Jvm.MethodName) jdk_42_method_55_code (1 : Nat) (Option.some Jvm.ClassFile.FieldType.boolean)).before args0 about1 = true := code_word (m := ⟨7, 4⟩) (meth := k7m4) (c := k7c4) (by decide +kernel) rfl rfl rfl (by decide +kernel)
set_option maxRecDepth 65536 in
theorem w_c33 : (Jvm.Cond.code ({ cls := "java/lang/String", name := "indexOf", desc := "(I)I" } : Jvm.MethodName) jdk_42_method_79_code (2 : Nat) (Option.some Jvm.ClassFile.FieldType.int)).before args0 about1 = true := code_word (m := ⟨7, 5⟩) (meth := k7m5) (c := k7c5) (by decide +kernel) rfl rfl rfl (by decide +kernel)
set_option maxRecDepth 65536 in
theorem w_c34 : (Jvm.Cond.code ({ cls := "java/lang/String", name := "indexOf", desc := "(II)I" } : Jvm.MethodName) jdk_42_method_80_code (3 : Nat) (Option.some Jvm.ClassFile.FieldType.int)).before args0 about1 = true := code_word (m := ⟨7, 6⟩) (meth := k7m6) (c := k7c6) (by decide +kernel) rfl rfl rfl (by decide +kernel)
set_option maxRecDepth 65536 in
theorem w_c35 : (Jvm.Cond.code ({ cls := "java/lang/String", name := "isLatin1", desc := "()Z" } : Jvm.MethodName) jdk_42_method_154_code (1 : Nat) (Option.some Jvm.ClassFile.FieldType.boolean)).before args0 about1 = true := code_word (m := ⟨7, 13⟩) (meth := k7m13) (c := k7c13) (by decide +kernel) rfl rfl rfl (by decide +kernel)
set_option maxRecDepth 65536 in
theorem w_c36 : (Jvm.Cond.code ({ cls := "java/lang/StringLatin1", name := "indexOf", desc := "([BIII)I" } : Jvm.MethodName) jdk_43_method_22_code (4 : Nat) (Option.some Jvm.ClassFile.FieldType.int)).before args0 about1 = true := code_word (m := ⟨9, 3⟩) (meth := k9m3) (c := k9c3) (by decide +kernel) rfl rfl rfl (by decide +kernel)
set_option maxRecDepth 65536 in
theorem w_c37 : (Jvm.Cond.code ({ cls := "java/lang/StringLatin1", name := "canEncode", desc := "(I)Z" } : Jvm.MethodName) jdk_43_method_4_code (1 : Nat) (Option.some Jvm.ClassFile.FieldType.boolean)).before args0 about1 = true := code_word (m := ⟨9, 2⟩) (meth := k9m2) (c := k9c2) (by decide +kernel) rfl rfl rfl (by decide +kernel)
set_option maxRecDepth 65536 in
theorem w_c38 : (Jvm.Cond.code ({ cls := "java/lang/Math", name := "max", desc := "(II)I" } : Jvm.MethodName) jdk_29_method_65_code (2 : Nat) (Option.some Jvm.ClassFile.FieldType.int)).before args0 about1 = true := code_word (m := ⟨18, 1⟩) (meth := k18m1) (c := k18c1) (by decide +kernel) rfl rfl rfl (by decide +kernel)
set_option maxRecDepth 65536 in
theorem w_c39 : (Jvm.Cond.code ({ cls := "java/lang/Math", name := "min", desc := "(II)I" } : Jvm.MethodName) jdk_29_method_69_code (2 : Nat) (Option.some Jvm.ClassFile.FieldType.int)).before args0 about1 = true := code_word (m := ⟨18, 2⟩) (meth := k18m2) (c := k18c2) (by decide +kernel) rfl rfl rfl (by decide +kernel)
set_option maxRecDepth 65536 in
theorem w_c40 : (Jvm.Cond.code ({ cls := "java/lang/StringLatin1", name := "indexOfChar", desc := "([BIII)I" } : Jvm.MethodName) jdk_43_method_23_code (6 : Nat) (Option.some Jvm.ClassFile.FieldType.int)).before args0 about1 = true := code_word (m := ⟨9, 4⟩) (meth := k9m4) (c := k9c4) (by decide +kernel) rfl rfl rfl (by decide +kernel)
set_option maxRecDepth 65536 in
theorem w_c41 : (Jvm.Cond.code ({ cls := "java/lang/StringUTF16", name := "toBytes", desc := "([CII)[B" } : Jvm.MethodName) jdk_52_method_14_code (5 : Nat) (Option.some (Jvm.ClassFile.FieldType.array Jvm.ClassFile.FieldType.byte))).before args0 about1 = true := code_word (m := ⟨8, 6⟩) (meth := k8m6) (c := k8c6) (by decide +kernel) rfl rfl rfl (by decide +kernel)
set_option maxRecDepth 65536 in
theorem w_c42 : (Jvm.Cond.code ({ cls := "java/lang/StringUTF16", name := "newBytesFor", desc := "(I)[B" } : Jvm.MethodName) jdk_52_method_2_code (1 : Nat) (Option.some (Jvm.ClassFile.FieldType.array Jvm.ClassFile.FieldType.byte))).before args0 about1 = true := code_word (m := ⟨8, 1⟩) (meth := k8m1) (c := k8c1) (by decide +kernel) rfl rfl rfl (by decide +kernel)
set_option maxRecDepth 65536 in
theorem w_c43 : (Jvm.Cond.code ({ cls := "java/lang/StringUTF16", name := "newBytesLength", desc := "(I)I" } : Jvm.MethodName) jdk_52_method_3_code (1 : Nat) (Option.some Jvm.ClassFile.FieldType.int)).before args0 about1 = true := code_word (m := ⟨8, 2⟩) (meth := k8m2) (c := k8c2) (by decide +kernel) rfl rfl rfl (by decide +kernel)
set_option maxRecDepth 65536 in
theorem w_c44 : (Jvm.Cond.code ({ cls := "java/lang/StringUTF16", name := "putChar", desc := "([BII)V" } : Jvm.MethodName) jdk_52_method_4_code (3 : Nat) (Option.none : Option Jvm.ClassFile.FieldType)).before args0 about1 = true := code_word (m := ⟨8, 3⟩) (meth := k8m3) (c := k8c3) (by decide +kernel) rfl rfl rfl (by decide +kernel)
set_option maxRecDepth 65536 in
theorem w_c45 : (Jvm.Cond.code ({ cls := "java/lang/StringUTF16", name := "getChar", desc := "([BI)C" } : Jvm.MethodName) jdk_52_method_5_code (2 : Nat) (Option.some Jvm.ClassFile.FieldType.char)).before args0 about1 = true := code_word (m := ⟨8, 4⟩) (meth := k8m4) (c := k8c4) (by decide +kernel) rfl rfl rfl (by decide +kernel)
set_option maxRecDepth 65536 in
theorem w_c46 : (Jvm.Cond.code ({ cls := "java/lang/StringUTF16", name := "toBytes", desc := "(C)[B" } : Jvm.MethodName) jdk_52_method_24_code (2 : Nat) (Option.some (Jvm.ClassFile.FieldType.array Jvm.ClassFile.FieldType.byte))).before args0 about1 = true := code_word (m := ⟨8, 10⟩) (meth := k8m10) (c := k8c10) (by decide +kernel) rfl rfl rfl (by decide +kernel)
set_option maxRecDepth 65536 in
theorem w_c47 : (Jvm.Cond.code ({ cls := "java/lang/AbstractStringBuilder", name := "inflate", desc := "()V" } : Jvm.MethodName) jdk_68_method_11_code (2 : Nat) (Option.none : Option Jvm.ClassFile.FieldType)).before args0 about1 = true := code_word (m := ⟨12, 4⟩) (meth := k12m4) (c := k12c4) (by decide +kernel) rfl rfl rfl (by decide +kernel)
set_option maxRecDepth 65536 in
theorem w_c48 : (Jvm.Cond.code ({ cls := "java/lang/StringLatin1", name := "inflate", desc := "([BI[BII)V" } : Jvm.MethodName) jdk_43_method_50_code (5 : Nat) (Option.none : Option Jvm.ClassFile.FieldType)).before args0 about1 = true := code_word (m := ⟨9, 6⟩) (meth := k9m6) (c := k9c6) (by decide +kernel) rfl rfl rfl (by decide +kernel)
set_option maxRecDepth 65536 in
theorem w_c49 : (Jvm.Cond.code ({ cls := "java/lang/StringUTF16", name := "inflate", desc := "([BI[BII)V" } : Jvm.MethodName) jdk_52_method_86_code (6 : Nat) (Option.none : Option Jvm.ClassFile.FieldType)).before args0 about1 = true := code_word (m := ⟨8, 14⟩) (meth := k8m14) (c := k8c14) (by decide +kernel) rfl rfl rfl (by decide +kernel)
set_option maxRecDepth 65536 in
theorem w_c50 : (Jvm.Cond.code ({ cls := "java/lang/StringUTF16", name := "checkBoundsOffCount", desc := "(II[B)V" } : Jvm.MethodName) jdk_52_method_94_code (3 : Nat) (Option.none : Option Jvm.ClassFile.FieldType)).before args0 about1 = true := code_word (m := ⟨8, 16⟩) (meth := k8m16) (c := k8c16) (by decide +kernel) rfl rfl rfl (by decide +kernel)
set_option maxRecDepth 65536 in
theorem w_c51 : (Jvm.Cond.code ({ cls := "java/lang/StringUTF16", name := "length", desc := "([B)I" } : Jvm.MethodName) jdk_52_method_6_code (1 : Nat) (Option.some Jvm.ClassFile.FieldType.int)).before args0 about1 = true := code_word (m := ⟨8, 5⟩) (meth := k8m5) (c := k8c5) (by decide +kernel) rfl rfl rfl (by decide +kernel)
set_option maxRecDepth 65536 in
theorem w_c52 : (Jvm.Cond.code ({ cls := "java/lang/String", name := "checkBoundsOffCount", desc := "(III)I" } : Jvm.MethodName) jdk_42_method_157_code (3 : Nat) (Option.some Jvm.ClassFile.FieldType.int)).before args0 about1 = true := code_word (m := ⟨7, 14⟩) (meth := k7m14) (c := k7c14) (by decide +kernel) rfl rfl rfl (by decide +kernel)
set_option maxRecDepth 65536 in
theorem w_c53 : (Jvm.Cond.code ({ cls := "jdk/internal/util/Preconditions", name := "checkFromIndexSize", desc := "(IIILjava/util/function/BiFunction;)I" } : Jvm.MethodName) jdk_41_method_13_code (4 : Nat) (Option.some Jvm.ClassFile.FieldType.int)).before args0 about1 = true := code_word (m := ⟨19, 2⟩) (meth := k19m2) (c := k19c2) (by decide +kernel) rfl rfl rfl (by decide +kernel)
set_option maxRecDepth 65536 in
theorem w_c54 : (Jvm.Cond.code ({ cls := "java/lang/StringUTF16", name := "indexOf", desc := "([BIII)I" } : Jvm.MethodName) jdk_52_method_40_code (4 : Nat) (Option.some Jvm.ClassFile.FieldType.int)).before args0 about1 = true := code_word (m := ⟨8, 11⟩) (meth := k8m11) (c := k8c11) (by decide +kernel) rfl rfl rfl (by decide +kernel)
set_option maxRecDepth 65536 in
theorem w_c55 : (Jvm.Cond.code ({ cls := "java/lang/StringUTF16", name := "indexOfChar", desc := "([BIII)I" } : Jvm.MethodName) jdk_52_method_47_code (4 : Nat) (Option.some Jvm.ClassFile.FieldType.int)).before args0 about1 = true := code_word (m := ⟨8, 12⟩) (meth := k8m12) (c := k8c12) (by decide +kernel) rfl rfl rfl (by decide +kernel)
set_option maxRecDepth 65536 in
theorem w_c56 : (Jvm.Cond.code ({ cls := "java/lang/StringUTF16", name := "checkBoundsBeginEnd", desc := "(II[B)V" } : Jvm.MethodName) jdk_52_method_93_code (3 : Nat) (Option.none : Option Jvm.ClassFile.FieldType)).before args0 about1 = true := code_word (m := ⟨8, 15⟩) (meth := k8m15) (c := k8c15) (by decide +kernel) rfl rfl rfl (by decide +kernel)
set_option maxRecDepth 65536 in
theorem w_c57 : (Jvm.Cond.code ({ cls := "java/lang/String", name := "checkBoundsBeginEnd", desc := "(III)V" } : Jvm.MethodName) jdk_42_method_158_code (3 : Nat) (Option.none : Option Jvm.ClassFile.FieldType)).before args0 about1 = true := code_word (m := ⟨7, 15⟩) (meth := k7m15) (c := k7c15) (by decide +kernel) rfl rfl rfl (by decide +kernel)
set_option maxRecDepth 65536 in
theorem w_c58 : (Jvm.Cond.code ({ cls := "jdk/internal/util/Preconditions", name := "checkFromToIndex", desc := "(IIILjava/util/function/BiFunction;)I" } : Jvm.MethodName) jdk_41_method_12_code (4 : Nat) (Option.some Jvm.ClassFile.FieldType.int)).before args0 about1 = true := code_word (m := ⟨19, 1⟩) (meth := k19m1) (c := k19c1) (by decide +kernel) rfl rfl rfl (by decide +kernel)
set_option maxRecDepth 65536 in
theorem w_c59 : (Jvm.Cond.code ({ cls := "java/lang/StringUTF16", name := "indexOfCharUnsafe", desc := "([BIII)I" } : Jvm.MethodName) jdk_52_method_48_code (5 : Nat) (Option.some Jvm.ClassFile.FieldType.int)).before args0 about1 = true := code_word (m := ⟨8, 13⟩) (meth := k8m13) (c := k8c13) (by decide +kernel) rfl rfl rfl (by decide +kernel)
def codes1 : List Jvm.Cond := [Jvm.Cond.code x code maxLocals ret, Jvm.Cond.code ({ cls := "com/example/steady_step/steadystep/machine/NamesRequirePinLaw", name := "nonNul", desc := "(I)C" } : Jvm.MethodName) method_2_code (1 : Nat) (Option.some Jvm.ClassFile.FieldType.char), Jvm.Cond.code ({ cls := "java/lang/String", name := "<init>", desc := "([C)V" } : Jvm.MethodName) jdk_42_method_3_code (2 : Nat) (Option.none : Option Jvm.ClassFile.FieldType), Jvm.Cond.code ({ cls := "java/lang/String", name := "<init>", desc := "([CIILjava/lang/Void;)V" } : Jvm.MethodName) jdk_42_method_149_code (6 : Nat) (Option.none : Option Jvm.ClassFile.FieldType), Jvm.Cond.code ({ cls := "java/lang/Object", name := "<init>", desc := "()V" } : Jvm.MethodName) object_method_1_code (1 : Nat) (Option.none : Option Jvm.ClassFile.FieldType), Jvm.Cond.code ({ cls := "java/lang/StringUTF16", name := "compress", desc := "([CII)[B" } : Jvm.MethodName) jdk_52_method_16_code (6 : Nat) (Option.some (Jvm.ClassFile.FieldType.array Jvm.ClassFile.FieldType.byte)), Jvm.Cond.code ({ cls := "java/lang/StringUTF16", name := "compress", desc := "([CI[BII)I" } : Jvm.MethodName) jdk_52_method_21_code (7 : Nat) (Option.some Jvm.ClassFile.FieldType.int), Jvm.Cond.code ({ cls := "java/lang/StringUTF16", name := "coderFromArrayLen", desc := "([BI)B" } : Jvm.MethodName) jdk_52_method_15_code (2 : Nat) (Option.some Jvm.ClassFile.FieldType.byte), Jvm.Cond.code ({ cls := "java/lang/String", name := "valueOf", desc := "(C)Ljava/lang/String;" } : Jvm.MethodName) jdk_42_method_139_code (1 : Nat) (Option.some (Jvm.ClassFile.FieldType.object "java/lang/String")), Jvm.Cond.code ({ cls := "java/lang/StringLatin1", name := "canEncode", desc := "(C)Z" } : Jvm.MethodName) jdk_43_method_3_code (1 : Nat) (Option.some Jvm.ClassFile.FieldType.boolean), Jvm.Cond.code ({ cls := "java/lang/StringLatin1", name := "toBytes", desc := "(C)[B" } : Jvm.MethodName) jdk_43_method_46_code (1 : Nat) (Option.some (Jvm.ClassFile.FieldType.array Jvm.ClassFile.FieldType.byte)), Jvm.Cond.code ({ cls := "java/lang/String", name := "<init>", desc := "([BB)V" } : Jvm.MethodName) jdk_42_method_151_code (3 : Nat) (Option.none : Option Jvm.ClassFile.FieldType), Jvm.Cond.code ({ cls := "com/example/steady_step/steadystep/machine/Names", name := "require", desc := "(Ljava/lang/String;Ljava/lang/String;)Ljava/lang/String;" } : Jvm.MethodName) prog_12_method_2_code (2 : Nat) (Option.some (Jvm.ClassFile.FieldType.object "java/lang/String")), Jvm.Cond.code ({ cls := "java/lang/StringBuilder", name := "<init>", desc := "()V" } : Jvm.MethodName) jdk_67_method_1_code (1 : Nat) (Option.none : Option Jvm.ClassFile.FieldType), Jvm.Cond.code ({ cls := "java/lang/AbstractStringBuilder", name := "<init>", desc := "(I)V" } : Jvm.MethodName) jdk_68_method_2_code (2 : Nat) (Option.none : Option Jvm.ClassFile.FieldType), Jvm.Cond.code ({ cls := "java/lang/StringBuilder", name := "append", desc := "(Ljava/lang/String;)Ljava/lang/StringBuilder;" } : Jvm.MethodName) jdk_67_method_7_code (2 : Nat) (Option.some (Jvm.ClassFile.FieldType.object "java/lang/StringBuilder")), Jvm.Cond.code ({ cls := "java/lang/AbstractStringBuilder", name := "append", desc := "(Ljava/lang/String;)Ljava/lang/AbstractStringBuilder;" } : Jvm.MethodName) jdk_68_method_22_code (3 : Nat) (Option.some (Jvm.ClassFile.FieldType.object "java/lang/AbstractStringBuilder")), Jvm.Cond.code ({ cls := "java/lang/String", name := "length", desc := "()I" } : Jvm.MethodName) jdk_42_method_54_code (1 : Nat) (Option.some Jvm.ClassFile.FieldType.int), Jvm.Cond.code ({ cls := "java/lang/String", name := "coder", desc := "()B" } : Jvm.MethodName) jdk_42_method_152_code (1 : Nat) (Option.some Jvm.ClassFile.FieldType.byte), Jvm.Cond.code ({ cls := "java/lang/AbstractStringBuilder", name := "ensureCapacityInternal", desc := "(I)V" } : Jvm.MethodName) jdk_68_method_9_code (3 : Nat) (Option.none : Option Jvm.ClassFile.FieldType), Jvm.Cond.code ({ cls := "java/lang/AbstractStringBuilder", name := "putStringAt", desc := "(ILjava/lang/String;)V" } : Jvm.MethodName) jdk_68_method_73_code (3 : Nat) (Option.none : Option Jvm.ClassFile.FieldType), Jvm.Cond.code ({ cls := "java/lang/AbstractStringBuilder", name := "inflateIfNeededFor", desc := "(Ljava/lang/String;)V" } : Jvm.MethodName) jdk_68_method_71_code (2 : Nat) (Option.none : Option Jvm.ClassFile.FieldType), Jvm.Cond.code ({ cls := "java/lang/String", name := "getBytes", desc := "([BIB)V" } : Jvm.MethodName) jdk_42_method_147_code (4 : Nat) (Option.none : Option Jvm.ClassFile.FieldType), Jvm.Cond.code ({ cls := "java/lang/StringBuilder", name := "toString", desc := "()Ljava/lang/String;" } : Jvm.MethodName) jdk_67_method_42_code (1 : Nat) (Option.some (Jvm.ClassFile.FieldType.object "java/lang/String")), Jvm.Cond.code ({ cls := "java/lang/String", name := "<init>", desc := "(Ljava/lang/StringBuilder;)V" } : Jvm.MethodName) jdk_42_method_53_code (2 : Nat) (Option.none : Option Jvm.ClassFile.FieldType), Jvm.Cond.code ({ cls := "java/lang/String", name := "<init>", desc := "(Ljava/lang/AbstractStringBuilder;Ljava/lang/Void;)V" } : Jvm.MethodName) jdk_42_method_150_code (5 : Nat) (Option.none : Option Jvm.ClassFile.FieldType), Jvm.Cond.code ({ cls := "java/lang/AbstractStringBuilder", name := "getValue", desc := "()[B" } : Jvm.MethodName) jdk_68_method_64_code (1 : Nat) (Option.some (Jvm.ClassFile.FieldType.array Jvm.ClassFile.FieldType.byte)), Jvm.Cond.code ({ cls := "java/lang/StringBuilder", name := "length", desc := "()I" } : Jvm.MethodName) jdk_67_method_93_code (1 : Nat) (Option.some Jvm.ClassFile.FieldType.int), Jvm.Cond.code ({ cls := "java/lang/AbstractStringBuilder", name := "length", desc := "()I" } : Jvm.MethodName) jdk_68_method_6_code (1 : Nat) (Option.some Jvm.ClassFile.FieldType.int), Jvm.Cond.code ({ cls := "java/lang/AbstractStringBuilder", name := "isLatin1", desc := "()Z" } : Jvm.MethodName) jdk_68_method_68_code (1 : Nat) (Option.some Jvm.ClassFile.FieldType.boolean), Jvm.Cond.code ({ cls := "java/util/Arrays", name := "copyOfRange", desc := "([BII)[B" } : Jvm.MethodName) jdk_65_method_132_code (3 : Nat) (Option.some (Jvm.ClassFile.FieldType.array Jvm.ClassFile.FieldType.byte)), Jvm.Cond.code ({ cls := "java/util/Objects", name := "requireNonNull", desc := "(Ljava/lang/Object;Ljava/lang/String;)Ljava/lang/Object;" } : Jvm.MethodName) jdk_31_method_11_code (2 : Nat) (Option.some (Jvm.ClassFile.FieldType.object "java/lang/Object")), Jvm.Cond.code ({ cls := "java/lang/String", name := "isEmpty", desc := "()Z" } : Jvm.MethodName) jdk_42_method_55_code (1 : Nat) (Option.some Jvm.ClassFile.FieldType.boolean), Jvm.Cond.code ({ cls := "java/lang/String", name := "indexOf", desc := "(I)I" } : Jvm.MethodName) jdk_42_method_79_code (2 : Nat) (Option.some Jvm.ClassFile.FieldType.int), Jvm.Cond.code ({ cls := "java/lang/String", name := "indexOf", desc := "(II)I" } : Jvm.MethodName) jdk_42_method_80_code (3 : Nat) (Option.some Jvm.ClassFile.FieldType.int), Jvm.Cond.code ({ cls := "java/lang/String", name := "isLatin1", desc := "()Z" } : Jvm.MethodName) jdk_42_method_154_code (1 : Nat) (Option.some Jvm.ClassFile.FieldType.boolean), Jvm.Cond.code ({ cls := "java/lang/StringLatin1", name := "indexOf", desc := "([BIII)I" } : Jvm.MethodName) jdk_43_method_22_code (4 : Nat) (Option.some Jvm.ClassFile.FieldType.int), Jvm.Cond.code ({ cls := "java/lang/StringLatin1", name := "canEncode", desc := "(I)Z" } : Jvm.MethodName) jdk_43_method_4_code (1 : Nat) (Option.some Jvm.ClassFile.FieldType.boolean), Jvm.Cond.code ({ cls := "java/lang/Math", name := "max", desc := "(II)I" } : Jvm.MethodName) jdk_29_method_65_code (2 : Nat) (Option.some Jvm.ClassFile.FieldType.int), Jvm.Cond.code ({ cls := "java/lang/Math", name := "min", desc := "(II)I" } : Jvm.MethodName) jdk_29_method_69_code (2 : Nat) (Option.some Jvm.ClassFile.FieldType.int), Jvm.Cond.code ({ cls := "java/lang/StringLatin1", name := "indexOfChar", desc := "([BIII)I" } : Jvm.MethodName) jdk_43_method_23_code (6 : Nat) (Option.some Jvm.ClassFile.FieldType.int), Jvm.Cond.code ({ cls := "java/lang/StringUTF16", name := "toBytes", desc := "([CII)[B" } : Jvm.MethodName) jdk_52_method_14_code (5 : Nat) (Option.some (Jvm.ClassFile.FieldType.array Jvm.ClassFile.FieldType.byte)), Jvm.Cond.code ({ cls := "java/lang/StringUTF16", name := "newBytesFor", desc := "(I)[B" } : Jvm.MethodName) jdk_52_method_2_code (1 : Nat) (Option.some (Jvm.ClassFile.FieldType.array Jvm.ClassFile.FieldType.byte)), Jvm.Cond.code ({ cls := "java/lang/StringUTF16", name := "newBytesLength", desc := "(I)I" } : Jvm.MethodName) jdk_52_method_3_code (1 : Nat) (Option.some Jvm.ClassFile.FieldType.int), Jvm.Cond.code ({ cls := "java/lang/StringUTF16", name := "putChar", desc := "([BII)V" } : Jvm.MethodName) jdk_52_method_4_code (3 : Nat) (Option.none : Option Jvm.ClassFile.FieldType), Jvm.Cond.code ({ cls := "java/lang/StringUTF16", name := "getChar", desc := "([BI)C" } : Jvm.MethodName) jdk_52_method_5_code (2 : Nat) (Option.some Jvm.ClassFile.FieldType.char), Jvm.Cond.code ({ cls := "java/lang/StringUTF16", name := "toBytes", desc := "(C)[B" } : Jvm.MethodName) jdk_52_method_24_code (2 : Nat) (Option.some (Jvm.ClassFile.FieldType.array Jvm.ClassFile.FieldType.byte)), Jvm.Cond.code ({ cls := "java/lang/AbstractStringBuilder", name := "inflate", desc := "()V" } : Jvm.MethodName) jdk_68_method_11_code (2 : Nat) (Option.none : Option Jvm.ClassFile.FieldType), Jvm.Cond.code ({ cls := "java/lang/StringLatin1", name := "inflate", desc := "([BI[BII)V" } : Jvm.MethodName) jdk_43_method_50_code (5 : Nat) (Option.none : Option Jvm.ClassFile.FieldType), Jvm.Cond.code ({ cls := "java/lang/StringUTF16", name := "inflate", desc := "([BI[BII)V" } : Jvm.MethodName) jdk_52_method_86_code (6 : Nat) (Option.none : Option Jvm.ClassFile.FieldType), Jvm.Cond.code ({ cls := "java/lang/StringUTF16", name := "checkBoundsOffCount", desc := "(II[B)V" } : Jvm.MethodName) jdk_52_method_94_code (3 : Nat) (Option.none : Option Jvm.ClassFile.FieldType), Jvm.Cond.code ({ cls := "java/lang/StringUTF16", name := "length", desc := "([B)I" } : Jvm.MethodName) jdk_52_method_6_code (1 : Nat) (Option.some Jvm.ClassFile.FieldType.int), Jvm.Cond.code ({ cls := "java/lang/String", name := "checkBoundsOffCount", desc := "(III)I" } : Jvm.MethodName) jdk_42_method_157_code (3 : Nat) (Option.some Jvm.ClassFile.FieldType.int), Jvm.Cond.code ({ cls := "jdk/internal/util/Preconditions", name := "checkFromIndexSize", desc := "(IIILjava/util/function/BiFunction;)I" } : Jvm.MethodName) jdk_41_method_13_code (4 : Nat) (Option.some Jvm.ClassFile.FieldType.int), Jvm.Cond.code ({ cls := "java/lang/StringUTF16", name := "indexOf", desc := "([BIII)I" } : Jvm.MethodName) jdk_52_method_40_code (4 : Nat) (Option.some Jvm.ClassFile.FieldType.int), Jvm.Cond.code ({ cls := "java/lang/StringUTF16", name := "indexOfChar", desc := "([BIII)I" } : Jvm.MethodName) jdk_52_method_47_code (4 : Nat) (Option.some Jvm.ClassFile.FieldType.int), Jvm.Cond.code ({ cls := "java/lang/StringUTF16", name := "checkBoundsBeginEnd", desc := "(II[B)V" } : Jvm.MethodName) jdk_52_method_93_code (3 : Nat) (Option.none : Option Jvm.ClassFile.FieldType), Jvm.Cond.code ({ cls := "java/lang/String", name := "checkBoundsBeginEnd", desc := "(III)V" } : Jvm.MethodName) jdk_42_method_158_code (3 : Nat) (Option.none : Option Jvm.ClassFile.FieldType), Jvm.Cond.code ({ cls := "jdk/internal/util/Preconditions", name := "checkFromToIndex", desc := "(IIILjava/util/function/BiFunction;)I" } : Jvm.MethodName) jdk_41_method_12_code (4 : Nat) (Option.some Jvm.ClassFile.FieldType.int), Jvm.Cond.code ({ cls := "java/lang/StringUTF16", name := "indexOfCharUnsafe", desc := "([BIII)I" } : Jvm.MethodName) jdk_52_method_48_code (5 : Nat) (Option.some Jvm.ClassFile.FieldType.int)]
set_option maxRecDepth 65536 in
theorem codes_eq : words1.filter isCode = codes1 := rfl
theorem w_codes : ∀ c ∈ words1.filter isCode, c.before args0 about1 = true := by
  rw [codes_eq]
  intro c hc
  simp only [codes1, List.mem_cons, List.not_mem_nil, or_false] at hc
  rcases hc with rfl | rfl | rfl | rfl | rfl | rfl | rfl | rfl | rfl | rfl | rfl | rfl | rfl | rfl | rfl | rfl | rfl | rfl | rfl | rfl | rfl | rfl | rfl | rfl | rfl | rfl | rfl | rfl | rfl | rfl | rfl | rfl | rfl | rfl | rfl | rfl | rfl | rfl | rfl | rfl | rfl | rfl | rfl | rfl | rfl | rfl | rfl | rfl | rfl | rfl | rfl | rfl | rfl | rfl | rfl | rfl | rfl | rfl | rfl | rfl
  · exact w_c0
  · exact w_c1
  · exact w_c2
  · exact w_c3
  · exact w_c4
  · exact w_c5
  · exact w_c6
  · exact w_c7
  · exact w_c8
  · exact w_c9
  · exact w_c10
  · exact w_c11
  · exact w_c12
  · exact w_c13
  · exact w_c14
  · exact w_c15
  · exact w_c16
  · exact w_c17
  · exact w_c18
  · exact w_c19
  · exact w_c20
  · exact w_c21
  · exact w_c22
  · exact w_c23
  · exact w_c24
  · exact w_c25
  · exact w_c26
  · exact w_c27
  · exact w_c28
  · exact w_c29
  · exact w_c30
  · exact w_c31
  · exact w_c32
  · exact w_c33
  · exact w_c34
  · exact w_c35
  · exact w_c36
  · exact w_c37
  · exact w_c38
  · exact w_c39
  · exact w_c40
  · exact w_c41
  · exact w_c42
  · exact w_c43
  · exact w_c44
  · exact w_c45
  · exact w_c46
  · exact w_c47
  · exact w_c48
  · exact w_c49
  · exact w_c50
  · exact w_c51
  · exact w_c52
  · exact w_c53
  · exact w_c54
  · exact w_c55
  · exact w_c56
  · exact w_c57
  · exact w_c58
  · exact w_c59
set_option maxRecDepth 65536 in
theorem w_t1 : (words1.take 24).all (fun c => isCode c || c.before args0 about1) = true := by decide +kernel
set_option maxRecDepth 65536 in
theorem w_t2 : ((words1.drop 24).take 24).all (fun c => isCode c || c.before args0 about1) = true := by decide +kernel
set_option maxRecDepth 65536 in
theorem w_t3 : (((words1.drop 24).drop 24).take 24).all (fun c => isCode c || c.before args0 about1) = true := by decide +kernel
set_option maxRecDepth 65536 in
theorem w_t4 : ((((words1.drop 24).drop 24).drop 24).take 24).all (fun c => isCode c || c.before args0 about1) = true := by decide +kernel
set_option maxRecDepth 65536 in
theorem w_t5 : (((((words1.drop 24).drop 24).drop 24).drop 24).take 24).all (fun c => isCode c || c.before args0 about1) = true := by decide +kernel
set_option maxRecDepth 65536 in
theorem w_t6 : ((((((words1.drop 24).drop 24).drop 24).drop 24).drop 24).take 24).all (fun c => isCode c || c.before args0 about1) = true := by decide +kernel
set_option maxRecDepth 65536 in
theorem w_t7 : (((((((words1.drop 24).drop 24).drop 24).drop 24).drop 24).drop 24).take 24).all (fun c => isCode c || c.before args0 about1) = true := by decide +kernel
set_option maxRecDepth 65536 in
theorem w_t8 : ((((((((words1.drop 24).drop 24).drop 24).drop 24).drop 24).drop 24).drop 24).take 24).all (fun c => isCode c || c.before args0 about1) = true := by decide +kernel
set_option maxRecDepth 65536 in
theorem w_t9 : (((((((((words1.drop 24).drop 24).drop 24).drop 24).drop 24).drop 24).drop 24).drop 24).take 24).all (fun c => isCode c || c.before args0 about1) = true := by decide +kernel
set_option maxRecDepth 65536 in
theorem w_t10 : ((((((((((words1.drop 24).drop 24).drop 24).drop 24).drop 24).drop 24).drop 24).drop 24).drop 24).take 24).all (fun c => isCode c || c.before args0 about1) = true := by decide +kernel
set_option maxRecDepth 65536 in
theorem w_t11 : (((((((((((words1.drop 24).drop 24).drop 24).drop 24).drop 24).drop 24).drop 24).drop 24).drop 24).drop 24).take 24).all (fun c => isCode c || c.before args0 about1) = true := by decide +kernel
set_option maxRecDepth 65536 in
theorem w_t12 : (((((((((((words1.drop 24).drop 24).drop 24).drop 24).drop 24).drop 24).drop 24).drop 24).drop 24).drop 24).drop 24).all (fun c => isCode c || c.before args0 about1) = true := by decide +kernel
theorem w_tables : (allAtoms (Jvm.Cond.code x code maxLocals ret :: tables_1)).before args0 about1 = true := by
  rw [allAtoms_all]
  show words1.all (fun c => c.before args0 about1) = true
  refine all_split ?_ w_codes
  rw [← List.take_append_drop 24 words1, List.all_append, w_t1, ← List.take_append_drop 24 (words1.drop 24), List.all_append, w_t2, ← List.take_append_drop 24 ((words1.drop 24).drop 24), List.all_append, w_t3, ← List.take_append_drop 24 (((words1.drop 24).drop 24).drop 24), List.all_append, w_t4, ← List.take_append_drop 24 ((((words1.drop 24).drop 24).drop 24).drop 24), List.all_append, w_t5, ← List.take_append_drop 24 (((((words1.drop 24).drop 24).drop 24).drop 24).drop 24), List.all_append, w_t6, ← List.take_append_drop 24 ((((((words1.drop 24).drop 24).drop 24).drop 24).drop 24).drop 24), List.all_append, w_t7, ← List.take_append_drop 24 (((((((words1.drop 24).drop 24).drop 24).drop 24).drop 24).drop 24).drop 24), List.all_append, w_t8, ← List.take_append_drop 24 ((((((((words1.drop 24).drop 24).drop 24).drop 24).drop 24).drop 24).drop 24).drop 24), List.all_append, w_t9, ← List.take_append_drop 24 (((((((((words1.drop 24).drop 24).drop 24).drop 24).drop 24).drop 24).drop 24).drop 24).drop 24), List.all_append, w_t10, ← List.take_append_drop 24 ((((((((((words1.drop 24).drop 24).drop 24).drop 24).drop 24).drop 24).drop 24).drop 24).drop 24).drop 24), List.all_append, w_t11, w_t12]
  rfl
set_option maxRecDepth 65536 in
theorem w_rest : rest_1_c.before args0 about1 = true := by decide +kernel
set_option maxRecDepth 65536 in
theorem w_case : (Jvm.Cond.and given_1 narrow_1).before args0 about1 = true := by decide +kernel
set_option maxRecDepth 65536 in
theorem w_consts : constsHeld consts_1 about1 := Jvm.Lit.constsHeldB_iff.mp (by decide +kernel)
theorem w_applies : (headSpec (Jvm.Cond.code x code maxLocals ret :: tables_1) room_1).applies x e0.platform about1 = true :=
  (Spec.applies_iff w_frames).mpr ⟨w_running, w_runnable, w_alone, w_named, w_hears, w_ripe, w_room, w_tables⟩
theorem atStart : AtStart classFile x code maxLocals ret World_1 tables_1 room_1 Calls_1 rest_1 Pre_1 launch0 p0 e0 about1 theMethod args0 below0 :=
  ⟨lists_1, trivial, launch0.admits_env _ _ _, launch0.least_env, fairChoices_fair.cas, fairChoices_fair.clock, w_frames, w_args, w_heap, w_applies, ⟨w_consts, trivial⟩, w_rest, w_case⟩
end start1
theorem witness_1 : WitnessClaimed_1 := ⟨start1.p0, start1.e0, start1.about1, start1.theMethod, start1.args0, start1.below0, start1.atStart⟩
end Jvm.Pilot.@@N@@
