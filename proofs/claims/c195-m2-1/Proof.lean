import JvmDerived
import JvmDerived.Pilot.@@N@@Statement
import JvmDerived.Pilot.@@N@@Code
set_option linter.unusedVariables false
set_option linter.unusedSimpArgs false
namespace Jvm.OwnKit
open Jvm Sem ClassFile Op Lib Jvm.Stand Jvm.Free Jvm.LawKit Jvm.RoadKit
/-- fresh since the law began, in the heap, booked by no table -/
def Mine (Z : State) (EL : List (String × Nat)) (vm : Vm) (h : Heap) (mine : List Addr) : Prop := ∀ x ∈ mine, Z.heap.size ≤ x ∧ x < h.size ∧ Safe Z EL vm h x
/-- the frame of an end: the wide one always, the narrow one where nothing may be interned -/
def Fin2 (w : Bool) (s : State) (o : Outcome) (t : State) (L : List Loc) (k n : Nat) : Prop := ReturnedEndW s o t L k n ∧ (w = false → FrameEnd s o t L k n)
/-- what the end of a body says -/
def EndQ (w : Bool) (Z : State) (EL : List (String × Nat)) (Q : Option Value → Heap → List Addr → Prop) (R : Room) (s : State) (o : Outcome) (t : State) : Prop :=
  ∃ (v : Option Value) (L : List Loc) (out : List Addr), o = .returned v ∧ Q v t.heap out ∧ Fr Z.heap.size L ∧ Mine Z EL t.vm t.heap out ∧ CHr Z EL s.vm s.heap t.vm t.heap ∧ Ext Z.heap t.heap ∧ Fin2 w s o t L R.cells R.slots
/-- what is known of the body -/
def Ctx (Z : State) (EL : List (String × Nat)) (nm : String) (code : ByteArray) (ml : Nat) (ret : Option FieldType) (p : Program) (meth : Method) (c : Code) : Prop :=
  p.tables.exec = Jvm.exec ∧ c.code = code ∧ c.maxLocals = ml ∧ meth.sig.returnType = ret ∧ meth.locks = false ∧ meth.name = nm ∧ ∃ a0 : Array Value, EW Z a0 EL
/-- where the walk stands, its frame apart -/
def Cfg (l : Launch) (w : Bool) (Z : State) (EL : List (String × Nat)) (own : String) (R : Room) (h : Heap) (mine : List Addr) (kc kn : Nat) (p : Program) (e : Env) (s : State) (m : MethodId) (args : Array Value) (below : List Frame) (meth : Method) (c : Code) (T : State) : Prop :=
  ∃ (vm0 : Vm) (k0 : Nat) (locs : List Loc), Stand p l e R (s.setVm vm0) m args below meth c T locs kc kn ∧ T.heap = h ∧ s.Since vm0 k0 ∧ k0 ≤ h.size ∧ Z.Warmed39 vm0 ∧ vm0.findClass own = some m.cls ∧ CHr Z EL s.vm s.heap vm0 h ∧ Fr Z.heap.size locs ∧ Ext Z.heap h ∧ Mine Z EL vm0 h mine ∧ (w = false → vm0 = s.vm)
/-- from here the body comes to its end -/
def Go (l : Launch) (w : Bool) (Z : State) (EL : List (String × Nat)) (own nm : String) (code : ByteArray) (ml : Nat) (ret : Option FieldType) (R : Room) (Q : Option Value → Heap → List Addr → Prop) (h : Heap) (mine : List Addr) (kc kn pc : Nat) (Ls : Array Slot) (st : List Value) : Prop :=
  ∀ (p : Program) (e : Env) (s : State) (m : MethodId) (args : Array Value) (below : List Frame) (meth : Method) (c : Code) (T : State), Ctx Z EL nm code ml ret p meth c → Cfg l w Z EL own R h mine kc kn p e s m args below meth c T →
    ∃ (t : State) (o : Outcome), Steps p.tables e below (T.setTop (mkF m pc Ls st)) t ∧ t.status = .running ∧ Ended t below o ∧ EndQ w Z EL Q R s o t
/-- a contract -/
def Con (l : Launch) (w : Bool) (Z : State) (EL : List (String × Nat)) (y : MethodName) (code : ByteArray) (ml : Nat) (ret : Option FieldType) (ws : List Jvm.Cond) (R : Room) (as' : Array Value) (h : Heap) (mine : List Addr) (Q : Option Value → Heap → List Addr → Prop) : Prop :=
  MetFree l y (head1 (Jvm.Cond.code y code ml ret :: ws) R) (fun a U => a = as' ∧ Z.Warmed39 U.vm ∧ U.heap = h ∧ CHv Z EL U.vm h ∧ Mine Z EL U.vm h mine) (fun _ _ _ _ _ => True) (fun _ U o U' => EndQ w Z EL Q R U o U')
/-- who pays a call that interns nothing -/
def Pay (l : Launch) (R : Room) (Z : State) (y : MethodName) (len W : Nat) (as' : Array Value) (h : Heap) (dc dn : Nat) (P : Option Value → Heap → List Loc → Prop) : Prop :=
  ∀ (p : Program) (e : Env) (below : List Frame) (s : State) (args : Array Value), Z.Warmed39 s.vm → Back l R p e below s args y len W (fun A a => a = as' ∧ A.U.heap = h ∧ A.cells + dc ≤ R.cells ∧ A.slots + dn ≤ R.slots) (fun A _ v B => ∃ L, P v B.U.heap L ∧ B.locs = A.locs ++ L ∧ B.cells = A.cells + dc ∧ B.slots = A.slots + dn)
section Small
variable {Z : State} {EL : List (String × Nat)} {vm vm1 : Vm} {h h' h0 h1 h2 : Heap} {mine ws : List Addr}
theorem ext_refl (h : Heap) : Ext h h := ⟨Nat.le_refl _, fun _ _ q => q⟩
theorem ext_tr (A : Ext h0 h1) (B : Ext h1 h2) : Ext h0 h2 := ⟨Nat.le_trans A.1 B.1, fun a c q => B.2 _ _ (A.2 _ _ q)⟩
theorem ext_keep (E : Ext h0 h) (K : Keep h h' ws) (hq : ∀ x ∈ ws, h0.size ≤ x) : Ext h0 h' := ⟨Nat.le_trans E.1 K.1, fun a c q => K.2.1 a c (E.2 _ _ q) fun hm => absurd (Array.getElem?_eq_some_iff.mp q).1 (Nat.not_lt.mpr (hq a hm))⟩
theorem ext_wr {a : Addr} {sl : Nat} {v : Value} (E : Ext h0 h) (W : Wr h h' a sl v) (hq : h0.size ≤ a) : Ext h0 h' := ext_keep E (Keep.of_wr W) (allS hq all0)
theorem keep_ext (E : Ext h h') (ws : List Addr) : Keep h h' ws := (Keep.refl h ws).ext E
theorem Mine.nil : Mine Z EL vm h [] := fun _ q => nomatch q
theorem Mine.ext (E : Ext h h') (H : CHv Z EL vm h) (M : Mine Z EL vm h mine) : Mine Z EL vm h' mine := fun x hx => ⟨(M x hx).1, Nat.lt_of_lt_of_le (M x hx).2.1 E.1, (M x hx).2.2.ext E H⟩
theorem Mine.keep (K : Keep h h' ws) (hs : ∀ x ∈ ws, x ∈ mine) (H : CHv Z EL vm h) (M : Mine Z EL vm h mine) : Mine Z EL vm h' mine := fun x hx => ⟨(M x hx).1, Nat.lt_of_lt_of_le (M x hx).2.1 K.1, (M x hx).2.2.keep K (fun y hy => (M y (hs y hy)).2.2) H⟩
theorem Mine.new {out : List Addr} (K : Keep h h' ws) (hs : ∀ x ∈ ws, x ∈ mine) (H : CHv Z EL vm h) (M : Mine Z EL vm h mine) (E0 : Ext Z.heap h) (ho : ∀ x ∈ out, h.size ≤ x ∧ x < h'.size) : Mine Z EL vm h' (out ++ mine) := fun x hx => by
  rcases List.mem_append.mp hx with hx | hx
  · exact ⟨Nat.le_trans E0.1 (ho x hx).1, (ho x hx).2, (Safe.new (ho x hx).1).keep K (fun y hy => (M y (hs y hy)).2.2) H⟩
  · exact M.keep K hs H x hx
theorem Mine.later (A : CHr Z EL vm h vm1 h') (M : Mine Z EL vm h mine) : Mine Z EL vm1 h' mine := fun x hx => ⟨(M x hx).1, Nat.lt_of_lt_of_le (M x hx).2.1 A.2.1, A.safe (M x hx).2.1 (M x hx).2.2⟩
theorem Mine.sub {m2 : List Addr} (M : Mine Z EL vm h mine) (q : ∀ x ∈ m2, x ∈ mine) : Mine Z EL vm h m2 := fun x hx => M x (q x hx)
theorem Mine.app {m2 : List Addr} (M : Mine Z EL vm h mine) (M' : Mine Z EL vm h m2) : Mine Z EL vm h (mine ++ m2) := fun x hx => (List.mem_append.mp hx).elim (M x) (M' x)
theorem CHv.none : CHv Z [] vm h := fun _ hp => by cases hp
theorem Safe.none {x : Addr} : Safe Z [] vm h x := fun B => by obtain ⟨p, hp, -⟩ := B; cases hp
theorem EW.none : ∃ a0 : Array Value, EW Z a0 [] := ⟨#[], EW.nil⟩
end Small
section Plain
variable {l : Launch} {w : Bool} {Z : State} {EL : List (String × Nat)} {own nm : String} {code : ByteArray} {ml : Nat} {ret : Option FieldType} {R : Room} {Q : Option Value → Heap → List Addr → Prop} {h : Heap} {mine : List Addr} {kc kn pc q : Nat} {Ls : Array Slot} {st : List Value} {a0 : Array Value}
theorem go_pl {Ls' : Array Slot} {st' : List Value} (hs : ∀ (p : Program) (e : Env) (below : List Frame) (m : MethodId) (c : Code) (T target : State), p.tables.exec = Jvm.exec → c.code = code → At T m c below → Steps p.tables e below (T.setTop (mkF m q Ls' st')) target → Steps p.tables e below (T.setTop (mkF m pc Ls st)) target)
    (k : Go l w Z EL own nm code ml ret R Q h mine kc kn q Ls' st') : Go l w Z EL own nm code ml ret R Q h mine kc kn pc Ls st := by
  intro p e s m args below meth c T hC hc
  obtain ⟨t, o, r1, r2⟩ := k p e s m args below meth c T hC hc
  obtain ⟨vm0, k0, locs, X, -⟩ := hc
  exact ⟨t, o, hs p e below m c T t hC.1 hC.2.1 X.here r1, r2⟩
theorem go_aloadN {k : Fin 4} {v : Value} (hd : decode code pc = .ok (.aload_n k, 1)) (hq : pc + 1 = q) (hl : Ls[k.val]? = some (.val v)) (hv : v.isRef = true) (k : Go l w Z EL own nm code ml ret R Q h mine kc kn q Ls (v :: st)) : Go l w Z EL own nm code ml ret R Q h mine kc kn pc Ls st := by
  subst hq
  exact go_pl (fun p e below m c T target hx hby hA kk => XS.aloadN hA hx rfl (hb hby hd) hl hv kk) k
theorem go_aload {k : Nat} {v : Value} (hd : decode code pc = .ok (.aload k, 2)) (hq : pc + 2 = q) (hl : Ls[k]? = some (.val v)) (hv : v.isRef = true) (k : Go l w Z EL own nm code ml ret R Q h mine kc kn q Ls (v :: st)) : Go l w Z EL own nm code ml ret R Q h mine kc kn pc Ls st := by
  subst hq
  exact go_pl (fun p e below m c T target hx hby hA kk => XS.aload hA hx rfl (hb hby hd) hl hv kk) k
theorem go_iloadN {k : Fin 4} {v : Int32} (hd : decode code pc = .ok (.iload_n k, 1)) (hq : pc + 1 = q) (hl : Ls[k.val]? = some (.val (.int v))) (k : Go l w Z EL own nm code ml ret R Q h mine kc kn q Ls (.int v :: st)) : Go l w Z EL own nm code ml ret R Q h mine kc kn pc Ls st := by
  subst hq
  exact go_pl (fun p e below m c T target hx hby hA kk => XS.iloadN hA hx rfl (hb hby hd) hl kk) k
theorem go_iload {k : Nat} {v : Int32} (hd : decode code pc = .ok (.iload k, 2)) (hq : pc + 2 = q) (hl : Ls[k]? = some (.val (.int v))) (k : Go l w Z EL own nm code ml ret R Q h mine kc kn q Ls (.int v :: st)) : Go l w Z EL own nm code ml ret R Q h mine kc kn pc Ls st := by
  subst hq
  exact go_pl (fun p e below m c T target hx hby hA kk => XS.iload hA hx rfl (hb hby hd) hl kk) k
theorem go_lloadN {k : Fin 4} {v : Int64} (hd : decode code pc = .ok (.lload_n k, 1)) (hq : pc + 1 = q) (hl : Ls[k.val]? = some (.val (.long v))) (k : Go l w Z EL own nm code ml ret R Q h mine kc kn q Ls (.long v :: st)) : Go l w Z EL own nm code ml ret R Q h mine kc kn pc Ls st := by
  subst hq
  exact go_pl (fun p e below m c T target hx hby hA kk => XT.lloadN hA hx rfl (hb hby hd) hl kk) k
theorem go_iconst {i : Int} {z : Int32} (hd : decode code pc = .ok (.iconst i, 1)) (hq : pc + 1 = q) (hz : Int32.ofInt i = z) (k : Go l w Z EL own nm code ml ret R Q h mine kc kn q Ls (.int z :: st)) : Go l w Z EL own nm code ml ret R Q h mine kc kn pc Ls st := by
  subst hq hz
  exact go_pl (fun p e below m c T target hx hby hA kk => XS.iconst hA hx rfl (hb hby hd) kk) k
theorem go_bipush {i : Int} {z : Int32} (hd : decode code pc = .ok (.bipush i, 2)) (hq : pc + 2 = q) (hz : (Int8.ofInt i).toInt32 = z) (k : Go l w Z EL own nm code ml ret R Q h mine kc kn q Ls (.int z :: st)) : Go l w Z EL own nm code ml ret R Q h mine kc kn pc Ls st := by
  subst hq hz
  exact go_pl (fun p e below m c T target hx hby hA kk => XS.bipush hA hx rfl (hb hby hd) kk) k
theorem go_sipush {i : Int} {z : Int32} (hd : decode code pc = .ok (.sipush i, 3)) (hq : pc + 3 = q) (hz : (Int16.ofInt i).toInt32 = z) (k : Go l w Z EL own nm code ml ret R Q h mine kc kn q Ls (.int z :: st)) : Go l w Z EL own nm code ml ret R Q h mine kc kn pc Ls st := by
  subst hq hz
  exact go_pl (fun p e below m c T target hx hby hA kk => XS.sipush hA hx rfl (hb hby hd) kk) k
theorem go_lconst {k : Fin 2} {z : Int64} (hd : decode code pc = .ok (.lconst k, 1)) (hq : pc + 1 = q) (hz : Int64.ofNat k = z) (kk : Go l w Z EL own nm code ml ret R Q h mine kc kn q Ls (.long z :: st)) : Go l w Z EL own nm code ml ret R Q h mine kc kn pc Ls st := by
  subst hq hz
  exact go_pl (fun p e below m c T target hx hby hA kk => XT.lconst hA hx rfl (hb hby hd) kk) kk
theorem go_null  (hd : decode code pc = .ok (.aconst_null, 1)) (hq : pc + 1 = q)  (k : Go l w Z EL own nm code ml ret R Q h mine kc kn q Ls (.null :: st)) : Go l w Z EL own nm code ml ret R Q h mine kc kn pc Ls st := by
  subst hq
  exact go_pl (fun p e below m c T target hx hby hA kk => XS.aconstNull hA hx rfl (hb hby hd) kk) k
theorem go_iadd {x y : Int32} (hd : decode code pc = .ok (.iadd, 1)) (hq : pc + 1 = q)  (k : Go l w Z EL own nm code ml ret R Q h mine kc kn q Ls (.int (x + y) :: st)) : Go l w Z EL own nm code ml ret R Q h mine kc kn pc Ls (.int y :: .int x :: st) := by
  subst hq
  exact go_pl (fun p e below m c T target hx hby hA kk => XS.iadd hA hx rfl (hb hby hd) rfl kk) k
theorem go_isub {x y : Int32} (hd : decode code pc = .ok (.isub, 1)) (hq : pc + 1 = q)  (k : Go l w Z EL own nm code ml ret R Q h mine kc kn q Ls (.int (x - y) :: st)) : Go l w Z EL own nm code ml ret R Q h mine kc kn pc Ls (.int y :: .int x :: st) := by
  subst hq
  exact go_pl (fun p e below m c T target hx hby hA kk => XS.isub hA hx rfl (hb hby hd) rfl kk) k
theorem go_imul {x y : Int32} (hd : decode code pc = .ok (.imul, 1)) (hq : pc + 1 = q)  (k : Go l w Z EL own nm code ml ret R Q h mine kc kn q Ls (.int (x * y) :: st)) : Go l w Z EL own nm code ml ret R Q h mine kc kn pc Ls (.int y :: .int x :: st) := by
  subst hq
  exact go_pl (fun p e below m c T target hx hby hA kk => XS.imul hA hx rfl (hb hby hd) rfl kk) k
theorem go_iand {x y : Int32} (hd : decode code pc = .ok (.iand, 1)) (hq : pc + 1 = q)  (k : Go l w Z EL own nm code ml ret R Q h mine kc kn q Ls (.int (x &&& y) :: st)) : Go l w Z EL own nm code ml ret R Q h mine kc kn pc Ls (.int y :: .int x :: st) := by
  subst hq
  exact go_pl (fun p e below m c T target hx hby hA kk => XS.iand hA hx rfl (hb hby hd) rfl kk) k
theorem go_ior {x y : Int32} (hd : decode code pc = .ok (.ior, 1)) (hq : pc + 1 = q)  (k : Go l w Z EL own nm code ml ret R Q h mine kc kn q Ls (.int (x ||| y) :: st)) : Go l w Z EL own nm code ml ret R Q h mine kc kn pc Ls (.int y :: .int x :: st) := by
  subst hq
  exact go_pl (fun p e below m c T target hx hby hA kk => XT.ior hA hx rfl (hb hby hd) rfl kk) k
theorem go_ixor {x y : Int32} (hd : decode code pc = .ok (.ixor, 1)) (hq : pc + 1 = q)  (k : Go l w Z EL own nm code ml ret R Q h mine kc kn q Ls (.int (x ^^^ y) :: st)) : Go l w Z EL own nm code ml ret R Q h mine kc kn pc Ls (.int y :: .int x :: st) := by
  subst hq
  exact go_pl (fun p e below m c T target hx hby hA kk => XT.ixor hA hx rfl (hb hby hd) rfl kk) k
theorem go_ishl {x y : Int32} (hd : decode code pc = .ok (.ishl, 1)) (hq : pc + 1 = q)  (k : Go l w Z EL own nm code ml ret R Q h mine kc kn q Ls (.int (x <<< (y &&& 31)) :: st)) : Go l w Z EL own nm code ml ret R Q h mine kc kn pc Ls (.int y :: .int x :: st) := by
  subst hq
  exact go_pl (fun p e below m c T target hx hby hA kk => XT.ishl hA hx rfl (hb hby hd) rfl kk) k
theorem go_ishr {x y : Int32} (hd : decode code pc = .ok (.ishr, 1)) (hq : pc + 1 = q)  (k : Go l w Z EL own nm code ml ret R Q h mine kc kn q Ls (.int (x >>> (y &&& 31)) :: st)) : Go l w Z EL own nm code ml ret R Q h mine kc kn pc Ls (.int y :: .int x :: st) := by
  subst hq
  exact go_pl (fun p e below m c T target hx hby hA kk => XT.ishr hA hx rfl (hb hby hd) rfl kk) k
theorem go_iushr {x y : Int32} (hd : decode code pc = .ok (.iushr, 1)) (hq : pc + 1 = q)  (k : Go l w Z EL own nm code ml ret R Q h mine kc kn q Ls (.int (XT.ushr x y) :: st)) : Go l w Z EL own nm code ml ret R Q h mine kc kn pc Ls (.int y :: .int x :: st) := by
  subst hq
  exact go_pl (fun p e below m c T target hx hby hA kk => XT.iushr hA hx rfl (hb hby hd) rfl kk) k
theorem go_irem {x y : Int32} (hd : decode code pc = .ok (.irem, 1)) (hq : pc + 1 = q) (hy : y ≠ 0) (k : Go l w Z EL own nm code ml ret R Q h mine kc kn q Ls (.int (x % y) :: st)) : Go l w Z EL own nm code ml ret R Q h mine kc kn pc Ls (.int y :: .int x :: st) := by
  subst hq
  have er : x - x / y * y = x % y := irem_eq_mod x y
  exact go_pl (fun p e below m c T target hx hby hA kk => XS.irem hA hx rfl (hb hby hd) rfl hy (by rw [er]; exact kk)) k
theorem go_i2c {x : Int32} (hd : decode code pc = .ok (.i2c, 1)) (hq : pc + 1 = q)  (k : Go l w Z EL own nm code ml ret R Q h mine kc kn q Ls (.int (x.toUInt32.toUInt16.toUInt32.toInt32) :: st)) : Go l w Z EL own nm code ml ret R Q h mine kc kn pc Ls (.int x :: st) := by
  subst hq
  exact go_pl (fun p e below m c T target hx hby hA kk => XT.i2c hA hx rfl (hb hby hd) rfl kk) k
theorem go_i2b {x : Int32} (hd : decode code pc = .ok (.i2b, 1)) (hq : pc + 1 = q)  (k : Go l w Z EL own nm code ml ret R Q h mine kc kn q Ls (.int (x.toInt8.toInt32) :: st)) : Go l w Z EL own nm code ml ret R Q h mine kc kn pc Ls (.int x :: st) := by
  subst hq
  exact go_pl (fun p e below m c T target hx hby hA kk => XT.i2b hA hx rfl (hb hby hd) rfl kk) k
theorem go_ineg {x : Int32} (hd : decode code pc = .ok (.ineg, 1)) (hq : pc + 1 = q)  (k : Go l w Z EL own nm code ml ret R Q h mine kc kn q Ls (.int (-x) :: st)) : Go l w Z EL own nm code ml ret R Q h mine kc kn pc Ls (.int x :: st) := by
  subst hq
  exact go_pl (fun p e below m c T target hx hby hA kk => XS.ineg hA hx rfl (hb hby hd) rfl kk) k
theorem go_dup {x : Value} (hd : decode code pc = .ok (.dup, 1)) (hq : pc + 1 = q) (hc : x.category = 1) (k : Go l w Z EL own nm code ml ret R Q h mine kc kn q Ls (x :: x :: st)) : Go l w Z EL own nm code ml ret R Q h mine kc kn pc Ls (x :: st) := by
  subst hq
  exact go_pl (fun p e below m c T target hx hby hA kk => XS.dup hA hx rfl (hb hby hd) rfl hc kk) k
theorem go_pop {x : Value} (hd : decode code pc = .ok (.pop, 1)) (hq : pc + 1 = q) (hc : x.category = 1) (k : Go l w Z EL own nm code ml ret R Q h mine kc kn q Ls st) : Go l w Z EL own nm code ml ret R Q h mine kc kn pc Ls (x :: st) := by
  subst hq
  exact go_pl (fun p e below m c T target hx hby hA kk => XT.pop hA hx rfl (hb hby hd) rfl hc kk) k
theorem go_dupX1 {x y : Value} (hd : decode code pc = .ok (.dup_x1, 1)) (hq : pc + 1 = q) (hc : x.category = 1) (hc' : y.category = 1) (k : Go l w Z EL own nm code ml ret R Q h mine kc kn q Ls (x :: y :: x :: st)) : Go l w Z EL own nm code ml ret R Q h mine kc kn pc Ls (x :: y :: st) := by
  subst hq
  exact go_pl (fun p e below m c T target hx hby hA kk => XT.dupX1 hA hx rfl (hb hby hd) rfl hc hc' kk) k
theorem go_istoreN {k : Fin 4} {x : Int32} {l' : Array Slot} (hd : decode code pc = .ok (.istore_n k, 1)) (hq : pc + 1 = q) (hl : storeLocals Ls k.val (.int x) = some l') (k : Go l w Z EL own nm code ml ret R Q h mine kc kn q l' st) : Go l w Z EL own nm code ml ret R Q h mine kc kn pc Ls (.int x :: st) := by
  subst hq
  exact go_pl (fun p e below m c T target hx hby hA kk => XS.istoreN hA hx rfl (hb hby hd) rfl hl kk) k
theorem go_istore {k : Nat} {x : Int32} {l' : Array Slot} (hd : decode code pc = .ok (.istore k, 2)) (hq : pc + 2 = q) (hl : storeLocals Ls k (.int x) = some l') (k : Go l w Z EL own nm code ml ret R Q h mine kc kn q l' st) : Go l w Z EL own nm code ml ret R Q h mine kc kn pc Ls (.int x :: st) := by
  subst hq
  exact go_pl (fun p e below m c T target hx hby hA kk => XS.istore hA hx rfl (hb hby hd) rfl hl kk) k
theorem go_astoreN {k : Fin 4} {x : Value} {l' : Array Slot} (hd : decode code pc = .ok (.astore_n k, 1)) (hq : pc + 1 = q) (hv : x.isRef = true) (hl : storeLocals Ls k.val x = some l') (k : Go l w Z EL own nm code ml ret R Q h mine kc kn q l' st) : Go l w Z EL own nm code ml ret R Q h mine kc kn pc Ls (x :: st) := by
  subst hq
  exact go_pl (fun p e below m c T target hx hby hA kk => XS.astoreN hA hx rfl (hb hby hd) rfl hv hl kk) k
theorem go_astore {k : Nat} {x : Value} {l' : Array Slot} (hd : decode code pc = .ok (.astore k, 2)) (hq : pc + 2 = q) (hv : x.isRef = true) (hl : storeLocals Ls k x = some l') (k : Go l w Z EL own nm code ml ret R Q h mine kc kn q l' st) : Go l w Z EL own nm code ml ret R Q h mine kc kn pc Ls (x :: st) := by
  subst hq
  exact go_pl (fun p e below m c T target hx hby hA kk => XS.astore hA hx rfl (hb hby hd) rfl hv hl kk) k
theorem go_iinc {k : Nat} {cst : Int} {x : Int32} {l' : Array Slot} (hd : decode code pc = .ok (.iinc k cst, 3)) (hq : pc + 3 = q) (hl : Ls[k]? = some (.val (.int x))) (hl' : storeLocals Ls k (.int (x + Int32.ofInt cst)) = some l') (k : Go l w Z EL own nm code ml ret R Q h mine kc kn q l' st) : Go l w Z EL own nm code ml ret R Q h mine kc kn pc Ls st := by
  subst hq
  exact go_pl (fun p e below m c T target hx hby hA kk => XS.iinc hA hx rfl (hb hby hd) hl hl' kk) k
theorem go_goto {o : Int} (hd : decode code pc = .ok (.goto o, 3)) (ho : 0 ≤ (pc : Int) + o) (hp : ((pc : Int) + o).toNat = q) (k : Go l w Z EL own nm code ml ret R Q h mine kc kn q Ls st) : Go l w Z EL own nm code ml ret R Q h mine kc kn pc Ls st :=
  go_pl (fun p e below m c T target hx hby hA kk => XS.goto hA hx rfl (pc0 := pc) (pc' := q) rfl (hb hby hd) ho hp kk) k
theorem go_if {o : Int} {q2 : Nat} {cd : ClassFile.Cond} {x : Int32} (hd : decode code pc = .ok (.ifCond cd o, 3)) (ho : 0 ≤ (pc : Int) + o) (hp : ((pc : Int) + o).toNat = q) (hq : pc + 3 = q2)  (k1 : ifCond.holds cd x = true → Go l w Z EL own nm code ml ret R Q h mine kc kn q Ls st) (k2 : ifCond.holds cd x = false → Go l w Z EL own nm code ml ret R Q h mine kc kn q2 Ls st) : Go l w Z EL own nm code ml ret R Q h mine kc kn pc Ls (.int x :: st) := by
  subst hq
  cases hc : ifCond.holds cd x
  · exact go_pl (fun p e below m c T target hx hby hA kk => XS.ifNo hA hx rfl (hb hby hd) rfl hc kk) (k2 hc)
  · exact go_pl (fun p e below m c T target hx hby hA kk => XS.ifYes hA hx rfl (pc0 := pc) (pc' := q) rfl (hb hby hd) rfl hc ho hp kk) (k1 hc)
theorem go_icmp {o : Int} {q2 : Nat} {cd : ClassFile.Cond} {x y : Int32} (hd : decode code pc = .ok (.if_icmp cd o, 3)) (ho : 0 ≤ (pc : Int) + o) (hp : ((pc : Int) + o).toNat = q) (hq : pc + 3 = q2)  (k1 : if_icmp.holds cd x y = true → Go l w Z EL own nm code ml ret R Q h mine kc kn q Ls st) (k2 : if_icmp.holds cd x y = false → Go l w Z EL own nm code ml ret R Q h mine kc kn q2 Ls st) : Go l w Z EL own nm code ml ret R Q h mine kc kn pc Ls (.int y :: .int x :: st) := by
  subst hq
  cases hc : if_icmp.holds cd x y
  · exact go_pl (fun p e below m c T target hx hby hA kk => XS.icmpNo hA hx rfl (hb hby hd) rfl hc kk) (k2 hc)
  · exact go_pl (fun p e below m c T target hx hby hA kk => XS.icmpYes hA hx rfl (pc0 := pc) (pc' := q) rfl (hb hby hd) rfl hc ho hp kk) (k1 hc)
theorem go_acmp {o : Int} {q2 : Nat} {cd : ClassFile.ACond} {x y : Value} (hd : decode code pc = .ok (.if_acmp cd o, 3)) (ho : 0 ≤ (pc : Int) + o) (hp : ((pc : Int) + o).toNat = q) (hq : pc + 3 = q2) (hx1 : x.isRef = true) (hy1 : y.isRef = true) (k1 : XT.acmp cd x y = true → Go l w Z EL own nm code ml ret R Q h mine kc kn q Ls st) (k2 : XT.acmp cd x y = false → Go l w Z EL own nm code ml ret R Q h mine kc kn q2 Ls st) : Go l w Z EL own nm code ml ret R Q h mine kc kn pc Ls (y :: x :: st) := by
  subst hq
  cases hc : XT.acmp cd x y
  · exact go_pl (fun p e below m c T target hx hby hA kk => XT.acmpNo hA hx rfl (hb hby hd) rfl hx1 hy1 hc kk) (k2 hc)
  · exact go_pl (fun p e below m c T target hx hby hA kk => XT.acmpYes hA hx rfl (pc0 := pc) (pc' := q) rfl (hb hby hd) rfl hx1 hy1 hc ho hp kk) (k1 hc)
theorem go_ifnullY {o : Int} (hd : decode code pc = .ok (.ifnull o, 3)) (ho : 0 ≤ (pc : Int) + o) (hp : ((pc : Int) + o).toNat = q) (k : Go l w Z EL own nm code ml ret R Q h mine kc kn q Ls st) : Go l w Z EL own nm code ml ret R Q h mine kc kn pc Ls (.null :: st) :=
  go_pl (fun p e below m c T target hx hby hA kk => XS.ifnullYes hA hx rfl (pc0 := pc) (pc' := q) rfl (hb hby hd) rfl ho hp kk) k
theorem go_ifnullN {o : Int} {b : Addr} (hd : decode code pc = .ok (.ifnull o, 3)) (hq : pc + 3 = q) (k : Go l w Z EL own nm code ml ret R Q h mine kc kn q Ls st) : Go l w Z EL own nm code ml ret R Q h mine kc kn pc Ls (.ref b :: st) := by
  subst hq
  exact go_pl (fun p e below m c T target hx hby hA kk => XS.ifnullNo hA hx rfl (hb hby hd) rfl kk) k
theorem go_ifnonnullY {o : Int} {b : Addr} (hd : decode code pc = .ok (.ifnonnull o, 3)) (ho : 0 ≤ (pc : Int) + o) (hp : ((pc : Int) + o).toNat = q) (k : Go l w Z EL own nm code ml ret R Q h mine kc kn q Ls st) : Go l w Z EL own nm code ml ret R Q h mine kc kn pc Ls (.ref b :: st) :=
  go_pl (fun p e below m c T target hx hby hA kk => XT.ifnonnullYes hA hx rfl (pc0 := pc) (pc' := q) rfl (hb hby hd) rfl ho hp kk) k
theorem go_ifnonnullN {o : Int} (hd : decode code pc = .ok (.ifnonnull o, 3)) (hq : pc + 3 = q) (k : Go l w Z EL own nm code ml ret R Q h mine kc kn q Ls st) : Go l w Z EL own nm code ml ret R Q h mine kc kn pc Ls (.null :: st) := by
  subst hq
  exact go_pl (fun p e below m c T target hx hby hA kk => XT.ifnonnullNo hA hx rfl (hb hby hd) rfl kk) k
theorem go_old (k : Ext Z.heap h → Go l w Z EL own nm code ml ret R Q h mine kc kn pc Ls st) : Go l w Z EL own nm code ml ret R Q h mine kc kn pc Ls st := by
  intro p e s m args below meth c T hC hc
  obtain ⟨vm0, k0, locs, X, eT, hS, hk, hZ, hown, hR, N, E0, hM, hw⟩ := id hc
  exact k E0 p e s m args below meth c T hC hc
theorem go_mine (k : (∀ x ∈ mine, Z.heap.size ≤ x ∧ x < h.size) → Go l w Z EL own nm code ml ret R Q h mine kc kn pc Ls st) : Go l w Z EL own nm code ml ret R Q h mine kc kn pc Ls st := by
  intro p e s m args below meth c T hC hc
  obtain ⟨vm0, k0, locs, X, eT, hS, hk, hZ, hown, hR, N, E0, hM, hw⟩ := id hc
  exact k (fun x hx => ⟨(hM x hx).1, (hM x hx).2.1⟩) p e s m args below meth c T hC hc
theorem go_drop {mine2 : List Addr} (q : ∀ x ∈ mine2, x ∈ mine) (k : Go l w Z EL own nm code ml ret R Q h mine2 kc kn pc Ls st) : Go l w Z EL own nm code ml ret R Q h mine kc kn pc Ls st := by
  intro p e s m args below meth c T hC ⟨vm0, k0, locs, X, eT, hS, hk, hZ, hown, hR, N, E0, hM, hw⟩
  exact k p e s m args below meth c T hC ⟨vm0, k0, locs, X, eT, hS, hk, hZ, hown, hR, N, E0, hM.sub q, hw⟩
theorem go_more {kc2 kn2 : Nat} (h1 : kc ≤ kc2) (h2 : kn ≤ kn2) (k : Go l w Z EL own nm code ml ret R Q h mine kc2 kn2 pc Ls st) : Go l w Z EL own nm code ml ret R Q h mine kc kn pc Ls st := by
  intro p e s m args below meth c T hC ⟨vm0, k0, locs, X, eT, hS, hk, hZ, hown, hR, N, E0, hM, hw⟩
  exact k p e s m args below meth c T hC ⟨vm0, k0, locs, X.more h1 h2, eT, hS, hk, hZ, hown, hR, N, E0, hM, hw⟩
theorem go_ldcI {index : Nat} {v : Int32} (hd : decode code pc = .ok (.ldc index, 2)) (hq : pc + 2 = q) (w1 : (Cond.constant own index v).before a0 Z = true) (k : Go l w Z EL own nm code ml ret R Q h mine kc kn q Ls (.int v :: st)) : Go l w Z EL own nm code ml ret R Q h mine kc kn pc Ls st := by
  subst hq
  intro p e s m args below meth c T hC ⟨vm0, k0, locs, X, eT, hS, hk, hZ, hown, hR, N, E0, hM, hw⟩
  obtain ⟨t, o, r1, r2⟩ := k p e s m args below meth c T hC ⟨vm0, k0, locs, X, eT, hS, hk, hZ, hown, hR, N, E0, hM, hw⟩
  exact ⟨t, o, X.ldcInt hC.1 hown (mvT hZ w1) (g := mkF m pc Ls st) rfl (hb hC.2.1 hd) _ r1, r2⟩
theorem go_getstatic {index : Nat} {R0 O n d : String} {v : Value} (hd : decode code pc = .ok (.getstatic index, 3)) (hq : pc + 3 = q) (w1 : (Cond.fieldLink own index R0 n d).before a0 Z = true) (via : Via Z R0 O n d) (F : Sta Z Z.heap O n d v) (k : Go l w Z EL own nm code ml ret R Q h mine kc kn q Ls (v :: st)) : Go l w Z EL own nm code ml ret R Q h mine kc kn pc Ls st := by
  subst hq
  intro p e s m args below meth c T hC ⟨vm0, k0, locs, X, eT, hS, hk, hZ, hown, hR, N, E0, hM, hw⟩
  obtain ⟨T', X', e', stp⟩ := getS (host := "") X hC.1 hZ hown w1 via eT (F.ext E0) (g := mkF m pc Ls st) rfl (hb hC.2.1 hd)
  obtain ⟨t, o, r1, r2⟩ := k p e s m args below meth c T' hC ⟨vm0, k0, locs, X', e', hS, hk, hZ, hown, hR, N, E0, hM, hw⟩
  exact ⟨t, o, stp _ r1, r2⟩
theorem go_getfield {index : Nat} {R0 O n d : String} {v : Value} {a : Addr} (hd : decode code pc = .ok (.getfield index, 3)) (hq : pc + 3 = q) (w1 : (Cond.fieldLink own index R0 n d).before a0 Z = true) (via : Via Z R0 O n d) (F : Fld Z h a O n d v) (k : Go l w Z EL own nm code ml ret R Q h mine kc kn q Ls (v :: st)) : Go l w Z EL own nm code ml ret R Q h mine kc kn pc Ls (.ref a :: st) := by
  subst hq
  intro p e s m args below meth c T hC ⟨vm0, k0, locs, X, eT, hS, hk, hZ, hown, hR, N, E0, hM, hw⟩
  obtain ⟨T', X', e', stp⟩ := getF X hC.1 hZ hown (host := "") (Or.inl w1) via eT F (g := mkF m pc Ls (.ref a :: st)) rfl rfl (hb hC.2.1 hd)
  obtain ⟨t, o, r1, r2⟩ := k p e s m args below meth c T' hC ⟨vm0, k0, locs, X', e', hS, hk, hZ, hown, hR, N, E0, hM, hw⟩
  exact ⟨t, o, stp _ r1, r2⟩
theorem go_getfieldNest {index : Nat} {R0 O n d host : String} {v : Value} {a : Addr} (hd : decode code pc = .ok (.getfield index, 3)) (hq : pc + 3 = q) (w1 : (Cond.fieldLinkNest own index R0 n d host).before a0 Z = true) (via : Via Z R0 O n d) (F : Fld Z h a O n d v) (k : Go l w Z EL own nm code ml ret R Q h mine kc kn q Ls (v :: st)) : Go l w Z EL own nm code ml ret R Q h mine kc kn pc Ls (.ref a :: st) := by
  subst hq
  intro p e s m args below meth c T hC ⟨vm0, k0, locs, X, eT, hS, hk, hZ, hown, hR, N, E0, hM, hw⟩
  obtain ⟨T', X', e', stp⟩ := getF X hC.1 hZ hown (host := host) (Or.inr w1) via eT F (g := mkF m pc Ls (.ref a :: st)) rfl rfl (hb hC.2.1 hd)
  obtain ⟨t, o, r1, r2⟩ := k p e s m args below meth c T' hC ⟨vm0, k0, locs, X', e', hS, hk, hZ, hown, hR, N, E0, hM, hw⟩
  exact ⟨t, o, stp _ r1, r2⟩
theorem go_checkcast {index : Nat} {K : String} {a : Addr} (hd : decode code pc = .ok (.checkcast index, 3)) (hq : pc + 3 = q) (w1 : (Cond.classLink own index K).before a0 Z = true) (F : Ins Z h a K true) (k : Go l w Z EL own nm code ml ret R Q h mine kc kn q Ls (.ref a :: st)) : Go l w Z EL own nm code ml ret R Q h mine kc kn pc Ls (.ref a :: st) := by
  subst hq
  intro p e s m args below meth c T hC ⟨vm0, k0, locs, X, eT, hS, hk, hZ, hown, hR, N, E0, hM, hw⟩
  obtain ⟨T', X', e', stp⟩ := castY X hC.1 hZ hown w1 eT F (g := mkF m pc Ls (.ref a :: st)) rfl rfl (hb hC.2.1 hd)
  obtain ⟨t, o, r1, r2⟩ := k p e s m args below meth c T' hC ⟨vm0, k0, locs, X', e', hS, hk, hZ, hown, hR, N, E0, hM, hw⟩
  exact ⟨t, o, stp _ r1, r2⟩
theorem go_instNull {index : Nat} (hd : decode code pc = .ok (.instanceof index, 3)) (hq : pc + 3 = q) (k : Go l w Z EL own nm code ml ret R Q h mine kc kn q Ls (.int 0 :: st)) : Go l w Z EL own nm code ml ret R Q h mine kc kn pc Ls (.null :: st) := by
  subst hq
  intro p e s m args below meth c T hC ⟨vm0, k0, locs, X, eT, hS, hk, hZ, hown, hR, N, E0, hM, hw⟩
  obtain ⟨t, o, r1, r2⟩ := k p e s m args below meth c T hC ⟨vm0, k0, locs, X, eT, hS, hk, hZ, hown, hR, N, E0, hM, hw⟩
  exact ⟨t, o, Jvm.Stand.instanceofNull X hC.1 (g := mkF m pc Ls (.null :: st)) rfl (rest := st) rfl (hb hC.2.1 hd) _ r1, r2⟩
theorem go_castNull {index : Nat} (hd : decode code pc = .ok (.checkcast index, 3)) (hq : pc + 3 = q) (k : Go l w Z EL own nm code ml ret R Q h mine kc kn q Ls (.null :: st)) : Go l w Z EL own nm code ml ret R Q h mine kc kn pc Ls (.null :: st) := by
  subst hq
  intro p e s m args below meth c T hC ⟨vm0, k0, locs, X, eT, hS, hk, hZ, hown, hR, N, E0, hM, hw⟩
  obtain ⟨t, o, r1, r2⟩ := k p e s m args below meth c T hC ⟨vm0, k0, locs, X, eT, hS, hk, hZ, hown, hR, N, E0, hM, hw⟩
  exact ⟨t, o, Jvm.Stand.checkcastNull X hC.1 (g := mkF m pc Ls (.null :: st)) rfl (rest := st) rfl (hb hC.2.1 hd) _ r1, r2⟩
theorem go_instY {index : Nat} {K : String} {a : Addr} (hd : decode code pc = .ok (.instanceof index, 3)) (hq : pc + 3 = q) (w1 : (Cond.classLink own index K).before a0 Z = true) (F : Ins Z h a K true) (k : Go l w Z EL own nm code ml ret R Q h mine kc kn q Ls (.int 1 :: st)) : Go l w Z EL own nm code ml ret R Q h mine kc kn pc Ls (.ref a :: st) := by
  subst hq
  intro p e s m args below meth c T hC ⟨vm0, k0, locs, X, eT, hS, hk, hZ, hown, hR, N, E0, hM, hw⟩
  obtain ⟨T', X', e', stp⟩ := instY X hC.1 hZ hown w1 eT F (g := mkF m pc Ls (.ref a :: st)) rfl rfl (hb hC.2.1 hd)
  obtain ⟨t, o, r1, r2⟩ := k p e s m args below meth c T' hC ⟨vm0, k0, locs, X', e', hS, hk, hZ, hown, hR, N, E0, hM, hw⟩
  exact ⟨t, o, stp _ r1, r2⟩
theorem go_putfield {index kk : Nat} {R0 O n d C : String} {v old : Value} {a : Addr} {ty : FieldType} (hd : decode code pc = .ok (.putfield index, 3)) (hq : pc + 3 = q) (w1 : (Cond.fieldLink own index R0 n d).before a0 Z = true) (via : Via Z R0 O n d) (F : Fld Z h a O n d old) (A : Exa Z h a C) (L : (Cond.lays C O n d).before a0 Z = true ∨ ((Cond.laysFinal C O n d).before a0 Z = true ∧ own = O ∧ nm = "<init>")) (wi : (Cond.instantiable C kk).before a0 Z = true)
    (hty : parseFieldDescriptor d = some ty) (hn : narrow ty v = v) (hf : fits ty v = true) (hmem : a ∈ mine) (k : ∀ h', Wr h h' a (RoadKit.slotOf Z O n d) v → Go l w Z EL own nm code ml ret R Q h' mine kc kn q Ls st) : Go l w Z EL own nm code ml ret R Q h mine kc kn pc Ls (v :: .ref a :: st) := by
  subst hq
  intro p e s m args below meth c T hC ⟨vm0, k0, locs, X, eT, hS, hk, hZ, hown, hR, N, E0, hM, hw⟩
  obtain ⟨T', h', X', e', W, stp⟩ := putF X hC.1 hZ hown (host := "") (Or.inl w1) via eT F A (L.imp id fun z => ⟨z.1, z.2.1, hC.2.2.2.2.2.1.trans z.2.2⟩) wi hty hn hf (g := mkF m pc Ls (v :: .ref a :: st)) rfl rfl (hb hC.2.1 hd)
  have K := Keep.of_wr W
  have hs : ∀ x ∈ [a], x ∈ mine := allS hmem all0
  obtain ⟨t, o, r1, r2⟩ := k h' W p e s m args below meth c T' hC ⟨vm0, k0, _, X', e', hS, Nat.le_trans hk K.1, hZ, hown, hR.trans (CHr.keep K (fun x hx => (hM x (hs x hx)).2.2) hR.1), Fr.snoc X' N (hM a hmem).1, ext_keep E0 K (fun x hx => (hM x (hs x hx)).1), hM.keep K hs hR.1, hw⟩
  exact ⟨t, o, stp _ r1, r2⟩
theorem go_new {index kk : Nat} {C : String} (hd : decode code pc = .ok (.new index, 3)) (hq : pc + 3 = q) (w1 : (Cond.classLink own index C).before a0 Z = true) (w2 : (Cond.instantiable C kk).before a0 Z = true) (w3 : (Cond.initialized C).before a0 Z = true) (hc : kc + 1 ≤ R.cells) (hl : kn + kk ≤ R.slots)
    (k : ∀ (h' : Heap) (a : Addr), a = h.size → Ext h h' → Exa Z h' a C → (∀ {O nm d : String} {ty : FieldType}, Laid Z a0 C O nm d → parseFieldDescriptor d = some ty → Fld Z h' a O nm d (defaultValue ty)) → Go l w Z EL own nm code ml ret R Q h' (a :: mine) (kc + 1) (kn + kk) q Ls (.ref a :: st)) : Go l w Z EL own nm code ml ret R Q h mine kc kn pc Ls st := by
  subst hq
  intro p e s m args below meth c T hC ⟨vm0, k0, locs, X, eT, hS, hk, hZ, hown, hR, N, E0, hM, hw⟩
  obtain ⟨T', h', X', e', E, A, D, -, stp⟩ := newO X hC.1 hZ hown w1 w2 w3 eT (g := mkF m pc Ls st) rfl (hb hC.2.1 hd) hc hl
  obtain ⟨t, o, r1, r2⟩ := k h' _ rfl E A D p e s m args below meth c T' hC ⟨vm0, k0, locs, X', e', hS, Nat.le_trans hk E.1, hZ, hown, hR.trans (CHr.ext E hR.1), N, ext_tr E0 E, Mine.new (out := [h.size]) (keep_ext E []) all0 hR.1 hM E0 (allS ⟨Nat.le_refl _, A.lt⟩ all0), hw⟩
  exact ⟨t, o, stp _ r1, r2⟩
theorem go_newarray {aty : ArrayType} {n : Int32} {cap : Nat} {ad : String} (hd : decode code pc = .ok (.newarray aty, 2)) (hq : pc + 2 = q) (w1 : (Cond.arrayClass (newarray.typeOf aty)).before a0 Z = true) (hn : ¬ n < 0) (hcap : n.toNatClampNeg ≤ cap) (hb8 : cap * 8 ≤ 536870912) (hc : kc + 1 ≤ R.cells) (hl : kn + cap ≤ R.slots) (had : "[" ++ (newarray.typeOf aty).toString = ad)
    (k : ∀ (h' : Heap) (a : Addr) (cA : ClassId), a = h.size → Ext h h' → Arv Z h' a cA (newarray.typeOf aty) n [] (defaultValue (newarray.typeOf aty)) → Exa Z h' a ad → Go l w Z EL own nm code ml ret R Q h' (a :: mine) (kc + 1) (kn + cap) q Ls (.ref a :: st)) : Go l w Z EL own nm code ml ret R Q h mine kc kn pc Ls (.int n :: st) := by
  subst hq
  intro p e s m args below meth c T hC ⟨vm0, k0, locs, X, eT, hS, hk, hZ, hown, hR, N, E0, hM, hw⟩
  obtain ⟨T', h', cA, X', e', E, A, A2, stp⟩ := newPE X hC.1 hZ w1 eT (g := mkF m pc Ls (.int n :: st)) rfl (hb hC.2.1 hd) rfl hn hcap hb8 hc hl had
  obtain ⟨t, o, r1, r2⟩ := k h' _ cA rfl E (Arv.new A hn) A2 p e s m args below meth c T' hC ⟨vm0, k0, locs, X', e', hS, Nat.le_trans hk E.1, hZ, hown, hR.trans (CHr.ext E hR.1), N, ext_tr E0 E, Mine.new (out := [h.size]) (keep_ext E []) all0 hR.1 hM E0 (allS ⟨Nat.le_refl _, A.lt⟩ all0), hw⟩
  exact ⟨t, o, stp _ r1, r2⟩
theorem go_arraylength {a : Addr} {kA : ClassId} {ty : FieldType} {z : Int32} {vs : List Value} {dv : Value} (hd : decode code pc = .ok (.arraylength, 1)) (hq : pc + 1 = q) (F : Arv Z h a kA ty z vs dv) (k : Go l w Z EL own nm code ml ret R Q h mine kc kn q Ls (.int z :: st)) : Go l w Z EL own nm code ml ret R Q h mine kc kn pc Ls (.ref a :: st) := by
  subst hq
  intro p e s m args below meth c T hC ⟨vm0, k0, locs, X, eT, hS, hk, hZ, hown, hR, N, E0, hM, hw⟩
  obtain ⟨cl, A, q1, S, q3, H, Gf⟩ := F
  obtain ⟨t, o, r1, r2⟩ := k p e s m args below meth c T hC ⟨vm0, k0, locs, X, eT, hS, hk, hZ, hown, hR, N, E0, hM, hw⟩
  have el : cl.slots.size.toInt32 = z := len_of S q3
  exact ⟨t, o, X.arraylength hC.1 (by rw [eT]; exact A.1) (State.isArrayOf_alike (T := s.setVm vm0) hZ.alike A.2.1) (g := mkF m pc Ls (.ref a :: st)) rfl rfl (hb hC.2.1 hd) _ (by rw [el]; exact r1), r2⟩
theorem go_caload {a : Addr} {kA : ClassId} {z j : Int32} {vs : List Value} {dv v : Value} (hd : decode code pc = .ok (.caload, 1)) (hq : pc + 1 = q) (F : Arv Z h a kA .char z vs dv) (hj : ¬ j < 0 ∧ j < z) (hv : vs.getD j.toNatClampNeg dv = v) (k : Go l w Z EL own nm code ml ret R Q h mine kc kn q Ls (v :: st)) : Go l w Z EL own nm code ml ret R Q h mine kc kn pc Ls (.int j :: .ref a :: st) := by
  subst hq
  intro p e s m args below meth c T hC ⟨vm0, k0, locs, X, eT, hS, hk, hZ, hown, hR, N, E0, hM, hw⟩
  obtain ⟨cl, A, q1, S, q3, H, Gf⟩ := F
  obtain ⟨t, o, r1, r2⟩ := k p e s m args below meth c T hC ⟨vm0, k0, locs, X, eT, hS, hk, hZ, hown, hR, N, E0, hM, hw⟩
  have hin := inb_of S hj
  exact ⟨t, o, X.caload hC.1 (by rw [eT]; exact A.1) (State.isArrayOf_alike (T := s.setVm vm0) hZ.alike A.2.1) A.2.2 hin (H.at hin hv) (g := mkF m pc Ls (.int j :: .ref a :: st)) rfl rfl (hb hC.2.1 hd) _ r1, r2⟩
theorem go_baload {a : Addr} {kA : ClassId} {z j : Int32} {vs : List Value} {dv v : Value} (hd : decode code pc = .ok (.baload, 1)) (hq : pc + 1 = q) (F : Arv Z h a kA .byte z vs dv) (hj : ¬ j < 0 ∧ j < z) (hv : vs.getD j.toNatClampNeg dv = v) (k : Go l w Z EL own nm code ml ret R Q h mine kc kn q Ls (v :: st)) : Go l w Z EL own nm code ml ret R Q h mine kc kn pc Ls (.int j :: .ref a :: st) := by
  subst hq
  intro p e s m args below meth c T hC ⟨vm0, k0, locs, X, eT, hS, hk, hZ, hown, hR, N, E0, hM, hw⟩
  obtain ⟨cl, A, q1, S, q3, H, Gf⟩ := F
  obtain ⟨t, o, r1, r2⟩ := k p e s m args below meth c T hC ⟨vm0, k0, locs, X, eT, hS, hk, hZ, hown, hR, N, E0, hM, hw⟩
  have hin := inb_of S hj
  exact ⟨t, o, X.baloadBytes hC.1 (by rw [eT]; exact A.1) (State.isArrayOf_alike (T := s.setVm vm0) hZ.alike A.2.1) A.2.2 hin (H.at hin hv) (g := mkF m pc Ls (.int j :: .ref a :: st)) rfl rfl (hb hC.2.1 hd) _ r1, r2⟩
theorem go_iaload {a : Addr} {kA : ClassId} {z j : Int32} {vs : List Value} {dv v : Value} (hd : decode code pc = .ok (.iaload, 1)) (hq : pc + 1 = q) (F : Arv Z h a kA .int z vs dv) (hj : ¬ j < 0 ∧ j < z) (hv : vs.getD j.toNatClampNeg dv = v) (k : Go l w Z EL own nm code ml ret R Q h mine kc kn q Ls (v :: st)) : Go l w Z EL own nm code ml ret R Q h mine kc kn pc Ls (.int j :: .ref a :: st) := by
  subst hq
  intro p e s m args below meth c T hC ⟨vm0, k0, locs, X, eT, hS, hk, hZ, hown, hR, N, E0, hM, hw⟩
  obtain ⟨cl, A, q1, S, q3, H, Gf⟩ := F
  obtain ⟨t, o, r1, r2⟩ := k p e s m args below meth c T hC ⟨vm0, k0, locs, X, eT, hS, hk, hZ, hown, hR, N, E0, hM, hw⟩
  have hin := inb_of S hj
  exact ⟨t, o, X.iaload hC.1 (by rw [eT]; exact A.1) (State.isArrayOf_alike (T := s.setVm vm0) hZ.alike A.2.1) A.2.2 hin (H.at hin hv) (g := mkF m pc Ls (.int j :: .ref a :: st)) rfl rfl (hb hC.2.1 hd) _ r1, r2⟩
theorem go_aaload {a : Addr} {kA : ClassId} {ty : FieldType} {z j : Int32} {vs : List Value} {dv v : Value} (hd : decode code pc = .ok (.aaload, 1)) (hq : pc + 1 = q) (F : Arv Z h a kA ty z vs dv) (ht : ty.isReference = true) (hj : ¬ j < 0 ∧ j < z) (hv : vs.getD j.toNatClampNeg dv = v) (k : Go l w Z EL own nm code ml ret R Q h mine kc kn q Ls (v :: st)) : Go l w Z EL own nm code ml ret R Q h mine kc kn pc Ls (.int j :: .ref a :: st) := by
  subst hq
  intro p e s m args below meth c T hC ⟨vm0, k0, locs, X, eT, hS, hk, hZ, hown, hR, N, E0, hM, hw⟩
  obtain ⟨cl, A, q1, S, q3, H, Gf⟩ := F
  obtain ⟨t, o, r1, r2⟩ := k p e s m args below meth c T hC ⟨vm0, k0, locs, X, eT, hS, hk, hZ, hown, hR, N, E0, hM, hw⟩
  have hin := inb_of S hj
  exact ⟨t, o, X.aaload hC.1 (by rw [eT]; exact A.1) (State.isArrayOf_alike (T := s.setVm vm0) hZ.alike A.2.1) ht A.2.2 hin (H.at hin hv) (g := mkF m pc Ls (.int j :: .ref a :: st)) rfl rfl (hb hC.2.1 hd) _ r1, r2⟩
/-- castore: the place i of the known components -/
theorem go_castore {a : Addr} {kA : ClassId} {z j x : Int32} {vs : List Value} {dv : Value} {i : Nat} (hd : decode code pc = .ok (.castore, 1)) (hq : pc + 1 = q) (F : Arv Z h a kA .char z vs dv) (hj : ¬ j < 0 ∧ j < z) (hi : j.toNatClampNeg = i) (hvs : i < vs.length) (hmem : a ∈ mine)
    (k : ∀ h', Keep h h' [a] → Arv Z h' a kA .char z (vs.set i (.int (nar .char x))) dv → Go l w Z EL own nm code ml ret R Q h' mine kc kn q Ls st) : Go l w Z EL own nm code ml ret R Q h mine kc kn pc Ls (.int x :: .int j :: .ref a :: st) := by
  subst hq
  intro p e s m args below meth c T hC ⟨vm0, k0, locs, X, eT, hS, hk, hZ, hown, hR, N, E0, hM, hw⟩
  obtain ⟨cl, A, q1, S, q3, H, Gf⟩ := F
  have hin := inb_of S hj
  obtain ⟨T', h', X', e', W, stp⟩ := stC X hC.1 hZ eT A hin (g := mkF m pc Ls (.int x :: .int j :: .ref a :: st)) rfl rfl (hb hC.2.1 hd)
  have K := Keep.of_wr W
  have hs : ∀ x ∈ [a], x ∈ mine := allS hmem all0
  obtain ⟨t, o, r1, r2⟩ := k h' K (Arv.set A q1 S q3 H Gf (fits_nar_char x) W i hi hvs) p e s m args below meth c T' hC ⟨vm0, k0, _, X', e', hS, Nat.le_trans hk K.1, hZ, hown, hR.trans (CHr.keep K (fun x hx => (hM x (hs x hx)).2.2) hR.1), Fr.snoc X' N (hM a hmem).1, ext_keep E0 K (fun x hx => (hM x (hs x hx)).1), hM.keep K hs hR.1, hw⟩
  exact ⟨t, o, stp _ r1, r2⟩
theorem go_clone {index cap W : Nat} {ad : String} {a : Addr} {kA : ClassId} {ty : FieldType} {z : Int32} {vs : List Value} {dv : Value} (hd : decode code pc = .ok (.invokevirtual index, 3)) (hq : pc + 3 = q)
    (w1 : (Cond.methodLink own index ⟨ad, "clone", "()Ljava/lang/Object;"⟩).before a0 Z = true) (w2 : (Cond.sameMethod ad "java/lang/Object" "clone" "()Ljava/lang/Object;").before a0 Z = true) (w3 : (Cond.native ⟨"java/lang/Object", "clone", "()Ljava/lang/Object;"⟩).before a0 Z = true)
    (w4 : (Cond.instanceMethod ⟨"java/lang/Object", "clone", "()Ljava/lang/Object;"⟩).before a0 Z = true) (w5 : (Cond.selects ad ⟨ad, "clone", "()Ljava/lang/Object;"⟩ ⟨"java/lang/Object", "clone", "()Ljava/lang/Object;"⟩).before a0 Z = true) (w6 : (Cond.castable ad "java/lang/Cloneable").before a0 Z = true)
    (F : Arv Z h a kA ty z vs dv) (E1 : Exa Z h a ad) (hml : Ls.size = ml) (hf : 1 ≤ R.frames) (hW : (st.map fun v => v.category).sum ≤ W) (hl : W + 14 ≤ R.locals) (hcap : z.toNatClampNeg ≤ cap) (hc : kc + 1 ≤ R.cells) (hsl : kn + cap ≤ R.slots)
    (k : ∀ (h' : Heap) (b : Addr), b = h.size → Ext h h' → Arv Z h' b kA ty z vs dv → Exa Z h' b ad → Go l w Z EL own nm code ml ret R Q h' (b :: mine) (kc + 1) (kn + cap) q Ls (.ref b :: st)) : Go l w Z EL own nm code ml ret R Q h mine kc kn pc Ls (.ref a :: st) := by
  subst hq
  intro p e s m args below meth c T hC ⟨vm0, k0, locs, X, eT, hS, hk, hZ, hown, hR, N, E0, hM, hw⟩
  obtain ⟨T', h', X', e', E, A, A2, stp⟩ := cloneH X hC.1 hZ hown w1 w2 w3 w4 w5 w6 eT F.arh E1 (g := mkF m pc Ls (.ref a :: st)) rfl (by rw [hC.2.2.1]; exact hml) (rest := st) rfl (hb hC.2.1 hd) hf (W := W) (by show 2 * 0 + _ ≤ _; omega) hl hcap hc hsl
  obtain ⟨t, o, r1, r2⟩ := k h' _ rfl E A A2 p e s m args below meth c T' hC ⟨vm0, k0, locs, X', e', hS, Nat.le_trans hk E.1, hZ, hown, hR.trans (CHr.ext E hR.1), N, ext_tr E0 E, Mine.new (out := [h.size]) (keep_ext E []) all0 hR.1 hM E0 (allS ⟨Nat.le_refl _, A2.lt⟩ all0), hw⟩
  exact ⟨t, o, stp _ r1, r2⟩
theorem go_initObj {idx W : Nat} {a : Addr} (hd : decode code pc = .ok (.invokespecial idx, 3)) (hq : pc + 3 = q) (w1 : (Cond.methodLink own idx Lib.objectInit).before a0 Z = true) (w2 : (Cond.instanceMethod Lib.objectInit).before a0 Z = true) (w3 : (Cond.code Lib.objectInit ⟨#[0xb1]⟩ 1 none).before a0 Z = true) (hml : Ls.size = ml) (hf : 1 ≤ R.frames) (hW : (st.map fun v => v.category).sum ≤ W) (hl : W + 12 ≤ R.locals)
    (k : Go l w Z EL own nm code ml ret R Q h mine kc kn q Ls st) : Go l w Z EL own nm code ml ret R Q h mine kc kn pc Ls (.ref a :: st) := by
  subst hq
  intro p e s m args below meth c T hC ⟨vm0, k0, locs, X, eT, hS, hk, hZ, hown, hR, N, E0, hM, hw⟩
  obtain ⟨T', X', e', stp⟩ := initO X hC.1 hZ hown w1 w2 w3 eT (g := mkF m pc Ls (.ref a :: st)) rfl (by rw [hC.2.2.1]; exact hml) (rest := st) rfl (hb hC.2.1 hd) hf (W := W) (by show 2 * 0 + _ ≤ _; omega) hl
  obtain ⟨t, o, r1, r2⟩ := k p e s m args below meth c T' hC ⟨vm0, k0, locs, X', e', hS, hk, hZ, hown, hR, N, E0, hM, hw⟩
  exact ⟨t, o, stp _ r1, r2⟩
theorem go_ldcS {index n : Nat} {text : String} {vs : List Value} {z : Int32} (hd : decode code pc = .ok (.ldc index, 2)) (hq : pc + 2 = q) (hw1 : w = true) (w1 : (Cond.stringLink own index text).before a0 Z = true) (wS : ∀ a ∈ Bundle.stringAtoms, a.before a0 Z = true) (hEL : EW Z a0 EL) (hmem : (own, index) ∈ EL)
    (ht : (∀ c ∈ text.toList, c.toNat < 256) ∧ text.toList.map (fun c => Value.int (Jvm.Lit.byteI c.toNat.toUInt16)) = vs) (hz : ¬ z < 0) (hl : z.toNatClampNeg = vs.length) (hn : 4 * text.toList.length ≤ n) (hbig : n ≤ 536870912) (hc : kc + 2 ≤ R.cells) (hl' : kn + (n + 4) ≤ R.slots)
    (k : ∀ (h' : Heap) (a b : Addr) (kb : ClassId), Ext h h' → Exa Z h' a "java/lang/String" → Fld Z h' a "java/lang/String" "coder" "B" (.int 0) → Fld Z h' a "java/lang/String" "value" "[B" (.ref b) → Arv Z h' b kb .byte z vs (.int 0) → (∀ x ∈ mine, x ≠ a ∧ x ≠ b) → Go l w Z EL own nm code ml ret R Q h' mine (kc + 2) (kn + (n + 4)) q Ls (.ref a :: st)) : Go l w Z EL own nm code ml ret R Q h mine kc kn pc Ls st := by
  subst hq hw1
  intro p e s m args below meth c T hC ⟨vm0, k0, locs, X, eT, hS, hk, hZ, hown, hR, N, E0, hM, hw⟩
  obtain ⟨a, T', h', k1, b, kb, X', e', E, hS', hk', hZ', hown', f1, f2, f3, f4, f5, f6, hC', hL, hne, stp⟩ := ldcCH X hC.1 hZ hown w1 wS eT hS hk hEL hmem hR.1 ht hz hl (g := mkF m pc Ls st) rfl (hb hC.2.1 hd) hn hbig hc hl'
  have hM' : Mine Z EL T'.vm h' mine := hM.later hC'
  obtain ⟨t, o, r1, r2⟩ := k h' a b kb E f1 f2 f3 f4 (fun x hx => hne x (hM' x hx).2.2) p e s m args below meth c T' hC ⟨T'.vm, k1, locs, X', e', hS', hk', hZ', hown', hR.trans hC', N, ext_tr E0 E, hM', fun q => nomatch q⟩
  exact ⟨t, o, stp _ r1, r2⟩
end Plain
section Leave
variable {l : Launch} {w : Bool} {Z : State} {EL : List (String × Nat)} {own nm : String} {code : ByteArray} {ml : Nat} {ret : Option FieldType} {R : Room} {Q : Option Value → Heap → List Addr → Prop} {h : Heap} {mine : List Addr} {kc kn pc q : Nat} {Ls : Array Slot} {st : List Value} {a0 : Array Value}
theorem go_leave {v : Option Value} {out : List Addr} (hv : ret = none → v = none)
    (hstep : ∀ (p : Program) (e : Env) (s : State) (m : MethodId) (args : Array Value) (below : List Frame) (meth : Method) (c : Code) (T : State) (locs : List Loc) (fs : List Frame), Stand p l e R s m args below meth c T locs kc kn → Ctx Z EL nm code ml ret p meth c → (∀ (f : JFrame) (acts : List Action), f.method = m → f.locked = none → f.entered = [] → (doReturn e (T.setTop f) acts v).1 = T.setFrames fs) → Steps p.tables e below (T.setTop (mkF m pc Ls st)) (T.setFrames fs))
    (hQ : Q v h out) (ho : ∀ x ∈ out, x ∈ mine) (hc : kc ≤ R.cells) (hn : kn ≤ R.slots) : Go l w Z EL own nm code ml ret R Q h mine kc kn pc Ls st := by
  intro p e s m args below meth c T hC ⟨vm0, k0, locs, X, eT, hS, hk, hZ, hown, hR, N, E0, hM, hw⟩
  obtain ⟨fs, h1, h2, h3, hW, hs⟩ := X.leave (v := v) (fun z => hv (hC.2.2.2.1.symm.trans z)) hC.2.2.2.2.1
  obtain ⟨ra, rb, rc⟩ := hS.ended (U := T.setFrames fs) hW (by show k0 ≤ T.heap.size; rw [eT]; exact hk) hs
  obtain ⟨a1, hEL⟩ := hC.2.2.2.2.2.2
  have A := CHv.at X hZ hEL hR.1
  subst eT
  refine ⟨_, _, hstep p e _ m args below meth c T locs fs X hC h1, h2, h3, v, locs, out, rfl, hQ, N, (hM.sub ho).later A, hR.trans A, E0, ⟨⟨v, rfl⟩, ra, rb, rc.mono hc hn⟩, fun q => ?_⟩
  cases hw q
  exact ⟨⟨v, rfl⟩, hW, hs.mono hc hn⟩
theorem go_return {out : List Addr} (hret : ret = none) (hd : decode code pc = .ok (.return_, 1)) (hQ : Q none h out) (ho : ∀ x ∈ out, x ∈ mine) (hc : kc ≤ R.cells) (hn : kn ≤ R.slots) : Go l w Z EL own nm code ml ret R Q h mine kc kn pc Ls [] :=
  go_leave (fun _ => rfl) (fun p e s m args below meth c T locs fs X hC h1 => X.returnOut hC.1 (hC.2.2.2.1.trans hret) (hb hC.2.1 hd) h1) hQ ho hc hn
theorem go_retV {t : FieldType} {i : Instr} {v : Value} {out : List Addr} (hret : ret = some t) (hnr : narrow t v = v)
    (hi : (i = .ireturn ∧ (t = .int ∨ t = .boolean ∨ t = .byte ∨ t = .char ∨ t = .short) ∧ ∃ z, v = .int z) ∨ (i = .lreturn ∧ t = .long ∧ ∃ z, v = .long z) ∨ (i = .dreturn ∧ t = .double ∧ ∃ z, v = .double z) ∨ (i = .freturn ∧ t = .float ∧ ∃ z, v = .float z) ∨ (i = .areturn ∧ t.isReference = true ∧ v.isRef = true))
    (hd : decode code pc = .ok (i, 1)) (hQ : Q (some v) h out) (ho : ∀ x ∈ out, x ∈ mine) (hc : kc ≤ R.cells) (hn : kn ≤ R.slots) : Go l w Z EL own nm code ml ret R Q h mine kc kn pc Ls (v :: st) :=
  go_leave (fun z => by rw [hret] at z; cases z) (fun p e s m args below meth c T locs fs X hC h1 => retOut X hC.1 (hC.2.2.2.1.trans hret) hnr hi (hb hC.2.1 hd) h1) hQ ho hc hn
theorem go_ireturn {t : FieldType} {z : Int32} {out : List Addr} (hret : ret = some t) (ht : t = .int ∨ t = .boolean ∨ t = .byte ∨ t = .char ∨ t = .short) (hnr : narrow t (.int z) = .int z) (hd : decode code pc = .ok (.ireturn, 1)) (hQ : Q (some (.int z)) h out) (ho : ∀ x ∈ out, x ∈ mine) (hc : kc ≤ R.cells) (hn : kn ≤ R.slots) : Go l w Z EL own nm code ml ret R Q h mine kc kn pc Ls (.int z :: st) :=
  go_retV hret hnr (Or.inl ⟨rfl, ht, z, rfl⟩) hd hQ ho hc hn
theorem go_areturn {t : FieldType} {v : Value} {out : List Addr} (hret : ret = some t) (hnr : narrow t v = v) (ht : t.isReference = true) (hv : v.isRef = true) (hd : decode code pc = .ok (.areturn, 1)) (hQ : Q (some v) h out) (ho : ∀ x ∈ out, x ∈ mine) (hc : kc ≤ R.cells) (hn : kn ≤ R.slots) : Go l w Z EL own nm code ml ret R Q h mine kc kn pc Ls (v :: st) :=
  go_retV hret hnr (Or.inr (Or.inr (Or.inr (Or.inr ⟨rfl, ht, hv⟩)))) hd hQ ho hc hn
end Leave
section Contracts
variable {l : Launch} {w : Bool} {Z : State} {EL : List (String × Nat)} {own nm : String} {code : ByteArray} {ml : Nat} {ret : Option FieldType} {R : Room} {Q : Option Value → Heap → List Addr → Prop} {h : Heap} {mine : List Addr} {kc kn pc q : Nat} {Ls : Array Slot} {st : List Value} {a0 : Array Value}
theorem con_of_go {y : MethodName} {as' : Array Value} {Ls0 : Array Slot} {ws : List Jvm.Cond} (hpl : plainName y.cls = true) (hef : ∀ m, entryFrame m as' ml = mkF m 0 Ls0 []) (E0 : Ext Z.heap h) (hEL : ∃ a0 : Array Value, EW Z a0 EL)
    (hg : Go l w Z EL y.cls y.name code ml ret R Q h mine 0 0 0 Ls0 []) : Con l w Z EL y code ml ret ws R as' h mine Q := by
  refine MetFree.of_bodySF (plainFor_of_name hpl) hisR ?_
  intro p e s m args below meth c s₁ Bd hml0 hP hK
  obtain ⟨ha, hZ, hh, hCv, hM⟩ := hP
  subst ha
  have X0 : Stand p l e R s m args below meth c s₁ [] 0 0 := Stand.of_body Bd
  have e0 : s₁.heap = h := by rw [← hh, Bd.state]; rfl
  obtain ⟨t, o, r1, r2, r3, r4⟩ := hg p e s m args below meth c s₁ ⟨Bd.exec, Bd.bytes, hml0, Bd.returns, Bd.notSynchronized, (name_of_methodNamed Bd.named Bd.method).1, hEL⟩
    ⟨s.vm, 0, [], X0, e0, (State.WarmedH.refl s).since 0, Nat.zero_le _, hZ, findClass_of_methodNamed Bd.named, by rw [hh]; exact CHr.refl hCv, Fr.nil _, E0, hM, fun _ => rfl⟩
  exact ⟨t, o, castTop (hef m) r1, r2, r3, r4⟩
/-- a contract that interns nothing, as a payment -/
theorem con_pay {y : MethodName} {as' : Array Value} {R' : Room} {len W : Nat} {P' : Option Value → Heap → List Addr → Prop} (hc : Con l false Z [] y code ml ret [] R' as' h mine P') (hm : ∀ x ∈ mine, Z.heap.size ≤ x ∧ x < h.size) (wc : (Cond.code y code ml ret).before a0 Z = true) (wz : (Cond.initialized y.cls).before a0 Z = true) (hf : R'.frames + 1 ≤ R.frames) (hl : W + (ml + 11) + R'.locals ≤ R.locals) :
    Pay l R Z y len W as' h R'.cells R'.slots (fun v h' L => ∃ out, P' v h' out ∧ Fr Z.heap.size L ∧ Ext Z.heap h' ∧ ∀ x ∈ out, Z.heap.size ≤ x ∧ x < h'.size) := fun p e below s args hZ => by
  refine backOf (rm := R') (bytes := code) (maxL := ml) (ret := ret) (Q := fun v h' L => ∃ out, P' v h' out ∧ Fr Z.heap.size L ∧ Ext Z.heap h' ∧ ∀ x ∈ out, Z.heap.size ≤ x ∧ x < h'.size) ?_ hZ wc wz hf hl
  intro p e ha hcas hclk s m args below hfr happ hP hK
  obtain ⟨n, o, h1, h2, h3, v, L, out, h4, h5, h6, h7, h8, h9, h10⟩ := hc p e ha hcas hclk s m args below hfr happ ⟨hP.1, hP.2.1, hP.2.2, CHv.none, fun x hx => ⟨(hm x hx).1, (hm x hx).2, Safe.none⟩⟩ hK
  exact ⟨n, o, h1, h2, h3, v, L, h4, ⟨out, h5, h6, h9, fun x hx => ⟨(h7 x hx).1, (h7 x hx).2.1⟩⟩, h10.2 rfl⟩
/-- a contract that may intern, as a payment -/
theorem con_backS {y : MethodName} {as' : Array Value} {R' : Room} {len W : Nat} {P' : Option Value → Heap → List Addr → Prop} {p : Program} {e : Env} {below : List Frame} {s : State} {args : Array Value} {vm0 : Vm} (hc : Con l w Z EL y code ml ret [] R' as' h mine P') (hZ : Z.Warmed39 vm0) (wc : (Cond.code y code ml ret).before a0 Z = true) (wz : (Cond.initialized y.cls).before a0 Z = true) (hf : R'.frames + 1 ≤ R.frames) (hl : W + (ml + 11) + R'.locals ≤ R.locals) {a1 : Array Value} (hEL : EW Z a1 EL) (H : CHv Z EL vm0 h) (M : Mine Z EL vm0 h mine) :
    BackS l R p e below (s.setVm vm0) args y len W (fun A a => a = as' ∧ A.U.heap = h ∧ A.cells + R'.cells ≤ R.cells ∧ A.slots + R'.slots ≤ R.slots)
      (fun A _ v B => ∃ L, (∃ out, P' v B.U.heap out ∧ Fr Z.heap.size L ∧ Mine Z EL B.U.vm B.U.heap out ∧ Ext Z.heap B.U.heap) ∧ B.locs = A.locs ++ L ∧ B.cells = A.cells + R'.cells ∧ B.slots = A.slots + R'.slots ∧ CHr Z EL vm0 h B.U.vm B.U.heap) :=
  BackS.of_freeW (bytes := code) (maxL := ml) (ret := ret) (E := fun _ first o t L k n => k = R'.cells ∧ n = R'.slots ∧ (∃ v, o = .returned v ∧ ∃ out, P' v t.heap out ∧ Fr Z.heap.size L ∧ Mine Z EL t.vm t.heap out ∧ Ext Z.heap t.heap) ∧ CHr Z EL first.vm first.heap t.vm t.heap) hc hf hl
    (fun m meth c A a Y hp => have hU : Z.Warmed39 A.U.vm := wtrans (s := s.setVm vm0) hZ Y.warmed
      ⟨by show (Cond.and _ .tt).before a A.U = true; rw [Cond.before_and, mv hU wc]; rfl, mv hU wc, mv hU wz, hp.2.2.1, hp.2.2.2⟩)
    (fun m meth c A a g mk Y hp => ⟨hp.1, wtrans (s := s.setVm vm0) hZ Y.warmed, hp.2.1, (CHv.at Y hZ hEL H).1, M.later (vm1 := A.U.vm) (CHv.at Y hZ hEL H)⟩) (fun _ _ _ _ _ _ _ _ _ => trivial)
    (fun _ _ _ _ ⟨v, L, out, h1, h2, h3, h4, h5, h6, h7⟩ => ⟨L, _, _, h7.1, rfl, rfl, ⟨v, h1, out, h2, h3, h4, h6⟩, h5⟩)
    (fun m meth c A a g mk v t L k n Y hp _ _ ⟨e1, e2, ⟨v', e3, e4⟩, e5⟩ => by
      cases e3; subst e1 e2
      refine ⟨L, e4, rfl, rfl, rfl, (CHv.at Y hZ hEL H).trans ?_⟩
      rw [← hp.2.1]; exact e5)
end Contracts
section Calls
variable {l : Launch} {w : Bool} {Z : State} {EL : List (String × Nat)} {own nm : String} {code : ByteArray} {ml : Nat} {ret : Option FieldType} {R : Room} {Q : Option Value → Heap → List Addr → Prop} {h : Heap} {mine : List Addr} {kc kn pc q : Nat} {Ls : Array Slot} {st : List Value} {a0 : Array Value}
theorem go_callS {index : Nat} {y : MethodName} {bytes : ByteArray} {maxL : Nat} {ret' : Option FieldType} {W : Nat} {argsL rest : List Value} {dc dn : Nat} {ws : List Addr} {P : Option Value → Heap → List Loc → Prop} (hd : decode code pc = .ok (.invokestatic index, 3)) (hq : pc + 3 = q) (w1 : (Cond.methodLink own index y).before a0 Z = true) (w2 : (Cond.static y).before a0 Z = true) (w3 : (Cond.initialized y.cls).before a0 Z = true) (w4 : (Cond.code y bytes maxL ret').before a0 Z = true) (hy : y.cls ≠ "java/lang/invoke/MethodHandle" ∧ y.cls ≠ "java/lang/invoke/VarHandle") (hK : Pay l R Z y 3 W argsL.toArray h dc dn P) (hst : st = argsL.reverse ++ rest) (hml : Ls.size = ml) (hlen : ∀ sig, parseMethodDescriptor y.desc = some sig → argsL.length = sig.parameters.length) (hW : (rest.map fun v => v.category).sum ≤ W) (hdc : kc + dc ≤ R.cells) (hdn : kn + dn ≤ R.slots)
    (hP : ∀ v h' L, P v h' L → Fr Z.heap.size L ∧ Keep h h' ws) (hws : ∀ x ∈ ws, x ∈ mine)
    (k : ∀ v h' L, P v h' L → ∃ out, (∀ x ∈ out, h.size ≤ x ∧ x < h'.size) ∧ Go l w Z EL own nm code ml ret R Q h' (out ++ mine) (kc + dc) (kn + dn) q Ls (v.toList ++ rest)) : Go l w Z EL own nm code ml ret R Q h mine kc kn pc Ls st := by
  subst hq hst
  intro p e s m args below meth c T hC ⟨vm0, k0, locs, X, eT, hS, hk, hZ, hown, hR, N, E0, hM, hw⟩
  obtain ⟨v, vm1, ⟨T', L', k', n'⟩, -, X', ⟨Lc, hQ, l1, y1, z1⟩, stp⟩ := Jvm.LawKit.callS X hC.1 (y := y) hown (mvT hZ w1) (mvT hZ w2) (mvT hZ w3) (mvT hZ w4) hy (hK p e below _ args hZ)  (g := mkF m pc Ls (argsL.reverse ++ rest)) rfl (by rw [hC.2.2.1]; exact hml)  (argsL := argsL) (rest := rest) hlen rfl (by show 2 * 0 + _ ≤ _; omega) (hb hC.2.1 hd) (fun _ _ => ⟨rfl, eT, hdc, hdn⟩)
  dsimp only [Pt.U, Pt.locs, Pt.cells, Pt.slots] at X' l1 y1 z1 stp hQ
  subst l1 y1 z1
  obtain ⟨out, ho, g0⟩ := k v T'.heap Lc hQ
  obtain ⟨N1, K⟩ := hP v T'.heap Lc hQ
  obtain ⟨t, o, r1, r2⟩ := g0 p e s m args below meth c T' hC ⟨vm0, k0, _, X', rfl, hS, Nat.le_trans hk K.1, hZ, hown, hR.trans (CHr.keep K (fun x hx => (hM x (hws x hx)).2.2) hR.1), N.app N1, ext_keep E0 K (fun x hx => (hM x (hws x hx)).1), Mine.new K hws hR.1 hM E0 ho, hw⟩
  exact ⟨t, o, stp _ r1, r2⟩
theorem go_callSW {index : Nat} {y : MethodName} {bytes : ByteArray} {maxL : Nat} {ret' : Option FieldType} {W : Nat} {argsL rest : List Value} {R' : Room} {m2 : List Addr} {P' : Option Value → Heap → List Addr → Prop} (hd : decode code pc = .ok (.invokestatic index, 3)) (hq : pc + 3 = q) (hw1 : w = true) (w1 : (Cond.methodLink own index y).before a0 Z = true) (w2 : (Cond.static y).before a0 Z = true) (w3 : (Cond.initialized y.cls).before a0 Z = true) (w4 : (Cond.code y bytes maxL ret').before a0 Z = true) (hy : y.cls ≠ "java/lang/invoke/MethodHandle" ∧ y.cls ≠ "java/lang/invoke/VarHandle") (hK : Con l true Z EL y bytes maxL ret' [] R' argsL.toArray h m2 P') (hm2 : ∀ x ∈ m2, x ∈ mine) (hst : st = argsL.reverse ++ rest) (hml : Ls.size = ml) (hlen : ∀ sig, parseMethodDescriptor y.desc = some sig → argsL.length = sig.parameters.length) (hW : (rest.map fun v => v.category).sum ≤ W) (hf : R'.frames + 1 ≤ R.frames) (hlo : W + (maxL + 11) + R'.locals ≤ R.locals) (hdc : kc + R'.cells ≤ R.cells) (hdn : kn + R'.slots ≤ R.slots)
    (k : ∀ v h' out, P' v h' out → h.size ≤ h'.size → Go l w Z EL own nm code ml ret R Q h' (out ++ mine) (kc + R'.cells) (kn + R'.slots) q Ls (v.toList ++ rest)) : Go l w Z EL own nm code ml ret R Q h mine kc kn pc Ls st := by
  subst hq hst hw1
  intro p e s m args below meth c T hC ⟨vm0, k0, locs, X, eT, hS, hk, hZ, hown, hR, N, E0, hM, hw⟩
  obtain ⟨a1, hEL⟩ := hC.2.2.2.2.2.2
  obtain ⟨v, vm1, ⟨T', L', k', n'⟩, -, X', hS', hgr, ⟨Lc, ⟨out, hQ, N1, M1, E1⟩, l1, y1, z1, hR'⟩, stp⟩ := callSS X hC.1 (y := y) hown (mvT hZ w1) (mvT hZ w2) (mvT hZ w3) (mvT hZ w4) hy (con_backS (s := s) hK hZ w4 w3 hf hlo hEL hR.1 (hM.sub hm2))  (g := mkF m pc Ls (argsL.reverse ++ rest)) rfl (by rw [hC.2.2.1]; exact hml)  (argsL := argsL) (rest := rest) hlen rfl (by show 2 * 0 + _ ≤ _; omega) (hb hC.2.1 hd) (fun _ _ => ⟨rfl, eT, hdc, hdn⟩)
  dsimp only [Pt.U, Pt.locs, Pt.cells, Pt.slots] at X' l1 y1 z1 stp hQ hS' hgr hR' M1 E1
  subst l1 y1 z1
  subst eT
  obtain ⟨t, o, r1, r2⟩ := k v T'.heap out hQ hgr p e s m args below meth c T' hC ⟨T'.vm, _, _, X', rfl, hS.trans hS' (Nat.le_trans hk hgr), Nat.le_refl _, State.Warmed39.trans (t := s.setVm vm0) hZ hS'.1, (hS'.1.alike.findClass _ _).trans hown, hR.trans hR', N.app N1, E1, M1.app (hM.later hR'), fun q => nomatch q⟩
  exact ⟨t, o, stp.trans r1, r2⟩
theorem go_callI {index : Nat} {y : MethodName} {bytes : ByteArray} {maxL : Nat} {W : Nat} {a : Addr} {argsL rest : List Value} {dc dn : Nat} {ws : List Addr} {P : Option Value → Heap → List Loc → Prop} (hd : decode code pc = .ok (.invokespecial index, 3)) (hq : pc + 3 = q) (hi : y.name = "<init>") (w1 : (Cond.methodLink own index y).before a0 Z = true) (w2 : (Cond.instanceMethod y).before a0 Z = true) (w4 : (Cond.code y bytes maxL none).before a0 Z = true) (hy : y.cls ≠ "java/lang/invoke/MethodHandle" ∧ y.cls ≠ "java/lang/invoke/VarHandle") (hK : Pay l R Z y 3 W (.ref a :: argsL).toArray h dc dn P) (hst : st = argsL.reverse ++ .ref a :: rest) (hml : Ls.size = ml) (hlen : ∀ sig, parseMethodDescriptor y.desc = some sig → argsL.length = sig.parameters.length) (hW : (rest.map fun v => v.category).sum ≤ W) (hdc : kc + dc ≤ R.cells) (hdn : kn + dn ≤ R.slots)
    (hP : ∀ v h' L, P v h' L → Fr Z.heap.size L ∧ Keep h h' ws) (hws : ∀ x ∈ ws, x ∈ mine)
    (k : ∀ v h' L, P v h' L → ∃ out, (∀ x ∈ out, h.size ≤ x ∧ x < h'.size) ∧ Go l w Z EL own nm code ml ret R Q h' (out ++ mine) (kc + dc) (kn + dn) q Ls (v.toList ++ rest)) : Go l w Z EL own nm code ml ret R Q h mine kc kn pc Ls st := by
  subst hq hst
  intro p e s m args below meth c T hC ⟨vm0, k0, locs, X, eT, hS, hk, hZ, hown, hR, N, E0, hM, hw⟩
  obtain ⟨v, vm1, ⟨T', L', k', n'⟩, -, X', ⟨Lc, hQ, l1, y1, z1⟩, stp⟩ := X.specialBack hC.1 (y := y) hi hown (mvT hZ w1) (mvT hZ w2) (mvT hZ w4) hy (hK p e below _ args hZ)  (g := mkF m pc Ls (argsL.reverse ++ .ref a :: rest)) rfl (by rw [hC.2.2.1]; exact hml) (Steps.refl _) (a := a) (argsL := argsL) (rest := rest) hlen rfl (by show 2 * 0 + _ ≤ _; omega) (hb hC.2.1 hd) (fun _ _ => ⟨rfl, eT, hdc, hdn⟩)
  dsimp only [Pt.U, Pt.locs, Pt.cells, Pt.slots] at X' l1 y1 z1 stp hQ
  subst l1 y1 z1
  obtain ⟨out, ho, g0⟩ := k v T'.heap Lc hQ
  obtain ⟨N1, K⟩ := hP v T'.heap Lc hQ
  obtain ⟨t, o, r1, r2⟩ := g0 p e s m args below meth c T' hC ⟨vm0, k0, _, X', rfl, hS, Nat.le_trans hk K.1, hZ, hown, hR.trans (CHr.keep K (fun x hx => (hM x (hws x hx)).2.2) hR.1), N.app N1, ext_keep E0 K (fun x hx => (hM x (hws x hx)).1), Mine.new K hws hR.1 hM E0 ho, hw⟩
  exact ⟨t, o, stp.trans r1, r2⟩
theorem go_callIW {index : Nat} {y : MethodName} {bytes : ByteArray} {maxL : Nat} {W : Nat} {a : Addr} {argsL rest : List Value} {R' : Room} {m2 : List Addr} {P' : Option Value → Heap → List Addr → Prop} (hd : decode code pc = .ok (.invokespecial index, 3)) (hq : pc + 3 = q) (hw1 : w = true) (hi : y.name = "<init>") (w1 : (Cond.methodLink own index y).before a0 Z = true) (w2 : (Cond.instanceMethod y).before a0 Z = true) (w4 : (Cond.code y bytes maxL none).before a0 Z = true) (w3 : (Cond.initialized y.cls).before a0 Z = true) (hy : y.cls ≠ "java/lang/invoke/MethodHandle" ∧ y.cls ≠ "java/lang/invoke/VarHandle") (hK : Con l true Z EL y bytes maxL none [] R' (.ref a :: argsL).toArray h m2 P') (hm2 : ∀ x ∈ m2, x ∈ mine) (hst : st = argsL.reverse ++ .ref a :: rest) (hml : Ls.size = ml) (hlen : ∀ sig, parseMethodDescriptor y.desc = some sig → argsL.length = sig.parameters.length) (hW : (rest.map fun v => v.category).sum ≤ W) (hf : R'.frames + 1 ≤ R.frames) (hlo : W + (maxL + 11) + R'.locals ≤ R.locals) (hdc : kc + R'.cells ≤ R.cells) (hdn : kn + R'.slots ≤ R.slots)
    (k : ∀ v h' out, P' v h' out → h.size ≤ h'.size → Go l w Z EL own nm code ml ret R Q h' (out ++ mine) (kc + R'.cells) (kn + R'.slots) q Ls (v.toList ++ rest)) : Go l w Z EL own nm code ml ret R Q h mine kc kn pc Ls st := by
  subst hq hst hw1
  intro p e s m args below meth c T hC ⟨vm0, k0, locs, X, eT, hS, hk, hZ, hown, hR, N, E0, hM, hw⟩
  obtain ⟨a1, hEL⟩ := hC.2.2.2.2.2.2
  obtain ⟨v, vm1, ⟨T', L', k', n'⟩, -, X', hS', hgr, ⟨Lc, ⟨out, hQ, N1, M1, E1⟩, l1, y1, z1, hR'⟩, stp⟩ := X.specialBackS hC.1 (y := y) hi hown (mvT hZ w1) (mvT hZ w2) (mvT hZ w4) hy (con_backS (s := s) hK hZ w4 w3 hf hlo hEL hR.1 (hM.sub hm2))  (g := mkF m pc Ls (argsL.reverse ++ .ref a :: rest)) rfl (by rw [hC.2.2.1]; exact hml) (Steps.refl _) (a := a) (argsL := argsL) (rest := rest) hlen rfl (by show 2 * 0 + _ ≤ _; omega) (hb hC.2.1 hd) (fun _ _ => ⟨rfl, eT, hdc, hdn⟩)
  dsimp only [Pt.U, Pt.locs, Pt.cells, Pt.slots] at X' l1 y1 z1 stp hQ hS' hgr hR' M1 E1
  subst l1 y1 z1
  subst eT
  obtain ⟨t, o, r1, r2⟩ := k v T'.heap out hQ hgr p e s m args below meth c T' hC ⟨T'.vm, _, _, X', rfl, hS.trans hS' (Nat.le_trans hk hgr), Nat.le_refl _, State.Warmed39.trans (t := s.setVm vm0) hZ hS'.1, (hS'.1.alike.findClass _ _).trans hown, hR.trans hR', N.app N1, E1, M1.app (hM.later hR'), fun q => nomatch q⟩
  exact ⟨t, o, stp.trans r1, r2⟩
theorem go_callV {index : Nat} {y z : MethodName} {C : String} {W : Nat} {a : Addr} {argsL rest : List Value} {dc dn : Nat} {ws : List Addr} {P : Option Value → Heap → List Loc → Prop} (hd : decode code pc = .ok (.invokevirtual index, 3)) (hq : pc + 3 = q) (w1 : (Cond.methodLink own index y).before a0 Z = true) (w2 : (Cond.declares y).before a0 Z = true) (hnf : ∀ s : State, Z.Warmed39 s.vm → NotFace s y) (w3 : (Cond.selects C y z).before a0 Z = true) (w4 : (Cond.instanceMethod z).before a0 Z = true) (A : Exa Z h a C) (hy : y.cls ≠ "java/lang/invoke/MethodHandle" ∧ y.cls ≠ "java/lang/invoke/VarHandle") (hK : Pay l R Z z 3 W (.ref a :: argsL).toArray h dc dn P) (hst : st = argsL.reverse ++ .ref a :: rest) (hml : Ls.size = ml) (hlen : ∀ sig, parseMethodDescriptor y.desc = some sig → argsL.length = sig.parameters.length) (hW : (rest.map fun v => v.category).sum ≤ W) (hdc : kc + dc ≤ R.cells) (hdn : kn + dn ≤ R.slots)
    (hP : ∀ v h' L, P v h' L → Fr Z.heap.size L ∧ Keep h h' ws) (hws : ∀ x ∈ ws, x ∈ mine)
    (k : ∀ v h' L, P v h' L → ∃ out, (∀ x ∈ out, h.size ≤ x ∧ x < h'.size) ∧ Go l w Z EL own nm code ml ret R Q h' (out ++ mine) (kc + dc) (kn + dn) q Ls (v.toList ++ rest)) : Go l w Z EL own nm code ml ret R Q h mine kc kn pc Ls st := by
  subst hq hst
  intro p e s m args below meth c T hC ⟨vm0, k0, locs, X, eT, hS, hk, hZ, hown, hR, N, E0, hM, hw⟩
  obtain ⟨cB, kB, qa, qb, qc⟩ := isOf (s := s.setVm vm0) hZ eT A
  obtain ⟨v, vm1, ⟨T', L', k', n'⟩, -, X', ⟨Lc, hQ, l1, y1, z1⟩, stp⟩ := X.virtualBack hC.1 (y := y) (z := z) hown (mvT hZ w1) (mvT hZ w2) (hnf _ hZ) (mvT hZ w3) (mvT hZ w4) hy (hK p e below _ args hZ) qa qc (g := mkF m pc Ls (argsL.reverse ++ .ref a :: rest)) rfl (by rw [hC.2.2.1]; exact hml) (Steps.refl _) (argsL := argsL) (rest := rest) hlen rfl (by show 2 * 0 + _ ≤ _; omega) (hb hC.2.1 hd) (fun _ _ => ⟨rfl, eT, hdc, hdn⟩)
  dsimp only [Pt.U, Pt.locs, Pt.cells, Pt.slots] at X' l1 y1 z1 stp hQ
  subst l1 y1 z1
  obtain ⟨out, ho, g0⟩ := k v T'.heap Lc hQ
  obtain ⟨N1, K⟩ := hP v T'.heap Lc hQ
  obtain ⟨t, o, r1, r2⟩ := g0 p e s m args below meth c T' hC ⟨vm0, k0, _, X', rfl, hS, Nat.le_trans hk K.1, hZ, hown, hR.trans (CHr.keep K (fun x hx => (hM x (hws x hx)).2.2) hR.1), N.app N1, ext_keep E0 K (fun x hx => (hM x (hws x hx)).1), Mine.new K hws hR.1 hM E0 ho, hw⟩
  exact ⟨t, o, stp.trans r1, r2⟩
theorem go_callVW {index : Nat} {y z : MethodName} {C : String} {W : Nat} {a : Addr} {argsL rest : List Value} {bytes : ByteArray} {maxL : Nat} {ret' : Option FieldType} {R' : Room} {m2 : List Addr} {P' : Option Value → Heap → List Addr → Prop} (hd : decode code pc = .ok (.invokevirtual index, 3)) (hq : pc + 3 = q) (hw1 : w = true) (w1 : (Cond.methodLink own index y).before a0 Z = true) (w2 : (Cond.declares y).before a0 Z = true) (hnf : ∀ s : State, Z.Warmed39 s.vm → NotFace s y) (w3 : (Cond.selects C y z).before a0 Z = true) (w4 : (Cond.instanceMethod z).before a0 Z = true) (w5 : (Cond.code z bytes maxL ret').before a0 Z = true) (w6 : (Cond.initialized z.cls).before a0 Z = true) (A : Exa Z h a C) (hy : y.cls ≠ "java/lang/invoke/MethodHandle" ∧ y.cls ≠ "java/lang/invoke/VarHandle") (hK : Con l true Z EL z bytes maxL ret' [] R' (.ref a :: argsL).toArray h m2 P') (hm2 : ∀ x ∈ m2, x ∈ mine) (hst : st = argsL.reverse ++ .ref a :: rest) (hml : Ls.size = ml) (hlen : ∀ sig, parseMethodDescriptor y.desc = some sig → argsL.length = sig.parameters.length) (hW : (rest.map fun v => v.category).sum ≤ W) (hf : R'.frames + 1 ≤ R.frames) (hlo : W + (maxL + 11) + R'.locals ≤ R.locals) (hdc : kc + R'.cells ≤ R.cells) (hdn : kn + R'.slots ≤ R.slots)
    (k : ∀ v h' out, P' v h' out → h.size ≤ h'.size → Go l w Z EL own nm code ml ret R Q h' (out ++ mine) (kc + R'.cells) (kn + R'.slots) q Ls (v.toList ++ rest)) : Go l w Z EL own nm code ml ret R Q h mine kc kn pc Ls st := by
  subst hq hst hw1
  intro p e s m args below meth c T hC ⟨vm0, k0, locs, X, eT, hS, hk, hZ, hown, hR, N, E0, hM, hw⟩
  obtain ⟨cB, kB, qa, qb, qc⟩ := isOf (s := s.setVm vm0) hZ eT A
  obtain ⟨a1, hEL⟩ := hC.2.2.2.2.2.2
  obtain ⟨v, vm1, ⟨T', L', k', n'⟩, -, X', hS', hgr, ⟨Lc, ⟨out, hQ, N1, M1, E1⟩, l1, y1, z1, hR'⟩, stp⟩ := X.virtualBackS hC.1 (y := y) (z := z) hown (mvT hZ w1) (mvT hZ w2) (hnf _ hZ) (mvT hZ w3) (mvT hZ w4) hy (con_backS (s := s) hK hZ w5 w6 hf hlo hEL hR.1 (hM.sub hm2)) qa qc (g := mkF m pc Ls (argsL.reverse ++ .ref a :: rest)) rfl (by rw [hC.2.2.1]; exact hml) (Steps.refl _) (argsL := argsL) (rest := rest) hlen rfl (by show 2 * 0 + _ ≤ _; omega) (hb hC.2.1 hd) (fun _ _ => ⟨rfl, eT, hdc, hdn⟩)
  dsimp only [Pt.U, Pt.locs, Pt.cells, Pt.slots] at X' l1 y1 z1 stp hQ hS' hgr hR' M1 E1
  subst l1 y1 z1
  subst eT
  obtain ⟨t, o, r1, r2⟩ := k v T'.heap out hQ hgr p e s m args below meth c T' hC ⟨T'.vm, _, _, X', rfl, hS.trans hS' (Nat.le_trans hk hgr), Nat.le_refl _, State.Warmed39.trans (t := s.setVm vm0) hZ hS'.1, (hS'.1.alike.findClass _ _).trans hown, hR.trans hR', N.app N1, E1, M1.app (hM.later hR'), fun q => nomatch q⟩
  exact ⟨t, o, stp.trans r1, r2⟩
theorem go_callF {index count : Nat} {y z : MethodName} {C : String} {W : Nat} {a : Addr} {argsL rest : List Value} {dc dn : Nat} {ws : List Addr} {P : Option Value → Heap → List Loc → Prop} (hd : decode code pc = .ok (.invokeinterface index count, 5)) (hq : pc + 5 = q) (w1 : (Cond.methodLink own index y).before a0 Z = true) (w2 : (Cond.declares y).before a0 Z = true) (wf : ∀ (s : State) (args : Array Value), Z.Warmed39 s.vm → (Cond.interfaceMethod y.cls y.cls y.name y.desc).before args s = true) (w3 : (Cond.selects C y z).before a0 Z = true) (w4 : (Cond.instanceMethod z).before a0 Z = true) (wp : (Cond.publicMethod z).before a0 Z = true) (wu : (Cond.unhidden C y.name y.desc).before a0 Z = true) (wk : (Cond.castable C y.cls).before a0 Z = true) (A : Exa Z h a C) (hy : y.cls ≠ "java/lang/invoke/MethodHandle" ∧ y.cls ≠ "java/lang/invoke/VarHandle") (hK : Pay l R Z z 5 W (.ref a :: argsL).toArray h dc dn P) (hst : st = argsL.reverse ++ .ref a :: rest) (hml : Ls.size = ml) (hlen : ∀ sig, parseMethodDescriptor y.desc = some sig → argsL.length = sig.parameters.length) (hW : (rest.map fun v => v.category).sum ≤ W) (hdc : kc + dc ≤ R.cells) (hdn : kn + dn ≤ R.slots)
    (hP : ∀ v h' L, P v h' L → Fr Z.heap.size L ∧ Keep h h' ws) (hws : ∀ x ∈ ws, x ∈ mine)
    (k : ∀ v h' L, P v h' L → ∃ out, (∀ x ∈ out, h.size ≤ x ∧ x < h'.size) ∧ Go l w Z EL own nm code ml ret R Q h' (out ++ mine) (kc + dc) (kn + dn) q Ls (v.toList ++ rest)) : Go l w Z EL own nm code ml ret R Q h mine kc kn pc Ls st := by
  subst hq hst
  intro p e s m args below meth c T hC ⟨vm0, k0, locs, X, eT, hS, hk, hZ, hown, hR, N, E0, hM, hw⟩
  obtain ⟨cB, kB, qa, qb, qc⟩ := isOf (s := s.setVm vm0) hZ eT A
  obtain ⟨v, vm1, ⟨T', L', k', n'⟩, -, X', ⟨Lc, hQ, l1, y1, z1⟩, stp⟩ := X.interfaceBack hC.1 (xi := y) (y := z) hown (mvT hZ w1) (mvT hZ w2) (wf _ _ hZ) (mvT hZ w3) (mvT hZ w4) (mvT hZ wp) (mvT hZ wu) (mvT hZ wk) hy (hK p e below _ args hZ) qa qb qc (g := mkF m pc Ls (argsL.reverse ++ .ref a :: rest)) rfl (by rw [hC.2.2.1]; exact hml) (Steps.refl _) (argsL := argsL) (rest := rest) hlen rfl (by show 2 * 0 + _ ≤ _; omega) (hb hC.2.1 hd) (fun _ _ => ⟨rfl, eT, hdc, hdn⟩)
  dsimp only [Pt.U, Pt.locs, Pt.cells, Pt.slots] at X' l1 y1 z1 stp hQ
  subst l1 y1 z1
  obtain ⟨out, ho, g0⟩ := k v T'.heap Lc hQ
  obtain ⟨N1, K⟩ := hP v T'.heap Lc hQ
  obtain ⟨t, o, r1, r2⟩ := g0 p e s m args below meth c T' hC ⟨vm0, k0, _, X', rfl, hS, Nat.le_trans hk K.1, hZ, hown, hR.trans (CHr.keep K (fun x hx => (hM x (hws x hx)).2.2) hR.1), N.app N1, ext_keep E0 K (fun x hx => (hM x (hws x hx)).1), Mine.new K hws hR.1 hM E0 ho, hw⟩
  exact ⟨t, o, stp.trans r1, r2⟩
theorem go_callFW {index count : Nat} {y z : MethodName} {C : String} {W : Nat} {a : Addr} {argsL rest : List Value} {bytes : ByteArray} {maxL : Nat} {ret' : Option FieldType} {R' : Room} {m2 : List Addr} {P' : Option Value → Heap → List Addr → Prop} (hd : decode code pc = .ok (.invokeinterface index count, 5)) (hq : pc + 5 = q) (hw1 : w = true) (w1 : (Cond.methodLink own index y).before a0 Z = true) (w2 : (Cond.declares y).before a0 Z = true) (wf : ∀ (s : State) (args : Array Value), Z.Warmed39 s.vm → (Cond.interfaceMethod y.cls y.cls y.name y.desc).before args s = true) (w3 : (Cond.selects C y z).before a0 Z = true) (w4 : (Cond.instanceMethod z).before a0 Z = true) (wp : (Cond.publicMethod z).before a0 Z = true) (wu : (Cond.unhidden C y.name y.desc).before a0 Z = true) (wk : (Cond.castable C y.cls).before a0 Z = true) (w5 : (Cond.code z bytes maxL ret').before a0 Z = true) (w6 : (Cond.initialized z.cls).before a0 Z = true) (A : Exa Z h a C) (hy : y.cls ≠ "java/lang/invoke/MethodHandle" ∧ y.cls ≠ "java/lang/invoke/VarHandle") (hK : Con l true Z EL z bytes maxL ret' [] R' (.ref a :: argsL).toArray h m2 P') (hm2 : ∀ x ∈ m2, x ∈ mine) (hst : st = argsL.reverse ++ .ref a :: rest) (hml : Ls.size = ml) (hlen : ∀ sig, parseMethodDescriptor y.desc = some sig → argsL.length = sig.parameters.length) (hW : (rest.map fun v => v.category).sum ≤ W) (hf : R'.frames + 1 ≤ R.frames) (hlo : W + (maxL + 11) + R'.locals ≤ R.locals) (hdc : kc + R'.cells ≤ R.cells) (hdn : kn + R'.slots ≤ R.slots)
    (k : ∀ v h' out, P' v h' out → h.size ≤ h'.size → Go l w Z EL own nm code ml ret R Q h' (out ++ mine) (kc + R'.cells) (kn + R'.slots) q Ls (v.toList ++ rest)) : Go l w Z EL own nm code ml ret R Q h mine kc kn pc Ls st := by
  subst hq hst hw1
  intro p e s m args below meth c T hC ⟨vm0, k0, locs, X, eT, hS, hk, hZ, hown, hR, N, E0, hM, hw⟩
  obtain ⟨cB, kB, qa, qb, qc⟩ := isOf (s := s.setVm vm0) hZ eT A
  obtain ⟨a1, hEL⟩ := hC.2.2.2.2.2.2
  obtain ⟨v, vm1, ⟨T', L', k', n'⟩, -, X', hS', hgr, ⟨Lc, ⟨out, hQ, N1, M1, E1⟩, l1, y1, z1, hR'⟩, stp⟩ := X.interfaceBackS hC.1 (xi := y) (y := z) hown (mvT hZ w1) (mvT hZ w2) (wf _ _ hZ) (mvT hZ w3) (mvT hZ w4) (mvT hZ wp) (mvT hZ wu) (mvT hZ wk) hy (con_backS (s := s) hK hZ w5 w6 hf hlo hEL hR.1 (hM.sub hm2)) qa qb qc (g := mkF m pc Ls (argsL.reverse ++ .ref a :: rest)) rfl (by rw [hC.2.2.1]; exact hml) (Steps.refl _) (argsL := argsL) (rest := rest) hlen rfl (by show 2 * 0 + _ ≤ _; omega) (hb hC.2.1 hd) (fun _ _ => ⟨rfl, eT, hdc, hdn⟩)
  dsimp only [Pt.U, Pt.locs, Pt.cells, Pt.slots] at X' l1 y1 z1 stp hQ hS' hgr hR' M1 E1
  subst l1 y1 z1
  subst eT
  obtain ⟨t, o, r1, r2⟩ := k v T'.heap out hQ hgr p e s m args below meth c T' hC ⟨T'.vm, _, _, X', rfl, hS.trans hS' (Nat.le_trans hk hgr), Nat.le_refl _, State.Warmed39.trans (t := s.setVm vm0) hZ hS'.1, (hS'.1.alike.findClass _ _).trans hown, hR.trans hR', N.app N1, E1, M1.app (hM.later hR'), fun q => nomatch q⟩
  exact ⟨t, o, stp.trans r1, r2⟩
end Calls
end Jvm.OwnKit
/- laws to paste: Road.backV, Road.lenW, Road.chN, Road.eqW, Road.codOf (cut by pick.py; bodies as the Statement names them) -/
namespace Jvm.Pilot.@@N@@
namespace StrChars
open Jvm Sem ClassFile Op Lib Jvm.Stand Jvm.Free.XT Jvm.Free.ALB Jvm.Free.JM Jvm.Free
open Jvm.Lib.Cold (StaticIs)
/-- a char array whose places are chars -/
def Ch (a : Addr) (A : Cell) (U : State) : Prop := Arr .char a A U ∧ Typed .char A
theorem Ch.mv {a : Addr} {A : Cell} {U U' : State} (h : Ch a A U) (hal : U.vm.Alike U'.vm) (hh : U'.heap = U.heap) : Ch a A U' := ⟨h.1.mv hal hh, h.2⟩
theorem Ch.keep {a : Addr} {A : Cell} {U U' : State} (h : Ch a A U) (hal : U.vm.Alike U'.vm) (hk : U'.heap[a]? = some A) : Ch a A U' := ⟨h.1.keep hal hk, h.2⟩
/-- what place i of a char[]'s cell holds -/
def cv (A : Cell) (i : Nat) : Int32 := match A.slots[i]? with | some (.int x) => x | _ => 0
theorem Ch.get {a : Addr} {A : Cell} {U : State} (h : Ch a A U) {i : Nat} (hi : i < A.slots.size) : A.slots[i]? = some (.int (cv A i)) := by
  have e := Array.getElem?_eq_getElem hi
  have f := h.2 i _ e
  unfold cv; rw [e]
  generalize A.slots[i] = v at f
  cases v <;> simp [fits] at f ⊢
/-- the byte that i2b leaves of a char -/
def lo8 (x : Int32) : Int32 := x.toInt8.toInt32
theorem fits_lo8 (y : Int32) : fits .byte (.int (lo8 y)) = true := by
  have h1 := y.toInt8.le_toInt
  have h2 := y.toInt8.toInt_lt
  simp only [lo8, fits, Bool.and_eq_true, decide_eq_true_eq, Int32.le_iff_toInt_le, Int8.toInt_toInt32, show (-128 : Int32).toInt = -128 from by decide, show (127 : Int32).toInt = 127 from by decide]
  omega
/-- A' is A but that each place j of lo .. hi - 1 holds f j -/
def Laid (A A' : Cell) (lo hi : Nat) (f : Nat → Value) : Prop := A'.cls = A.cls ∧ A'.vm = A.vm ∧ A'.slots.size = A.slots.size ∧ ∀ i, A'.slots[i]? = if lo ≤ i ∧ i < hi then some (f i) else A.slots[i]?
theorem Laid.zero (A : Cell) (lo : Nat) (f : Nat → Value) : Laid A A lo (lo + 0) f := ⟨rfl, rfl, rfl, fun i => by rw [if_neg (by omega)]⟩
theorem Laid.step {A Ak : Cell} {lo k : Nat} {f : Nat → Value} {v : Value} (h : Laid A Ak lo k f) (hlo : lo ≤ k) (hk : k < Ak.slots.size) (hv : v = f k) : Laid A (Ak.setSlot k v) lo (k + 1) f := by
  refine ⟨h.1, h.2.1, by simpa [Cell.setSlot] using h.2.2.1, fun i => ?_⟩
  by_cases e : k = i
  · subst e; rw [Cell.slots_setSlot_self v hk, if_pos (by omega), hv]
  · rw [Cell.slots_setSlot_ne v e, h.2.2.2 i]
    by_cases q : lo ≤ i ∧ i < k
    · rw [if_pos q, if_pos (by omega)]
    · rw [if_neg q, if_neg (by omega)]
def U16 : String := "java/lang/StringUTF16"
namespace Cmp5
def yN : MethodName := ⟨"java/lang/StringUTF16", "compress", "([CI[BII)I"⟩
abbrev yB : ByteArray := jdk_52_method_21_code
theorem d0 : decode yB 0 = .ok (.iconst 0, 1) := by decide +kernel
theorem d1 : decode yB 1 = .ok (.istore 5, 2) := by decide +kernel
theorem d3 : decode yB 3 = .ok (.iload 5, 2) := by decide +kernel
theorem d5 : decode yB 5 = .ok (.iload 4, 2) := by decide +kernel
theorem d7 : decode yB 7 = .ok (.if_icmp (.ge) 37, 3) := by decide +kernel
theorem d10 : decode yB 10 = .ok (.aload_n 0, 1) := by decide +kernel
theorem d11 : decode yB 11 = .ok (.iload_n 1, 1) := by decide +kernel
theorem d12 : decode yB 12 = .ok (.caload, 1) := by decide +kernel
theorem d13 : decode yB 13 = .ok (.istore 6, 2) := by decide +kernel
theorem d15 : decode yB 15 = .ok (.iload 6, 2) := by decide +kernel
theorem d17 : decode yB 17 = .ok (.sipush 255, 3) := by decide +kernel
theorem d20 : decode yB 20 = .ok (.if_icmp (.le) 6, 3) := by decide +kernel
theorem d26 : decode yB 26 = .ok (.aload_n 2, 1) := by decide +kernel
theorem d27 : decode yB 27 = .ok (.iload_n 3, 1) := by decide +kernel
theorem d28 : decode yB 28 = .ok (.iload 6, 2) := by decide +kernel
theorem d30 : decode yB 30 = .ok (.i2b, 1) := by decide +kernel
theorem d31 : decode yB 31 = .ok (.bastore, 1) := by decide +kernel
theorem d32 : decode yB 32 = .ok (.iinc 1 1, 3) := by decide +kernel
theorem d35 : decode yB 35 = .ok (.iinc 3 1, 3) := by decide +kernel
theorem d38 : decode yB 38 = .ok (.iinc 5 1, 3) := by decide +kernel
theorem d41 : decode yB 41 = .ok (.goto (-38), 3) := by decide +kernel
theorem d44 : decode yB 44 = .ok (.iload 4, 2) := by decide +kernel
theorem d46 : decode yB 46 = .ok (.ireturn, 1) := by decide +kernel
def site : List Cond := []
def tab : Cond := tabOf yN yB 7 (some .int) site
def P (b : Addr) (A : Cell) (d : Addr) (B : Cell) (o q len : Nat) (args : Array Value) (s : State) : Prop := args = #[.ref b, .int (Int32.ofNat o), .ref d, .int (Int32.ofNat q), .int (Int32.ofNat len)] ∧ Ch b A s ∧ Arr .byte d B s ∧ b ≠ d ∧ o + len ≤ A.slots.size ∧ q + len ≤ B.slots.size ∧ ∀ i, i < len → ¬ 255 < cv A (o + i)
def E (b : Addr) (A : Cell) (d : Addr) (B : Cell) (o q len : Nat) (r : Option Value) (s u : State) : Prop := r = some (.int (Int32.ofNat len)) ∧ ∃ B', Put d B' s u ∧ Laid B B' q (q + len) (fun j => Value.int (lo8 (cv A (o + (j - q)))))
/-- no char of the range above 255: len; the places written hold each char's low byte -/
theorem law (l : Launch) (b : Addr) (A : Cell) (d : Addr) (B : Cell) (o q len : Nat) : Law l yN 5 5 0 0 yB 7 (some .int) site (P b A d B o q len) (E b A d B o q len) (copyLocs d q len) 0 0 := by
  refine Law.of_walk (plainFor_of_name (by decide +kernel)) (by decide +kernel) (by decide +kernel) (by decide) (fun _ _ h => by rw [h.1]; rfl) (fun _ U U' hal hh h => ⟨h.1, h.2.1.mv hal hh, h.2.2.1.mv hal hh, h.2.2.2⟩) (fun r U U' V V' h1 hal h2 h => ⟨h.1, h.2.elim fun B' q => ⟨B', q.1.mv h1 h2, q.2⟩⟩) ?_
  intro p e s m args below meth c s₁ X0 hexec hbytes hml hret hlk hnm hown hh0 W hP
  obtain ⟨rfl, hA, hB, hne, l1, l2, hp⟩ := hP
  have c1 : Steps p.tables e below (s₁.setTop (entryFrame m #[.ref b, .int (Int32.ofNat o), .ref d, .int (Int32.ofNat q), .int (Int32.ofNat len)] 7)) (s₁.setTop (mkF m 0 #[.val (.ref b), .val (.int (Int32.ofNat o)), .val (.ref d), .val (.int (Int32.ofNat q)), .val (.int (Int32.ofNat len)), .unset, .unset] [])) := entry rfl
  have hA0 := hA.1.mv X0.warmed.alike hh0
  have hB0 := hB.mv X0.warmed.alike hh0
  have a31 := hA.1.2.2.2
  have c2 : Steps p.tables e below (s₁.setTop (entryFrame m #[.ref b, .int (Int32.ofNat o), .ref d, .int (Int32.ofNat q), .int (Int32.ofNat len)] 7)) (s₁.setTop (mkF m 3 #[.val (.ref b), .val (.int (Int32.ofNat o)), .val (.ref d), .val (.int (Int32.ofNat q)), .val (.int (Int32.ofNat len)), .val (.int 0), .unset] [])) := c1.trans (by
    refine iconstV X0.here hexec rfl 0 (hb hbytes d0) (by decide) ?_
    refine XS.istore X0.here hexec rfl (hb hbytes d1) rfl rfl ?_
    exact Steps.refl _)
  have loop : ∀ (r i : Nat), i + r = len → ∀ (z : Slot), (z = .unset ∨ ∃ w, z = .val w ∧ w.category = 1) → ∀ (Tl : State) (Bk : Cell), Stand p l e { frames := 0, locals := 0, cells := 0, slots := 0 } s m #[.ref b, .int (Int32.ofNat o), .ref d, .int (Int32.ofNat q), .int (Int32.ofNat len)] below meth c Tl ([] ++ copyLocs d q i) 0 0 → Put d Bk s₁ Tl → Laid B Bk q (q + i) (fun j => Value.int (lo8 (cv A (o + (j - q))))) →
      Steps p.tables e below (s₁.setTop (entryFrame m #[.ref b, .int (Int32.ofNat o), .ref d, .int (Int32.ofNat q), .int (Int32.ofNat len)] 7)) (Tl.setTop (mkF m 3 #[.val (.ref b), .val (.int (Int32.ofNat (o + i))), .val (.ref d), .val (.int (Int32.ofNat (q + i))), .val (.int (Int32.ofNat len)), .val (.int (Int32.ofNat i)), z] [])) → ∃ (T' : State) (B' : Cell) (z' : Slot), Stand p l e { frames := 0, locals := 0, cells := 0, slots := 0 } s m #[.ref b, .int (Int32.ofNat o), .ref d, .int (Int32.ofNat q), .int (Int32.ofNat len)] below meth c T' ([] ++ copyLocs d q len) 0 0 ∧ Put d B' s₁ T' ∧ Laid B B' q (q + len) (fun j => Value.int (lo8 (cv A (o + (j - q))))) ∧
      Steps p.tables e below (s₁.setTop (entryFrame m #[.ref b, .int (Int32.ofNat o), .ref d, .int (Int32.ofNat q), .int (Int32.ofNat len)] 7)) (T'.setTop (mkF m 3 #[.val (.ref b), .val (.int (Int32.ofNat (o + len))), .val (.ref d), .val (.int (Int32.ofNat (q + len))), .val (.int (Int32.ofNat len)), .val (.int (Int32.ofNat len)), z'] [])) := by
    intro r
    induction r with
    | zero =>
      intro i hi z hz Tl Bk Xl pl fl cl
      have hil : i = len := by omega
      rw [hil] at Xl fl cl
      exact ⟨Tl, Bk, z, Xl, pl, fl, cl⟩
    | succ r ih =>
      intro i hi z hz Tl Bk Xl pl fl cl
      have all := X0.warmed.alike.symm.trans Xl.warmed.alike
      have hAl := hA0.keep all (pl.other hne hA0.1)
      have hBk := hB0.like all pl.1 fl.1 fl.2.1 fl.2.2.1
      have hlt : q + i < Bk.slots.size := by rw [fl.2.2.1]; omega
      have c3 : Steps p.tables e below (s₁.setTop (entryFrame m #[.ref b, .int (Int32.ofNat o), .ref d, .int (Int32.ofNat q), .int (Int32.ofNat len)] 7)) (Tl.setTop (mkF m 12 #[.val (.ref b), .val (.int (Int32.ofNat (o + i))), .val (.ref d), .val (.int (Int32.ofNat (q + i))), .val (.int (Int32.ofNat len)), .val (.int (Int32.ofNat i)), z] [.int (Int32.ofNat (o + i)), .ref b])) := cl.trans (by
        refine XS.iload Xl.here hexec rfl (hb hbytes d3) rfl ?_
        refine XS.iload Xl.here hexec rfl (hb hbytes d5) rfl ?_
        refine XS.icmpNo Xl.here hexec rfl (hb hbytes d7) rfl (ii_ge_f (lt32 (by omega) (by omega))) ?_
        refine XS.aloadN Xl.here hexec rfl (hb hbytes d10) rfl rfl ?_
        refine XS.iloadN Xl.here hexec rfl (hb hbytes d11) rfl ?_
        exact Steps.refl _)
      have c4 : Steps p.tables e below (s₁.setTop (entryFrame m #[.ref b, .int (Int32.ofNat o), .ref d, .int (Int32.ofNat q), .int (Int32.ofNat len)] 7)) (Tl.setTop (mkF m 13 #[.val (.ref b), .val (.int (Int32.ofNat (o + i))), .val (.ref d), .val (.int (Int32.ofNat (q + i))), .val (.int (Int32.ofNat len)), .val (.int (Int32.ofNat i)), z] [.int (cv A (o + i))])) := c3.trans (by
        refine Xl.aget hexec hAl rfl (hA.get (i := o + i) (by omega)) rfl rfl (hb hbytes d12) ?_
        exact Steps.refl _)
      have c5 : Steps p.tables e below (s₁.setTop (entryFrame m #[.ref b, .int (Int32.ofNat o), .ref d, .int (Int32.ofNat q), .int (Int32.ofNat len)] 7)) (Tl.setTop (mkF m 15 #[.val (.ref b), .val (.int (Int32.ofNat (o + i))), .val (.ref d), .val (.int (Int32.ofNat (q + i))), .val (.int (Int32.ofNat len)), .val (.int (Int32.ofNat i)), .val (.int (cv A (o + i)))] [])) := c4.trans (by
        refine XS.istoreS Xl.here hexec rfl (hb hbytes d13) rfl rfl hz ?_
        exact Steps.refl _)
      have c6 : Steps p.tables e below (s₁.setTop (entryFrame m #[.ref b, .int (Int32.ofNat o), .ref d, .int (Int32.ofNat q), .int (Int32.ofNat len)] 7)) (Tl.setTop (mkF m 31 #[.val (.ref b), .val (.int (Int32.ofNat (o + i))), .val (.ref d), .val (.int (Int32.ofNat (q + i))), .val (.int (Int32.ofNat len)), .val (.int (Int32.ofNat i)), .val (.int (cv A (o + i)))] [.int (lo8 (cv A (o + i))), .int (Int32.ofNat (q + i)), .ref d])) := c5.trans (by
        refine XS.iload Xl.here hexec rfl (hb hbytes d15) rfl ?_
        refine sipushV Xl.here hexec rfl 255 (hb hbytes d17) (by decide) ?_
        refine XS.icmpYes Xl.here hexec rfl (pc0 := 20) rfl (hb hbytes d20) rfl (ii_le_t (hp i (by omega))) (by decide) rfl ?_
        refine XS.aloadN Xl.here hexec rfl (hb hbytes d26) rfl rfl ?_
        refine XS.iloadN Xl.here hexec rfl (hb hbytes d27) rfl ?_
        refine XS.iload Xl.here hexec rfl (hb hbytes d28) rfl ?_
        refine i2b Xl.here hexec rfl (hb hbytes d30) rfl ?_
        exact Steps.refl _)
      obtain ⟨T7, X7, p7, st7⟩ := Xl.aput hexec hBk rfl hlt rfl (fits_lo8 (cv A (o + i))) (g := (mkF m 31 #[.val (.ref b), .val (.int (Int32.ofNat (o + i))), .val (.ref d), .val (.int (Int32.ofNat (q + i))), .val (.int (Int32.ofNat len)), .val (.int (Int32.ofNat i)), .val (.int (cv A (o + i)))] [.int (lo8 (cv A (o + i))), .int (Int32.ofNat (q + i)), .ref d])) rfl (rest := []) rfl (hb hbytes d31)
      have c8 : Steps p.tables e below (s₁.setTop (entryFrame m #[.ref b, .int (Int32.ofNat o), .ref d, .int (Int32.ofNat q), .int (Int32.ofNat len)] 7)) (T7.setTop (mkF m 32 #[.val (.ref b), .val (.int (Int32.ofNat (o + i))), .val (.ref d), .val (.int (Int32.ofNat (q + i))), .val (.int (Int32.ofNat len)), .val (.int (Int32.ofNat i)), .val (.int (cv A (o + i)))] [])) := c6.trans (st7 _ (Steps.refl _))
      have c9 : Steps p.tables e below (s₁.setTop (entryFrame m #[.ref b, .int (Int32.ofNat o), .ref d, .int (Int32.ofNat q), .int (Int32.ofNat len)] 7)) (T7.setTop (mkF m 3 #[.val (.ref b), .val (.int (Int32.ofNat (o + i) + 1)), .val (.ref d), .val (.int (Int32.ofNat (q + i) + 1)), .val (.int (Int32.ofNat len)), .val (.int (Int32.ofNat i + 1)), .val (.int (cv A (o + i)))] [])) := c8.trans (by
        refine iincV X7.here hexec rfl 1 (hb hbytes d32) (by decide) rfl rfl ?_
        refine iincV X7.here hexec rfl 1 (hb hbytes d35) (by decide) rfl rfl ?_
        refine iincV X7.here hexec rfl 1 (hb hbytes d38) (by decide) rfl rfl ?_
        refine XS.goto X7.here hexec rfl (pc0 := 41) rfl (hb hbytes d41) (by decide) rfl ?_
        exact Steps.refl _)
      have c10 : Steps p.tables e below (s₁.setTop (entryFrame m #[.ref b, .int (Int32.ofNat o), .ref d, .int (Int32.ofNat q), .int (Int32.ofNat len)] 7)) (T7.setTop (mkF m 3 #[.val (.ref b), .val (.int (Int32.ofNat (o + (i + 1)))), .val (.ref d), .val (.int (Int32.ofNat (q + (i + 1)))), .val (.int (Int32.ofNat len)), .val (.int (Int32.ofNat (i + 1))), .val (.int (cv A (o + i)))] [])) := by
        have := c9
        rw [succ32, succ32, succ32] at this
        exact this
      exact ih (i + 1) (by omega) _ (Or.inr ⟨_, rfl, rfl⟩) T7 _ (by rw [copyLocs_step, ← List.append_assoc]; exact X7) (pl.trans p7) (fl.step (by omega) hlt (by simp)) c10
  obtain ⟨T9, B9, z9, X9, p9, f9, g9⟩ := loop len 0 (by omega) .unset (Or.inl rfl) s₁ B (by simpa [copyLocs] using X0) ⟨hB0.1, fun _ _ => rfl, rfl⟩ (Laid.zero _ _ _) c2
  have c11 : Steps p.tables e below (s₁.setTop (entryFrame m #[.ref b, .int (Int32.ofNat o), .ref d, .int (Int32.ofNat q), .int (Int32.ofNat len)] 7)) (T9.setTop (mkF m 46 #[.val (.ref b), .val (.int (Int32.ofNat (o + len))), .val (.ref d), .val (.int (Int32.ofNat (q + len))), .val (.int (Int32.ofNat len)), .val (.int (Int32.ofNat len)), z9] [.int (Int32.ofNat len)])) := g9.trans (by
    refine XS.iload X9.here hexec rfl (hb hbytes d3) rfl ?_
    refine XS.iload X9.here hexec rfl (hb hbytes d5) rfl ?_
    refine XS.icmpYes X9.here hexec rfl (pc0 := 7) rfl (hb hbytes d7) rfl (ii_ge_t (nlt32 (by omega) (Nat.le_refl _))) (by decide) rfl ?_
    refine XS.iload X9.here hexec rfl (hb hbytes d44) rfl ?_
    exact Steps.refl _)
  exact ⟨T9, some (.int (Int32.ofNat len)), _, _, _, X9, by simp, rfl, rfl, (fun h => by cases h), ⟨rfl, B9, p9.from hh0, f9⟩, fun fs hl => c11.trans (X9.ireturnOut hexec hret rfl (Or.inl rfl) (hb hbytes d46) hl)⟩
end Cmp5
namespace Cmp3
def yN : MethodName := ⟨"java/lang/StringUTF16", "compress", "([CII)[B"⟩
abbrev yB : ByteArray := jdk_52_method_16_code
theorem d0 : decode yB 0 = .ok (.iload_n 2, 1) := by decide +kernel
theorem d1 : decode yB 1 = .ok (.newarray .byte, 2) := by decide +kernel
theorem d3 : decode yB 3 = .ok (.astore_n 3, 1) := by decide +kernel
theorem d4 : decode yB 4 = .ok (.aload_n 0, 1) := by decide +kernel
theorem d5 : decode yB 5 = .ok (.iload_n 1, 1) := by decide +kernel
theorem d6 : decode yB 6 = .ok (.aload_n 3, 1) := by decide +kernel
theorem d7 : decode yB 7 = .ok (.iconst 0, 1) := by decide +kernel
theorem d8 : decode yB 8 = .ok (.iload_n 2, 1) := by decide +kernel
theorem d9 : decode yB 9 = .ok (.invokestatic 115, 3) := by decide +kernel
theorem d12 : decode yB 12 = .ok (.istore 4, 2) := by decide +kernel
theorem d14 : decode yB 14 = .ok (.iload 4, 2) := by decide +kernel
theorem d16 : decode yB 16 = .ok (.iload_n 2, 1) := by decide +kernel
theorem d17 : decode yB 17 = .ok (.if_icmp (.eq) 40, 3) := by decide +kernel
theorem d57 : decode yB 57 = .ok (.aload_n 3, 1) := by decide +kernel
theorem d58 : decode yB 58 = .ok (.areturn, 1) := by decide +kernel
def site : List Cond := [.arrayClass .byte, Cmp5.tab] ++ staticW U16 115 Cmp5.yN
def tab : Cond := tabOf yN yB 6 (some (.array .byte)) site
def P (b : Addr) (A : Cell) (o len : Nat) (args : Array Value) (s : State) : Prop := args = #[.ref b, .int (Int32.ofNat o), .int (Int32.ofNat len)] ∧ Ch b A s ∧ o + len ≤ A.slots.size ∧ len ≤ 536870912 ∧ ∀ i, i < len → ¬ 255 < cv A (o + i)
def E (b : Addr) (A : Cell) (o len : Nat) (r : Option Value) (s u : State) : Prop := NewArr .byte "[B" len (fun j => .int (lo8 (cv A (o + j)))) r s u ∧ u.heap.size = s.heap.size + 1
/-- no char of the range above 255: a new byte[] of their low bytes -/
theorem law (l : Launch) (b : Addr) (A : Cell) (o len : Nat) : Law l yN 3 3 1 18 yB 6 (some (.array .byte)) site (P b A o len) (E b A o len) [] 1 len := by
  refine Law.of_walk (plainFor_of_name (by decide +kernel)) (by decide +kernel) (by decide +kernel) (by decide) (fun _ _ h => by rw [h.1]; rfl) (fun _ U U' hal hh h => ⟨h.1, h.2.1.mv hal hh, h.2.2⟩) (fun r U U' V V' h1 hal h2 h => ⟨NewArr.mv r U U' V V' h1 hal h2 h.1, by rw [h1, h2]; exact h.2⟩) ?_
  intro p e s m args below meth c s₁ X0 hexec hbytes hml hret hlk hnm hown hh0 W hP
  obtain ⟨rfl, hA, l1, l2, hp⟩ := hP
  have a31 := hA.1.2.2.2
  have c1 : Steps p.tables e below (s₁.setTop (entryFrame m #[.ref b, .int (Int32.ofNat o), .int (Int32.ofNat len)] 6)) (s₁.setTop (mkF m 0 #[.val (.ref b), .val (.int (Int32.ofNat o)), .val (.int (Int32.ofNat len)), .unset, .unset, .unset] [])) := entry rfl
  have c2 : Steps p.tables e below (s₁.setTop (entryFrame m #[.ref b, .int (Int32.ofNat o), .int (Int32.ofNat len)] 6)) (s₁.setTop (mkF m 1 #[.val (.ref b), .val (.int (Int32.ofNat o)), .val (.int (Int32.ofNat len)), .unset, .unset, .unset] [.int (Int32.ofNat len)])) := c1.trans (by
    refine XS.iloadN X0.here hexec rfl (hb hbytes d0) rfl ?_
    exact Steps.refl _)
  obtain ⟨T3, B3, X3, ba3, bs3, bv3, bh3, bf3, st3⟩ := X0.anew hexec (atype := .byte) (wk W (.arrayClass .byte)) rfl (by show len * 1 ≤ _; omega) (by omega) (g := (mkF m 1 #[.val (.ref b), .val (.int (Int32.ofNat o)), .val (.int (Int32.ofNat len)), .unset, .unset, .unset] [.int (Int32.ofNat len)])) rfl (hb hbytes d1) (rest := []) rfl (Nat.le_refl _) (by show 0 + len ≤ len; omega)
  rw [hh0] at ba3 st3
  have kp3 : XT.Kept s T3 := (XT.Kept.of_eq hh0).push bh3
  have hA3 := hA.keep X3.warmed.alike (kp3 _ _ hA.1.1)
  have hne : b ≠ s.heap.size := hA.1.ne
  have c4 : Steps p.tables e below (s₁.setTop (entryFrame m #[.ref b, .int (Int32.ofNat o), .int (Int32.ofNat len)] 6)) (T3.setTop (mkF m 3 #[.val (.ref b), .val (.int (Int32.ofNat o)), .val (.int (Int32.ofNat len)), .unset, .unset, .unset] [.ref s.heap.size])) := c2.trans (st3 _ (Steps.refl _))
  have c5 : Steps p.tables e below (s₁.setTop (entryFrame m #[.ref b, .int (Int32.ofNat o), .int (Int32.ofNat len)] 6)) (T3.setTop (mkF m 9 #[.val (.ref b), .val (.int (Int32.ofNat o)), .val (.int (Int32.ofNat len)), .val (.ref s.heap.size), .unset, .unset] [.int (Int32.ofNat len), .int 0, .ref s.heap.size, .int (Int32.ofNat o), .ref b])) := c4.trans (by
    refine XS.astoreN X3.here hexec rfl (hb hbytes d3) rfl rfl rfl ?_
    refine XS.aloadN X3.here hexec rfl (hb hbytes d4) rfl rfl ?_
    refine XS.iloadN X3.here hexec rfl (hb hbytes d5) rfl ?_
    refine XS.aloadN X3.here hexec rfl (hb hbytes d6) rfl rfl ?_
    refine iconstV X3.here hexec rfl 0 (hb hbytes d7) (by decide) ?_
    refine XS.iloadN X3.here hexec rfl (hb hbytes d8) rfl ?_
    exact Steps.refl _)
  obtain ⟨v6, T6, X6, E6, g6⟩ := X3.callS hexec (Cmp5.law l b A s.heap.size B3 o 0 len) hown (wks W (staticW U16 115 Cmp5.yN)) (wk W Cmp5.tab) (W := 0) (Nat.le_of_ble_eq_true rfl) (Nat.le_of_ble_eq_true rfl) (Nat.le_refl _) (by show 0 + len + 0 ≤ len; omega) (g := (mkF m 9 #[.val (.ref b), .val (.int (Int32.ofNat o)), .val (.int (Int32.ofNat len)), .val (.ref s.heap.size), .unset, .unset] [.int (Int32.ofNat len), .int (Int32.ofNat 0), .ref s.heap.size, .int (Int32.ofNat o), .ref b])) rfl (by rw [hml]; rfl) c5 (argsL := [.ref b, .int (Int32.ofNat o), .ref s.heap.size, .int (Int32.ofNat 0), .int (Int32.ofNat len)]) (rest := []) rfl rfl (by show 2 * 0 + 0 ≤ _; decide) (hb hbytes d9) (⟨rfl, hA3, ba3, hne, l1, by rw [bs3]; simp, hp⟩)
  obtain ⟨rfl, B6, p6, f6⟩ := E6
  have c7 : Steps p.tables e below (s₁.setTop (entryFrame m #[.ref b, .int (Int32.ofNat o), .int (Int32.ofNat len)] 6)) (T6.setTop (mkF m 12 #[.val (.ref b), .val (.int (Int32.ofNat o)), .val (.int (Int32.ofNat len)), .val (.ref s.heap.size), .unset, .unset] [.int (Int32.ofNat len)])) := g6
  have c8 : Steps p.tables e below (s₁.setTop (entryFrame m #[.ref b, .int (Int32.ofNat o), .int (Int32.ofNat len)] 6)) (T6.setTop (mkF m 58 #[.val (.ref b), .val (.int (Int32.ofNat o)), .val (.int (Int32.ofNat len)), .val (.ref s.heap.size), .val (.int (Int32.ofNat len)), .unset] [.ref s.heap.size])) := c7.trans (by
    refine XS.istore X6.here hexec rfl (hb hbytes d12) rfl rfl ?_
    refine XS.iload X6.here hexec rfl (hb hbytes d14) rfl ?_
    refine XS.iloadN X6.here hexec rfl (hb hbytes d16) rfl ?_
    refine XS.icmpYes X6.here hexec rfl (pc0 := 17) rfl (hb hbytes d17) rfl (ii_eq_t rfl) (by decide) rfl ?_
    refine XS.aloadN X6.here hexec rfl (hb hbytes d57) rfl rfl ?_
    exact Steps.refl _)
  have X8 := X6.wide (L' := []) (cells' := 1) (slots' := len) (fun x hx hlt => by
    simp only [List.nil_append, copyLocs, List.mem_map, List.mem_range] at hx
    obtain ⟨i, -, rfl⟩ := hx
    exact absurd hlt (Nat.lt_irrefl _)) (Nat.le_refl _) (by omega)
  exact ⟨T6, some (.ref s.heap.size), _, _, _, X8, rfl, rfl, rfl, (fun h => by cases h), ⟨⟨rfl, B6, ba3.like (X3.warmed.alike.symm.trans X6.warmed.alike) p6.1 f6.1 f6.2.1 f6.2.2.1, f6.2.1.trans bv3, by rw [X6.warmed.alike.findClass, f6.1]; exact bf3, by rw [f6.2.2.1, bs3]; simp, fun j hj => by rw [f6.2.2.2 j, if_pos (by omega)]; rfl, kp3.put p6 (Nat.le_refl _)⟩, by rw [p6.2.2, bh3, hh0]; simp⟩, fun fs hl => c8.trans (X8.areturnOut hexec rfl hret rfl (hb hbytes d58) hl)⟩
end Cmp3
namespace CodL
def yN : MethodName := ⟨"java/lang/StringUTF16", "coderFromArrayLen", "([BI)B"⟩
abbrev yB : ByteArray := jdk_52_method_15_code
theorem d0 : decode yB 0 = .ok (.iload_n 1, 1) := by decide +kernel
theorem d1 : decode yB 1 = .ok (.aload_n 0, 1) := by decide +kernel
theorem d2 : decode yB 2 = .ok (.arraylength, 1) := by decide +kernel
theorem d3 : decode yB 3 = .ok (.isub, 1) := by decide +kernel
theorem d4 : decode yB 4 = .ok (.bipush 31, 2) := by decide +kernel
theorem d6 : decode yB 6 = .ok (.iushr, 1) := by decide +kernel
theorem d7 : decode yB 7 = .ok (.i2b, 1) := by decide +kernel
theorem d8 : decode yB 8 = .ok (.ireturn, 1) := by decide +kernel
def site : List Cond := []
def tab : Cond := tabOf yN yB 2 (some .byte) site
def P (d : Addr) (B : Cell) (args : Array Value) (s : State) : Prop := args = #[.ref d, .int (Int32.ofNat B.slots.size)] ∧ Arr .byte d B s
def E (r : Option Value) (s u : State) : Prop := XT.PureE (some (.int 0)) r s u
/-- an array as long as the number of chars: LATIN1 -/
theorem law (l : Launch) (d : Addr) (B : Cell) : Law l yN 2 2 0 0 yB 2 (some .byte) site (P d B) E [] 0 0 := by
  refine Law.of_walk (plainFor_of_name (by decide +kernel)) (by decide +kernel) (by decide +kernel) (by decide) (fun _ _ h => by rw [h.1]; rfl) (fun _ U U' hal hh h => ⟨h.1, h.2.mv hal hh⟩) (fun r U U' V V' h1 hal h2 h => XT.PureE.mv r U U' V V' h1 hal h2 h) ?_
  intro p e s m args below meth c s₁ X0 hexec hbytes hml hret hlk hnm hown hh0 W hP
  obtain ⟨rfl, hB⟩ := hP
  have hB0 := hB.mv X0.warmed.alike hh0
  have c1 : Steps p.tables e below (s₁.setTop (entryFrame m #[.ref d, .int (Int32.ofNat B.slots.size)] 2)) (s₁.setTop (mkF m 0 #[.val (.ref d), .val (.int (Int32.ofNat B.slots.size))] [])) := entry rfl
  have c2 : Steps p.tables e below (s₁.setTop (entryFrame m #[.ref d, .int (Int32.ofNat B.slots.size)] 2)) (s₁.setTop (mkF m 2 #[.val (.ref d), .val (.int (Int32.ofNat B.slots.size))] [.ref d, .int (Int32.ofNat B.slots.size)])) := c1.trans (by
    refine XS.iloadN X0.here hexec rfl (hb hbytes d0) rfl ?_
    refine XS.aloadN X0.here hexec rfl (hb hbytes d1) rfl rfl ?_
    exact Steps.refl _)
  have c3 : Steps p.tables e below (s₁.setTop (entryFrame m #[.ref d, .int (Int32.ofNat B.slots.size)] 2)) (s₁.setTop (mkF m 8 #[.val (.ref d), .val (.int (Int32.ofNat B.slots.size))] [.int (lo8 (ushr (Int32.ofNat B.slots.size - Int32.ofNat B.slots.size) 31))])) := c2.trans (by
    refine X0.alen hexec hB0 rfl rfl (hb hbytes d2) ?_
    refine XS.isub X0.here hexec rfl (hb hbytes d3) rfl ?_
    refine bipushV X0.here hexec rfl 31 (hb hbytes d4) (by decide) ?_
    refine iushr X0.here hexec rfl (hb hbytes d6) rfl ?_
    refine i2b X0.here hexec rfl (hb hbytes d7) rfl ?_
    exact Steps.refl _)
  have e0 : lo8 (ushr (Int32.ofNat B.slots.size - Int32.ofNat B.slots.size) 31) = 0 := by rw [Int32.sub_self]; decide
  rw [e0] at c3
  exact ⟨s₁, some (.int 0), _, _, _, X0, rfl, rfl, rfl, (fun h => by cases h), ⟨rfl, hh0⟩, fun fs hl => c3.trans (X0.ireturnOut hexec hret rfl (Or.inr (Or.inr (Or.inl rfl))) (hb hbytes d8) hl)⟩
end CodL
/-- the String at a is Latin-1 over a new byte[] (the heap's one new cell): the low bytes of the len chars of A from o on; every cell but a is kept -/
def Got (a : Addr) (D : Cell) (fV fC : Field) (A : Cell) (o len : Nat) (r : Option Value) (s u : State) : Prop := r = none ∧ ∃ D' V : Cell, Blank "java/lang/String" a D' u ∧ Same D D' [fV.slot, fC.slot] ∧ D'.slots[fV.slot]? = some (.ref s.heap.size) ∧ D'.slots[fC.slot]? = some (.int 0) ∧ Arr .byte s.heap.size V u ∧ V.vm = .none ∧ u.vm.findClass "[B" = some V.cls ∧ V.slots.size = len ∧ (∀ j, j < len → V.slots[j]? = some (.int (lo8 (cv A (o + j))))) ∧ (∀ (y : Addr) (c : Cell), y ≠ a → s.heap[y]? = some c → u.heap[y]? = some c) ∧ u.heap.size = s.heap.size + 1
theorem Got.mv {a : Addr} {D A : Cell} {fV fC : Field} {o len : Nat} : ∀ r (U U' V V' : State), U'.heap = U.heap → V.vm.Alike V'.vm → V'.heap = V.heap → Got a D fV fC A o len r U V → Got a D fV fC A o len r U' V' :=
  fun r U U' V V' h1 hal h2 ⟨e0, D', X, a1, a2, a3, a4, a5, a6, a7, a8, a9, a10, a11⟩ => ⟨e0, D', X, a1.mv hal h2, a2, by rw [h1]; exact a3, a4, by rw [h1]; exact a5.mv hal h2, a6, by rw [hal.findClass]; exact a7, a8, a9, by rw [h1, h2]; exact a10, by rw [h1, h2]; exact a11⟩
namespace New4
def yN : MethodName := ⟨"java/lang/String", "<init>", "([CIILjava/lang/Void;)V"⟩
abbrev yB : ByteArray := jdk_42_method_149_code
theorem d0 : decode yB 0 = .ok (.aload_n 0, 1) := by decide +kernel
theorem d1 : decode yB 1 = .ok (.invokespecial 1, 3) := by decide +kernel
theorem d4 : decode yB 4 = .ok (.iload_n 3, 1) := by decide +kernel
theorem d5 : decode yB 5 = .ok (.ifCond (.ne) 22, 3) := by decide +kernel
theorem d27 : decode yB 27 = .ok (.getstatic 38, 3) := by decide +kernel
theorem d30 : decode yB 30 = .ok (.ifCond (.eq) 28, 3) := by decide +kernel
theorem d33 : decode yB 33 = .ok (.aload_n 1, 1) := by decide +kernel
theorem d34 : decode yB 34 = .ok (.iload_n 2, 1) := by decide +kernel
theorem d35 : decode yB 35 = .ok (.iload_n 3, 1) := by decide +kernel
theorem d36 : decode yB 36 = .ok (.invokestatic 177, 3) := by decide +kernel
theorem d39 : decode yB 39 = .ok (.astore 5, 2) := by decide +kernel
theorem d41 : decode yB 41 = .ok (.aload_n 0, 1) := by decide +kernel
theorem d42 : decode yB 42 = .ok (.aload 5, 2) := by decide +kernel
theorem d44 : decode yB 44 = .ok (.iload_n 3, 1) := by decide +kernel
theorem d45 : decode yB 45 = .ok (.invokestatic 47, 3) := by decide +kernel
theorem d48 : decode yB 48 = .ok (.putfield 15, 3) := by decide +kernel
theorem d51 : decode yB 51 = .ok (.aload_n 0, 1) := by decide +kernel
theorem d52 : decode yB 52 = .ok (.aload 5, 2) := by decide +kernel
theorem d54 : decode yB 54 = .ok (.putfield 9, 3) := by decide +kernel
theorem d57 : decode yB 57 = .ok (.return_, 1) := by decide +kernel
def site : List Cond := [.fieldLink "java/lang/String" 38 "java/lang/String" "COMPACT_STRINGS" "Z", Cmp3.tab, CodL.tab, .laysFinal "java/lang/String" "java/lang/String" "value" "[B", .fieldLink "java/lang/String" 9 "java/lang/String" "value" "[B", .laysFinal "java/lang/String" "java/lang/String" "coder" "B", .fieldLink "java/lang/String" 15 "java/lang/String" "coder" "B"] ++ objW "java/lang/String" 1 ++ staticW "java/lang/String" 177 Cmp3.yN ++ staticW "java/lang/String" 47 CodL.yN
def tab : Cond := tabOf yN yB 6 none site
def P (a : Addr) (D : Cell) (fV fC : Field) (b : Addr) (A : Cell) (z : Int32) (o len : Nat) (args : Array Value) (s : State) : Prop := args = #[.ref a, .ref b, .int (Int32.ofNat o), .int (Int32.ofNat len), .null] ∧ Blank "java/lang/String" a D s ∧ Found "java/lang/String" "value" "[B" fV s ∧ Found "java/lang/String" "coder" "B" fC s ∧ Ch b A s ∧ StaticIs s "java/lang/String" "COMPACT_STRINGS" "Z" (.int z) ∧ ¬ z = 0 ∧ 0 < len ∧ o + len ≤ A.slots.size ∧ len ≤ 536870912 ∧ ∀ i, i < len → ¬ 255 < cv A (o + i)
def E (a : Addr) (D : Cell) (fV fC : Field) (A : Cell) (o len : Nat) (r : Option Value) (s u : State) : Prop := Got a D fV fC A o len r s u
/-- len > 0, no char of the range above 255: a Latin-1 String of their low bytes -/
theorem law (l : Launch) (a : Addr) (D : Cell) (fV fC : Field) (b : Addr) (A : Cell) (z : Int32) (o len : Nat) : Law l yN 5 4 2 35 yB 6 none site (P a D fV fC b A z o len) (E a D fV fC A o len) [⟨a, fC.slot⟩, ⟨a, fV.slot⟩] 1 len := by
  refine Law.of_walk (plainFor_of_name (by decide +kernel)) (by decide +kernel) (by decide +kernel) (by decide) (fun _ _ h => by rw [h.1]; rfl) (fun _ U U' hal hh h => ⟨h.1, h.2.1.mv hal hh, h.2.2.1.al hal, h.2.2.2.1.al hal, h.2.2.2.2.1.mv hal hh, h.2.2.2.2.2.1.there hal hh, h.2.2.2.2.2.2⟩) (fun r U U' V V' h1 hal h2 h => Got.mv r U U' V V' h1 hal h2 h) ?_
  intro p e s m args below meth c s₁ X0 hexec hbytes hml hret hlk hnm hown hh0 W hP
  obtain ⟨rfl, hB, f1, f2, hA, s1, hz, l0, l1, l2, hp⟩ := hP
  have a31 := hA.1.2.2.2
  have c1 : Steps p.tables e below (s₁.setTop (entryFrame m #[.ref a, .ref b, .int (Int32.ofNat o), .int (Int32.ofNat len), .null] 6)) (s₁.setTop (mkF m 0 #[.val (.ref a), .val (.ref b), .val (.int (Int32.ofNat o)), .val (.int (Int32.ofNat len)), .val .null, .unset] [])) := entry rfl
  have c2 : Steps p.tables e below (s₁.setTop (entryFrame m #[.ref a, .ref b, .int (Int32.ofNat o), .int (Int32.ofNat len), .null] 6)) (s₁.setTop (mkF m 1 #[.val (.ref a), .val (.ref b), .val (.int (Int32.ofNat o)), .val (.int (Int32.ofNat len)), .val .null, .unset] [.ref a])) := c1.trans (by
    refine XS.aloadN X0.here hexec rfl (hb hbytes d0) rfl rfl ?_
    exact Steps.refl _)
  obtain ⟨T3, X3, q3, st3⟩ := X0.oinit hexec hown (wks W (objW "java/lang/String" 1)) (g := (mkF m 1 #[.val (.ref a), .val (.ref b), .val (.int (Int32.ofNat o)), .val (.int (Int32.ofNat len)), .val .null, .unset] [.ref a])) rfl (by rw [hml]; rfl) (rest := []) rfl (hb hbytes d1) (W := 0) (by show 2 * 0 + 0 ≤ _; decide) (Nat.le_of_ble_eq_true rfl) (Nat.le_of_ble_eq_true rfl)
  have hh3 := q3.trans hh0
  have c4 : Steps p.tables e below (s₁.setTop (entryFrame m #[.ref a, .ref b, .int (Int32.ofNat o), .int (Int32.ofNat len), .null] 6)) (T3.setTop (mkF m 27 #[.val (.ref a), .val (.ref b), .val (.int (Int32.ofNat o)), .val (.int (Int32.ofNat len)), .val .null, .unset] [])) := (c2.trans (st3 _ (Steps.refl _))).trans (by
    refine XS.iloadN X3.here hexec rfl (hb hbytes d4) rfl ?_
    refine XS.ifYes X3.here hexec rfl (pc0 := 5) rfl (hb hbytes d5) rfl (i0_ne_t (nz32 (by omega) l0)) (by decide) rfl ?_
    exact Steps.refl _)
  obtain ⟨T5, X5, q5, st5⟩ := X3.sget hexec hown (wk W (.fieldLink "java/lang/String" 38 "java/lang/String" "COMPACT_STRINGS" "Z")) s1 (fun _ _ h => by rw [hh3]; exact h) (g := (mkF m 27 #[.val (.ref a), .val (.ref b), .val (.int (Int32.ofNat o)), .val (.int (Int32.ofNat len)), .val .null, .unset] [])) rfl (hb hbytes d27)
  have hh5 := q5.trans hh3
  have c6 : Steps p.tables e below (s₁.setTop (entryFrame m #[.ref a, .ref b, .int (Int32.ofNat o), .int (Int32.ofNat len), .null] 6)) (T5.setTop (mkF m 30 #[.val (.ref a), .val (.ref b), .val (.int (Int32.ofNat o)), .val (.int (Int32.ofNat len)), .val .null, .unset] [.int z])) := c4.trans (st5 _ (Steps.refl _))
  have c7 : Steps p.tables e below (s₁.setTop (entryFrame m #[.ref a, .ref b, .int (Int32.ofNat o), .int (Int32.ofNat len), .null] 6)) (T5.setTop (mkF m 36 #[.val (.ref a), .val (.ref b), .val (.int (Int32.ofNat o)), .val (.int (Int32.ofNat len)), .val .null, .unset] [.int (Int32.ofNat len), .int (Int32.ofNat o), .ref b])) := c6.trans (by
    refine XS.ifNo X5.here hexec rfl (hb hbytes d30) rfl (i0_eq_f hz) ?_
    refine XS.aloadN X5.here hexec rfl (hb hbytes d33) rfl rfl ?_
    refine XS.iloadN X5.here hexec rfl (hb hbytes d34) rfl ?_
    refine XS.iloadN X5.here hexec rfl (hb hbytes d35) rfl ?_
    exact Steps.refl _)
  obtain ⟨v8, T8, X8, E8, g8⟩ := X5.callS hexec (Cmp3.law l b A o len) hown (wks W (staticW "java/lang/String" 177 Cmp3.yN)) (wk W Cmp3.tab) (W := 0) (Nat.le_of_ble_eq_true rfl) (Nat.le_of_ble_eq_true rfl) (Nat.le_refl _) (by show 0 + len ≤ len; omega) (g := (mkF m 36 #[.val (.ref a), .val (.ref b), .val (.int (Int32.ofNat o)), .val (.int (Int32.ofNat len)), .val .null, .unset] [.int (Int32.ofNat len), .int (Int32.ofNat o), .ref b])) rfl (by rw [hml]; rfl) c7 (argsL := [.ref b, .int (Int32.ofNat o), .int (Int32.ofNat len)]) (rest := []) rfl rfl (by show 2 * 0 + 0 ≤ _; decide) (hb hbytes d36) (⟨rfl, hA.mv X5.warmed.alike hh5, l1, l2, hp⟩)
  obtain ⟨e8, z8⟩ := E8
  obtain ⟨rfl, N, n1, n2, n3, n4, n5, n6⟩ := NewArr.mv _ T5 s _ _ hh5.symm (Vm.Alike.refl _) rfl e8
  rw [hh5] at z8
  have hB1 := hB.keep X8.warmed.alike (n6 _ _ hB.1)
  have hne : s.heap.size ≠ a := (Nat.ne_of_lt (Array.getElem?_eq_some_iff.mp hB.1).1).symm
  have c9 : Steps p.tables e below (s₁.setTop (entryFrame m #[.ref a, .ref b, .int (Int32.ofNat o), .int (Int32.ofNat len), .null] 6)) (T8.setTop (mkF m 39 #[.val (.ref a), .val (.ref b), .val (.int (Int32.ofNat o)), .val (.int (Int32.ofNat len)), .val .null, .unset] [.ref s.heap.size])) := g8
  have c10 : Steps p.tables e below (s₁.setTop (entryFrame m #[.ref a, .ref b, .int (Int32.ofNat o), .int (Int32.ofNat len), .null] 6)) (T8.setTop (mkF m 45 #[.val (.ref a), .val (.ref b), .val (.int (Int32.ofNat o)), .val (.int (Int32.ofNat len)), .val .null, .val (.ref s.heap.size)] [.int (Int32.ofNat N.slots.size), .ref s.heap.size, .ref a])) := by
    have hc : Steps p.tables e below (s₁.setTop (entryFrame m #[.ref a, .ref b, .int (Int32.ofNat o), .int (Int32.ofNat len), .null] 6)) (T8.setTop (mkF m 45 #[.val (.ref a), .val (.ref b), .val (.int (Int32.ofNat o)), .val (.int (Int32.ofNat len)), .val .null, .val (.ref s.heap.size)] [.int (Int32.ofNat len), .ref s.heap.size, .ref a])) := c9.trans (by
      refine XS.astore X8.here hexec rfl (hb hbytes d39) rfl rfl rfl ?_
      refine XS.aloadN X8.here hexec rfl (hb hbytes d41) rfl rfl ?_
      refine XS.aload X8.here hexec rfl (hb hbytes d42) rfl rfl ?_
      refine XS.iloadN X8.here hexec rfl (hb hbytes d44) rfl ?_
      exact Steps.refl _)
    rw [n4]; exact hc
  obtain ⟨v11, T11, X11, E11, g11⟩ := X8.callS hexec (CodL.law l s.heap.size N) hown (wks W (staticW "java/lang/String" 47 CodL.yN)) (wk W CodL.tab) (W := 1) (Nat.le_of_ble_eq_true rfl) (Nat.le_of_ble_eq_true rfl) (Nat.le_refl _) (by show 0 + len + 0 ≤ len; omega) (g := (mkF m 45 #[.val (.ref a), .val (.ref b), .val (.int (Int32.ofNat o)), .val (.int (Int32.ofNat len)), .val .null, .val (.ref s.heap.size)] [.int (Int32.ofNat N.slots.size), .ref s.heap.size, .ref a])) rfl (by rw [hml]; rfl) c10 (argsL := [.ref s.heap.size, .int (Int32.ofNat N.slots.size)]) (rest := [.ref a]) rfl rfl (by show 2 * 0 + (1 + 0) ≤ _; decide) (hb hbytes d45) (⟨rfl, n1⟩)
  obtain ⟨rfl, q11⟩ := E11
  have hB11 := hB1.mv (X8.warmed.alike.symm.trans X11.warmed.alike) q11
  have c12 : Steps p.tables e below (s₁.setTop (entryFrame m #[.ref a, .ref b, .int (Int32.ofNat o), .int (Int32.ofNat len), .null] 6)) (T11.setTop (mkF m 48 #[.val (.ref a), .val (.ref b), .val (.int (Int32.ofNat o)), .val (.int (Int32.ofNat len)), .val .null, .val (.ref s.heap.size)] [.int 0, .ref a])) := g11
  obtain ⟨T13, X13, p13, bl13, sl13, st13⟩ := X11.finit hexec hown (wk W (.fieldLink "java/lang/String" 15 "java/lang/String" "coder" "B")) (Or.inr ⟨_, (wk W (.laysFinal "java/lang/String" "java/lang/String" "coder" "B"))⟩) (Or.inl ⟨rfl, hnm⟩) f2 (Or.inl rfl) hB11 (t := .byte) (by decide +kernel) rfl (g := (mkF m 48 #[.val (.ref a), .val (.ref b), .val (.int (Int32.ofNat o)), .val (.int (Int32.ofNat len)), .val .null, .val (.ref s.heap.size)] [.int 0, .ref a])) rfl (rest := []) rfl (hb hbytes d48)
  have c14 : Steps p.tables e below (s₁.setTop (entryFrame m #[.ref a, .ref b, .int (Int32.ofNat o), .int (Int32.ofNat len), .null] 6)) (T13.setTop (mkF m 54 #[.val (.ref a), .val (.ref b), .val (.int (Int32.ofNat o)), .val (.int (Int32.ofNat len)), .val .null, .val (.ref s.heap.size)] [.ref s.heap.size, .ref a])) := (c12.trans (st13 _ (Steps.refl _))).trans (by
    refine XS.aloadN X13.here hexec rfl (hb hbytes d51) rfl rfl ?_
    refine XS.aload X13.here hexec rfl (hb hbytes d52) rfl rfl ?_
    exact Steps.refl _)
  obtain ⟨T15, X15, p15, bl15, sl15, st15⟩ := X13.finit hexec hown (wk W (.fieldLink "java/lang/String" 9 "java/lang/String" "value" "[B")) (Or.inr ⟨_, (wk W (.laysFinal "java/lang/String" "java/lang/String" "value" "[B"))⟩) (Or.inl ⟨rfl, hnm⟩) f1 (Or.inl rfl) bl13 (t := (.array .byte)) (by decide +kernel) rfl (g := (mkF m 54 #[.val (.ref a), .val (.ref b), .val (.int (Int32.ofNat o)), .val (.int (Int32.ofNat len)), .val .null, .val (.ref s.heap.size)] [.ref s.heap.size, .ref a])) rfl (rest := []) rfl (hb hbytes d54)
  have c16 : Steps p.tables e below (s₁.setTop (entryFrame m #[.ref a, .ref b, .int (Int32.ofNat o), .int (Int32.ofNat len), .null] 6)) (T15.setTop (mkF m 57 #[.val (.ref a), .val (.ref b), .val (.int (Int32.ofNat o)), .val (.int (Int32.ofNat len)), .val .null, .val (.ref s.heap.size)] [])) := c14.trans (st15 _ (Steps.refl _))
  have ap := apart (Or.inr ⟨_, (wk W (.laysFinal "java/lang/String" "java/lang/String" "value" "[B"))⟩) (Or.inr ⟨_, (wk W (.laysFinal "java/lang/String" "java/lang/String" "coder" "B"))⟩) f1 f2 (t₁ := .array .byte) (t₂ := .byte) (by decide +kernel) (by decide +kernel) (by decide)
  have al := X8.warmed.alike.symm.trans X15.warmed.alike
  have n7 : T11.heap[s.heap.size]? = some N := by rw [q11]; exact n1.1
  exact ⟨T15, none, _, _, _, X15, by simp, rfl, by omega, (fun _ => rfl), ⟨rfl, _, N, bl15, ((Same.refl D _).set _ (by simp)).set _ (by simp), sl15, (Cell.slots_setSlot_ne _ ap).trans sl13, n1.keep al (p15.other hne (p13.other hne n7)), n2, by rw [al.findClass]; exact n3, n4, n5, fun y c h1 h2 => p15.other h1 (p13.other h1 (by rw [q11]; exact n6 y c h2)), by rw [p15.2.2, p13.2.2, q11]; exact z8⟩, fun fs hl => c16.trans (X15.returnOut hexec hret (hb hbytes d57) hl)⟩
end New4
namespace New1
def yN : MethodName := ⟨"java/lang/String", "<init>", "([C)V"⟩
abbrev yB : ByteArray := jdk_42_method_3_code
theorem d0 : decode yB 0 = .ok (.aload_n 0, 1) := by decide +kernel
theorem d1 : decode yB 1 = .ok (.aload_n 1, 1) := by decide +kernel
theorem d2 : decode yB 2 = .ok (.iconst 0, 1) := by decide +kernel
theorem d3 : decode yB 3 = .ok (.aload_n 1, 1) := by decide +kernel
theorem d4 : decode yB 4 = .ok (.arraylength, 1) := by decide +kernel
theorem d5 : decode yB 5 = .ok (.aconst_null, 1) := by decide +kernel
theorem d6 : decode yB 6 = .ok (.invokespecial 27, 3) := by decide +kernel
theorem d9 : decode yB 9 = .ok (.return_, 1) := by decide +kernel
def site : List Cond := [New4.tab] ++ initW "java/lang/String" 27 New4.yN
def tab : Cond := tabOf yN yB 2 none site
def P (a : Addr) (D : Cell) (fV fC : Field) (b : Addr) (A : Cell) (z : Int32) (args : Array Value) (s : State) : Prop := args = #[.ref a, .ref b] ∧ Blank "java/lang/String" a D s ∧ Found "java/lang/String" "value" "[B" fV s ∧ Found "java/lang/String" "coder" "B" fC s ∧ Ch b A s ∧ StaticIs s "java/lang/String" "COMPACT_STRINGS" "Z" (.int z) ∧ ¬ z = 0 ∧ 0 < A.slots.size ∧ A.slots.size ≤ 536870912 ∧ ∀ i, i < A.slots.size → ¬ 255 < cv A i
def E (a : Addr) (D : Cell) (fV fC : Field) (A : Cell) (r : Option Value) (s u : State) : Prop := Got a D fV fC A 0 A.slots.size r s u
/-- new String(chars), not empty, no char above 255: a Latin-1 String of their low bytes -/
theorem law (l : Launch) (a : Addr) (D : Cell) (fV fC : Field) (b : Addr) (A : Cell) (z : Int32) : Law l yN 2 1 3 52 yB 2 none site (P a D fV fC b A z) (E a D fV fC A) [⟨a, fC.slot⟩, ⟨a, fV.slot⟩] 1 A.slots.size := by
  refine Law.of_walk (plainFor_of_name (by decide +kernel)) (by decide +kernel) (by decide +kernel) (by decide) (fun _ _ h => by rw [h.1]; rfl) (fun _ U U' hal hh h => ⟨h.1, h.2.1.mv hal hh, h.2.2.1.al hal, h.2.2.2.1.al hal, h.2.2.2.2.1.mv hal hh, h.2.2.2.2.2.1.there hal hh, h.2.2.2.2.2.2⟩) (fun r U U' V V' h1 hal h2 h => Got.mv r U U' V V' h1 hal h2 h) ?_
  intro p e s m args below meth c s₁ X0 hexec hbytes hml hret hlk hnm hown hh0 W hP
  obtain ⟨rfl, hB, f1, f2, hA, s1, hz, l0, l2, hp⟩ := hP
  have c1 : Steps p.tables e below (s₁.setTop (entryFrame m #[.ref a, .ref b] 2)) (s₁.setTop (mkF m 0 #[.val (.ref a), .val (.ref b)] [])) := entry rfl
  have c2 : Steps p.tables e below (s₁.setTop (entryFrame m #[.ref a, .ref b] 2)) (s₁.setTop (mkF m 6 #[.val (.ref a), .val (.ref b)] [.null, .int (Int32.ofNat A.slots.size), .int 0, .ref b, .ref a])) := c1.trans (by
    refine XS.aloadN X0.here hexec rfl (hb hbytes d0) rfl rfl ?_
    refine XS.aloadN X0.here hexec rfl (hb hbytes d1) rfl rfl ?_
    refine iconstV X0.here hexec rfl 0 (hb hbytes d2) (by decide) ?_
    refine XS.aloadN X0.here hexec rfl (hb hbytes d3) rfl rfl ?_
    refine X0.alen hexec (hA.1.mv X0.warmed.alike hh0) rfl rfl (hb hbytes d4) ?_
    refine XS.aconstNull X0.here hexec rfl (hb hbytes d5) ?_
    exact Steps.refl _)
  obtain ⟨v3, T3, X3, E3, g3⟩ := X0.callN hexec (New4.law l a D fV fC b A z 0 A.slots.size) rfl hown (wks W (initW "java/lang/String" 27 New4.yN)) (W New4.tab (by simp only [site, List.mem_cons, List.mem_append, true_or, or_true])) (W := 0) (Nat.le_of_ble_eq_true rfl) (Nat.le_of_ble_eq_true rfl) (Nat.le_refl _) (by show 0 + A.slots.size ≤ A.slots.size; omega) (g := (mkF m 6 #[.val (.ref a), .val (.ref b)] [.null, .int (Int32.ofNat A.slots.size), .int (Int32.ofNat 0), .ref b, .ref a])) rfl (by rw [hml]; rfl) c2 (argsL := [.ref b, .int (Int32.ofNat 0), .int (Int32.ofNat A.slots.size), .null]) (rest := []) rfl rfl (by show 2 * 0 + 0 ≤ _; decide) (hb hbytes d6) (⟨rfl, hB.mv X0.warmed.alike hh0, f1.al X0.warmed.alike, f2.al X0.warmed.alike, hA.mv X0.warmed.alike hh0, s1.there X0.warmed.alike hh0, hz, l0, by omega, l2, fun i hi => by rw [Nat.zero_add]; exact hp i hi⟩)
  have e0 := Got.mv _ s₁ s _ _ hh0.symm (Vm.Alike.refl _) rfl E3
  obtain rfl := e0.1
  have c4 : Steps p.tables e below (s₁.setTop (entryFrame m #[.ref a, .ref b] 2)) (T3.setTop (mkF m 9 #[.val (.ref a), .val (.ref b)] [])) := g3
  exact ⟨T3, none, _, _, _, X3, by simp, rfl, by omega, (fun _ => rfl), e0, fun fs hl => c4.trans (X3.returnOut hexec hret (hb hbytes d9) hl)⟩
theorem pays {l : Launch} {R : Room} {p : Program} {e : Env} {below : List Frame} {s : State} {sargs : Array Value} {len W : Nat} (a : Addr) (D : Cell) (fV fC : Field) (b : Addr) (A : Cell) (z : Int32) (htab : tab.before sargs s = true) (hfr : 4 ≤ R.frames) (hlo : W + 65 ≤ R.locals) :
    Back l R p e below s sargs yN len W (fun A₁ a₁ => A₁.cells + 1 ≤ R.cells ∧ A₁.slots + A.slots.size ≤ R.slots ∧ P a D fV fC b A z a₁ A₁.U) (fun A₁ _ v₁ B₁ => E a D fV fC A v₁ A₁.U B₁.U ∧ B₁.locs = A₁.locs ++ [⟨a, fC.slot⟩, ⟨a, fV.slot⟩] ∧ B₁.cells = A₁.cells + 1 ∧ B₁.slots = A₁.slots + A.slots.size) :=
  (law l a D fV fC b A z).pays htab hfr (by omega)
end New1
/-- the byte, read back as charAt reads it, is the char -/
theorem lo8_mask {x : Int32} (h0 : ¬ x < 0) (h1 : ¬ 255 < x) : lo8 x &&& 255 = x := by
  have t : ∀ k : Fin 256, lo8 (Int32.ofNat k.val) &&& 255 = Int32.ofNat k.val := by decide +kernel
  rw [Int32.lt_iff_toInt_lt] at h0 h1
  have e0 : (0 : Int32).toInt = 0 := rfl
  have e1 : (255 : Int32).toInt = 255 := rfl
  obtain ⟨k, hk⟩ : ∃ k : Nat, x.toInt = k := ⟨x.toInt.toNat, by omega⟩
  have hx : x = Int32.ofNat k := Int32.toInt_inj.mp (by rw [hk, Int32.toInt_ofNat_small (by omega)])
  rw [hx]
  exact t ⟨k, by omega⟩
end StrChars
namespace StrChars.Road
open Jvm Sem ClassFile Op Lib Jvm.Stand Jvm.Free Jvm.Free.XT
open Jvm.Lib.Cold (StaticIs)
abbrev ST : String := "java/lang/String"
/-- every table word that New1's law asks, flat -/
abbrev words : List Jvm.Cond := [.code New1.yN New1.yB 2 none, .initialized ST, .methodLink ST 27 New4.yN, .instanceMethod New4.yN,
  .code New4.yN New4.yB 6 none, .fieldLink ST 38 ST "COMPACT_STRINGS" "Z", .laysFinal ST ST "value" "[B", .fieldLink ST 9 ST "value" "[B", .laysFinal ST ST "coder" "B", .fieldLink ST 15 ST "coder" "B",
  .methodLink ST 1 Lib.objectInit, .instanceMethod Lib.objectInit, .code Lib.objectInit ⟨#[0xb1]⟩ 1 none, .methodLink ST 177 Cmp3.yN, .static Cmp3.yN, .methodLink ST 47 CodL.yN, .static CodL.yN,
  .code Cmp3.yN Cmp3.yB 6 (some (.array .byte)), .initialized U16, .arrayClass .byte, .methodLink U16 115 Cmp5.yN, .static Cmp5.yN, .code Cmp5.yN Cmp5.yB 7 (some .int), .code CodL.yN CodL.yB 2 (some .byte)]
theorem tab_of {a : Array Value} {s : State} (h : ∀ w ∈ words, w.before a s = true) : New1.tab.before a s = true := by
  have h5 : Cmp5.tab.before a s = true := unparts (wk h (.code Cmp5.yN Cmp5.yB 7 (some .int))) (wks h (.initialized Cmp5.yN.cls :: Cmp5.site))
  have hc : CodL.tab.before a s = true := unparts (wk h (.code CodL.yN CodL.yB 2 (some .byte))) (wks h (.initialized CodL.yN.cls :: CodL.site))
  have q5 : ∀ w ∈ Cmp5.tab :: words, w.before a s = true := fun w hw => (List.mem_cons.mp hw).elim (fun e => e ▸ h5) (h w)
  have h3 : Cmp3.tab.before a s = true := unparts (wk q5 (.code Cmp3.yN Cmp3.yB 6 (some (.array .byte)))) (wks q5 (.initialized Cmp3.yN.cls :: Cmp3.site))
  have q3 : ∀ w ∈ Cmp3.tab :: CodL.tab :: words, w.before a s = true := fun w hw => (List.mem_cons.mp hw).elim (fun e => e ▸ h3) fun hw => (List.mem_cons.mp hw).elim (fun e => e ▸ hc) (h w)
  have h4 : New4.tab.before a s = true := unparts (wk q3 (.code New4.yN New4.yB 6 none)) (wks q3 (.initialized New4.yN.cls :: New4.site))
  have q4 : ∀ w ∈ New4.tab :: words, w.before a s = true := fun w hw => (List.mem_cons.mp hw).elim (fun e => e ▸ h4) (h w)
  exact unparts (wk q4 (.code New1.yN New1.yB 2 none)) (wks q4 (.initialized New1.yN.cls :: New1.site))
/-- the words ride from the start Z to the walk's own state -/
theorem moved {Z s : State} {a0 args : Array Value} (hZ : Z.Warmed39 s.vm) (hw : ∀ d ∈ words, d.before a0 Z = true) : ∀ d ∈ words, d.before args s = true := fun d hd => by
  have q := hw d hd
  have t : ∀ d ∈ words, d = .arrayClass .byte ∨ (d.onTables && d.keepsFace) = true := by decide +kernel
  rcases t d hd with rfl | t
  · exact RoadKit.mvA hZ q
  · exact RoadKit.mv hZ q t
/-- WHAT COMES BACK, over the tables of the start Z: h the heap at the call, h' behind it -/
def Q (Z : State) (x : Addr) (A : Cell) (h : Heap) (v : Option Value) (h' : Heap) (L : List Loc) : Prop := v = none ∧ (∀ y ∈ L, y.base = x) ∧ RoadKit.Keep h h' [x] ∧ h'.size = h.size + 1 ∧ RoadKit.Exa Z h' x ST ∧ RoadKit.Fld Z h' x ST "value" "[B" (.ref h.size) ∧ RoadKit.Fld Z h' x ST "coder" "B" (.int 0) ∧
  (∃ V : Cell, RoadKit.Arr Z h' h.size V .byte ∧ V.vm = .none ∧ Z.vm.findClass "[B" = some V.cls ∧ V.slots.size = A.slots.size ∧ ∀ j, j < A.slots.size → V.slots[j]? = some (.int (lo8 (cv A j)))) ∧
  ∀ (O n d : String) (w : Value), RoadKit.Fld Z h x O n d w → RoadKit.slotOf Z O n d ≠ RoadKit.slotOf Z ST "value" "[B" → RoadKit.slotOf Z O n d ≠ RoadKit.slotOf Z ST "coder" "B" → RoadKit.Fld Z h' x O n d w
/-- **new String(chars) AT A CALL, IN THE ROAD'S FORM**: for specialBack behind newO: x the fresh String, b the char[] with the cell A -/
theorem back {p : Program} {l : Launch} {e : Env} {R : Room} {s : State} {args : Array Value} {below : List Frame} {len W : Nat} {Z : State} {a0 : Array Value} {h : Heap} (hZ : Z.Warmed39 s.vm) (hw : ∀ d ∈ words, d.before a0 Z = true) {kI : Nat} (wi : (Jvm.Cond.instantiable ST kI).before a0 Z = true)
    {x b : Addr} {A : Cell} {z : Int32} {v0 c0 : Value} (E : RoadKit.Exa Z h x ST) (V : RoadKit.Fld Z h x ST "value" "[B" v0) (C : RoadKit.Fld Z h x ST "coder" "B" c0) (K : RoadKit.Arr Z h b A .char) (hty : Typed .char A) (S : RoadKit.Sta Z h ST "COMPACT_STRINGS" "Z" (.int z)) (hz : ¬ z = 0)
    (l0 : 0 < A.slots.size) (l2 : A.slots.size ≤ 536870912) (hp : ∀ i, i < A.slots.size → ¬ 255 < cv A i) (hfr : 4 ≤ R.frames) (hlo : W + 65 ≤ R.locals) :
    Back l R p e below s args New1.yN len W (fun P a => a = #[.ref x, .ref b] ∧ P.U.heap = h ∧ P.cells + 1 ≤ R.cells ∧ P.slots + A.slots.size ≤ R.slots)
      (fun P _ v B => ∃ L, Q Z x A h v B.U.heap L ∧ B.locs = P.locs ++ L ∧ B.cells = P.cells + 1 ∧ B.slots = P.slots + A.slots.size) := by
  intro m meth c P g ig mk a X hg hsize hdg hW hn hp'
  obtain ⟨rfl, rfl, r1, r2⟩ := hp'
  have al : Z.vm.Alike P.U.vm := hZ.alike.trans X.warmed.alike
  obtain ⟨D, cfV, kV, iV, fV, hD, gV, stV, knV, obV, asV, slV⟩ := id V
  obtain ⟨D', cfC, kC, iC, fC, hD', gC, stC, -, -, asC, slC⟩ := id C
  cases hD.symm.trans hD'
  obtain ⟨D2, kD, e1, e2, e3, e4, e5⟩ := id E
  cases hD.symm.trans e1
  obtain ⟨c2, k2, i1, i2, i3, -⟩ := Cond.instantiable_spec wi
  cases e2.symm.trans i1
  cases e3.symm.trans i2
  obtain ⟨kU, u1, u2⟩ := al.2.2 _ _ e3
  have hB : Blank ST x D P.U := ⟨hD, ⟨knV, fun q hq => by rw [hq] at obV; cases obV⟩, by rw [al.findClass]; exact e2, kU, u1, by rw [u2]; exact i3, by rw [u2]; exact e5 i3⟩
  have F1 : Found ST "value" "[B" fV P.U := ⟨SBG.found_only al ⟨cfV, kV, iV, gV⟩, stV⟩
  have F2 : Found ST "coder" "B" fC P.U := ⟨SBG.found_only al ⟨cfC, kC, iC, gC⟩, stC⟩
  have hA : Ch b A P.U := ⟨⟨K.1, State.isArrayOf_alike al K.2.1, K.2.2, by omega⟩, hty⟩
  have hS : StaticIs P.U ST "COMPACT_STRINGS" "Z" (.int z) := by
    obtain ⟨cfS, iS, kS, fS, st, cS, t1, t2, t3, t4, t5, t6, t7⟩ := S
    exact StaticIs.there (s := { Z with heap := P.U.heap }) ⟨cfS, iS, kS, fS, st, cS, t1, t2, t3, t4, t5, (fun q => by rw [q] at t6; cases t6), t7⟩ al rfl
  obtain ⟨v, B, X', ⟨⟨hv, E', V', q1, q2, q3, q4, q5, q6, q7, q8, q9, q10, q11⟩, hl, hc, hs⟩, st⟩ := New1.pays x D fV fC b A z (tab_of (moved hZ hw)) hfr hlo m meth c P g ig mk _ X hg hsize hdg hW hn ⟨r1, r2, rfl, hB, F1, F2, hA, hS, hz, l0, l2, hp⟩
  have al' : Z.vm.Alike B.U.vm := hZ.alike.trans X'.warmed.alike
  have hsz : E'.slots.size = D.slots.size := by
    obtain ⟨-, -, -, kB, w1, w2, w3⟩ := q1
    obtain ⟨kB', y1, y2⟩ := al'.2.2 _ _ e3
    rw [q2.2.1] at w1
    cases w1.symm.trans y1
    rw [w3, e5 i3, y2]
  refine ⟨v, B, X', ⟨_, ⟨hv, ?_, ⟨by omega, fun y cy hy hn' => q10 y cy (by simpa using hn') hy, fun y cy hy => ?_⟩, q11, ⟨E', _, q1.1, by rw [q2.2.1]; exact e2, by rw [q2.2.1]; exact e3, by rw [q2.1]; exact obV, fun _ => by rw [hsz]; exact e5 i3⟩,
    ⟨E', cfV, kV, iV, fV, q1.1, gV, stV, by rw [q2.1]; exact knV, by rw [q2.1]; exact obV, by rw [q2.2.1]; exact asV, q3⟩, ⟨E', cfC, kC, iC, fC, q1.1, gC, stC, by rw [q2.1]; exact knV, by rw [q2.1]; exact obV, by rw [q2.2.1]; exact asC, q4⟩,
    ⟨V', ⟨q5.1, State.isArrayOf_alike al'.symm q5.2.1, q5.2.2.1⟩, q6, by rw [← al'.findClass]; exact q7, q8, fun j hj => by have := q9 j hj; rwa [Nat.zero_add] at this⟩, fun O n d w F n1 n2 => ?_⟩, hl, hc, hs⟩, st⟩
  · intro y hy
    simp only [List.mem_cons, List.not_mem_nil, or_false] at hy
    rcases hy with rfl | rfl <;> rfl
  · by_cases q : y = x
    · subst q
      cases hD.symm.trans hy
      exact ⟨E', q1.1, q2.2.1, q2.1, hsz⟩
    · exact ⟨cy, q10 y cy q hy, rfl, rfl, rfl⟩
  · obtain ⟨D3, cf, k, i, f, g1, g2, g3, g4, g5, g6, g7⟩ := F
    cases hD.symm.trans g1
    simp only [RoadKit.slotOf, g2, gV, gC, Option.map_some, Option.getD_some] at n1 n2
    exact ⟨E', cf, k, i, f, q1.1, g2, g3, by rw [q2.1]; exact g4, by rw [q2.1]; exact g5, by rw [q2.2.1]; exact g6, by rw [q2.2.2 f.slot (by simp [n1, n2])]; exact g7⟩
end StrChars.Road
namespace StrChars.Road
open Jvm Sem ClassFile Op Lib Jvm.Stand Jvm.Free Jvm.Free.XT
/-- WHAT COMES BACK, the byte[] as a list of values -/
def QA (Z : State) (x : Addr) (zn : Int32) (cs : List Int32) (h : Heap) (v : Option Value) (h' : Heap) (L : List Loc) : Prop := v = none ∧ (∀ y ∈ L, y.base = x) ∧ RoadKit.Keep h h' [x] ∧ h'.size = h.size + 1 ∧ RoadKit.Exa Z h' x ST ∧ RoadKit.Fld Z h' x ST "value" "[B" (.ref h.size) ∧ RoadKit.Fld Z h' x ST "coder" "B" (.int 0) ∧
  (∃ kb, Z.vm.findClass "[B" = some kb ∧ RoadKit.Arv Z h' h.size kb .byte zn (cs.map fun c => .int (lo8 c)) (.int 0)) ∧
  ∀ (O n d : String) (w : Value), RoadKit.Fld Z h x O n d w → RoadKit.slotOf Z O n d ≠ RoadKit.slotOf Z ST "value" "[B" → RoadKit.slotOf Z O n d ≠ RoadKit.slotOf Z ST "coder" "B" → RoadKit.Fld Z h' x O n d w
/-- **new String(chars) AT A CALL, THE ARRAYS AS LISTS**: the char[] at b holds cs, not empty, no char above 255 -/
theorem backArv {p : Program} {l : Launch} {e : Env} {R : Room} {s : State} {args : Array Value} {below : List Frame} {len W : Nat} {Z : State} {a0 : Array Value} {h : Heap} (hZ : Z.Warmed39 s.vm) (hw : ∀ d ∈ words, d.before a0 Z = true) {kI : Nat} (wi : (Jvm.Cond.instantiable ST kI).before a0 Z = true)
    {x b : Addr} {k : ClassId} {zn z : Int32} {cs : List Int32} {dv v0 c0 : Value} (E : RoadKit.Exa Z h x ST) (V : RoadKit.Fld Z h x ST "value" "[B" v0) (C : RoadKit.Fld Z h x ST "coder" "B" c0) (K : RoadKit.Arv Z h b k .char zn (cs.map Value.int) dv) (S : RoadKit.Sta Z h ST "COMPACT_STRINGS" "Z" (.int z)) (hz : ¬ z = 0)
    (hlen : zn.toNatClampNeg = cs.length) (h0 : 0 < cs.length) (hbig : cs.length ≤ 536870912) (hall : ∀ c ∈ cs, ¬ 255 < c) (hfr : 4 ≤ R.frames) (hlo : W + 65 ≤ R.locals) :
    Back l R p e below s args New1.yN len W (fun P a => a = #[.ref x, .ref b] ∧ P.U.heap = h ∧ P.cells + 1 ≤ R.cells ∧ P.slots + cs.length ≤ R.slots)
      (fun P _ v B => ∃ L, QA Z x zn cs h v B.U.heap L ∧ B.locs = P.locs ++ L ∧ B.cells = P.cells + 1 ∧ B.slots = P.slots + cs.length) := by
  obtain ⟨A, K1, K2, K3, K4, K5, K6⟩ := K
  have e : A.slots.size = cs.length := K3.trans hlen
  have hat : ∀ (i : Nat) (hi : i < cs.length), A.slots[i]? = some (.int cs[i]) := fun i hi => by rw [K5 i (by omega)]; simp [List.getD_eq_getElem?_getD, hi]
  have hcv : ∀ (i : Nat) (hi : i < cs.length), cv A i = cs[i] := fun i hi => by unfold cv; rw [hat i hi]
  have hty : Typed .char A := fun i v hv => by
    have hi : i < A.slots.size := (Array.getElem?_eq_some_iff.mp hv).1
    have q := K5 i hi
    rw [hv] at q
    rw [Option.some.inj q]
    exact K6 i hi
  refine Back.mono (back hZ hw wi E V C K1 hty S hz (by omega) (by omega) (fun i hi => by rw [hcv i (by omega)]; exact hall _ (List.getElem_mem _)) hfr hlo) (fun P a hp => ⟨hp.1, hp.2.1, hp.2.2.1, by rw [e]; exact hp.2.2.2⟩) (fun P a v B hp hq => ?_)
  obtain ⟨L, ⟨q1, q2, q3, q4, q5, q6, q7, ⟨V', v1, v2, v3, v4, v5⟩, q9⟩, hl, hc, hs⟩ := hq
  refine ⟨L, ⟨q1, q2, q3, q4, q5, q6, q7, ⟨V'.cls, v3, V', v1, rfl, by rw [v4, e, hlen], K4, fun i hi => ?_, fun i hi => ?_⟩, q9⟩, hl, hc, by rw [hs, e]⟩
  · have hi' : i < cs.length := by omega
    rw [v5 i (by omega), hcv i hi']; simp [List.getD_eq_getElem?_getD, hi']
  · have hi' : i < cs.length := by omega
    simp only [List.getD_eq_getElem?_getD, List.getElem?_map, List.getElem?_eq_getElem hi', Option.map_some, Option.getD_some]
    exact fits_lo8 _
end StrChars.Road
namespace StrChars.Road
open Jvm Sem ClassFile Op Lib Jvm.Stand Jvm.Free Jvm.Free.XT
/-- WHAT COMES BACK, in the writer's own shape -/
def QV (Z : State) (x : Addr) (N : Int32) (bs : List Int32) (h : Heap) (n0 : Nat) (v : Option Value) (h' : Heap) (L : List Loc) : Prop := v = none ∧ RoadKit.Fr n0 L ∧ RoadKit.Keep h h' [x] ∧ RoadKit.Exa Z h' x ST ∧ RoadKit.Fld Z h' x ST "coder" "B" (.int 0) ∧
  ∃ (t : Addr) (kb : ClassId), n0 ≤ t ∧ h.size ≤ t ∧ ¬ t = x ∧ RoadKit.Fld Z h' x ST "value" "[B" (.ref t) ∧ RoadKit.Arv Z h' t kb .byte N (bs.map Value.int) (.int 0)
/-- **new String(chars) AT A CALL, FOR THE WRITER**: a char[] of n known ints, each 0 to 255 -/
theorem backV {p : Program} {l : Launch} {e : Env} {R : Room} {s : State} {args : Array Value} {below : List Frame} {len W : Nat} {Z : State} {a0 : Array Value} {h : Heap} (hZ : Z.Warmed39 s.vm) (hw : ∀ d ∈ words, d.before a0 Z = true) {kI : Nat} (wi : (Jvm.Cond.instantiable ST kI).before a0 Z = true)
    {x b : Addr} {kC : ClassId} {cs bs : List Int32} {d v0 c0 : Value} {z N : Int32} {n n0 : Nat} (hx0 : n0 ≤ x) (hh0 : n0 ≤ h.size) (E : RoadKit.Exa Z h x ST) (V : RoadKit.Fld Z h x ST "value" "[B" v0) (C : RoadKit.Fld Z h x ST "coder" "B" c0) (K : RoadKit.Arv Z h b kC .char N (cs.map Value.int) d) (S : RoadKit.Sta Z h ST "COMPACT_STRINGS" "Z" (.int z)) (hz : ¬ z = 0)
    (hn : cs.length = n) (hN : N = Int32.ofNat n) (l0 : 0 < n) (l2 : n ≤ 4000) (hp : ∀ c ∈ cs, ¬ c < 0 ∧ ¬ (255 : Int32) < c) (hb : bs = cs.map (fun c => c.toInt8.toInt32)) (hfr : 4 ≤ R.frames) (hlo : W + 65 ≤ R.locals) :
    Back l R p e below s args (⟨"java/lang/String", "<init>", "([C)V"⟩ : MethodName) len W (fun P a => a = #[.ref x, .ref b] ∧ P.U.heap = h ∧ P.cells + 1 ≤ R.cells ∧ P.slots + n ≤ R.slots)
      (fun P _ v B => ∃ L, QV Z x N bs h n0 v B.U.heap L ∧ B.locs = P.locs ++ L ∧ B.cells = P.cells + 1 ∧ B.slots = P.slots + n) := by
  subst hn hN hb
  refine Back.mono (backArv hZ hw wi E V C K S hz (n32 (by omega)) l0 (by omega) (fun c hc => (hp c hc).2) hfr hlo) (fun P a hp => hp) (fun P a v B hp hq => ?_)
  obtain ⟨L, ⟨q1, q2, q3, q4, q5, q6, q7, ⟨kb, v1, v2⟩, q9⟩, hl, hc, hs⟩ := hq
  exact ⟨L, ⟨q1, fun y hy => by rw [q2 y hy]; exact hx0, q3, q5, q7, h.size, kb, hh0, Nat.le_refl _, Nat.ne_of_gt E.lt, q6, by rw [List.map_map]; exact v2⟩, hl, hc, hs⟩
end StrChars.Road
namespace StrChars
open Jvm Sem ClassFile Op Lib Jvm.Stand Jvm.Free.XT Jvm.Free.ALB Jvm.Free.JM Jvm.Free
open Jvm.Lib.Cold (StaticIs)
def hi8 (x : Int32) : Int32 := lo8 (x >>> ((8 : Int32) &&& 31))
/-- what StringUTF16.getChar makes of two bytes -/
def pairCh (u v : Int32) : Int32 := (((u &&& 255) <<< ((0 : Int32) &&& 31)) ||| ((v &&& 255) <<< ((8 : Int32) &&& 31))).toUInt32.toUInt16.toUInt32.toInt32
theorem shr0 (c : Int32) : c >>> ((0 : Int32) &&& 31) = c := by
  have e : ((0 : Int32) &&& 31) = 0 := by decide
  rw [e]
  apply Int32.toBitVec_inj.mp
  rw [Int32.toBitVec_shiftRight]
  have e1 : ((0 : Int32).toBitVec.smod 32) = 0#32 := by decide
  rw [e1, BitVec.sshiftRight_eq']
  exact BitVec.sshiftRight_zero
theorem lo8_and (x : Int32) : (lo8 x &&& 255).toBitVec.toNat = x.toBitVec.toNat % 256 := by
  have h : (lo8 x).toBitVec = (x.toBitVec.signExtend 8).signExtend 32 := by rw [lo8, Int8.toBitVec_toInt32, Int32.toBitVec_toInt8]
  rw [Int32.toBitVec_and, BitVec.toNat_and, h]
  have e : ((x.toBitVec.signExtend 8).signExtend 32).toNat % 256 = x.toBitVec.toNat % 256 := by
    rw [BitVec.toNat_signExtend]
    have hlt := x.toBitVec.isLt
    simp only [BitVec.toNat_setWidth, BitVec.toNat_signExtend]
    split <;> split <;> omega
  rw [← e]
  exact Nat.and_two_pow_sub_one_eq_mod _ 8
theorem pair_says {c : Int32} (h0 : ¬ c < 0) (h1 : ¬ 65535 < c) : pairCh (lo8 c) (hi8 c) = c := by
  rw [Int32.lt_iff_toInt_lt] at h0 h1
  have e0 : (0 : Int32).toInt = 0 := rfl
  have e1 : (65535 : Int32).toInt = 65535 := rfl
  have hc : c.toInt = c.toBitVec.toNat := by
    have := c.toBitVec.isLt
    have e : c.toInt = c.toBitVec.toInt := rfl
    rw [e] at h0 h1
    rw [e]
    rw [BitVec.toInt_eq_toNat_cond] at h0 h1 ⊢
    split at h0 <;> split <;> omega
  have hn : c.toBitVec.toNat < 65536 := by omega
  have a1 := lo8_and c
  have a2 : (hi8 c &&& 255).toBitVec.toNat = c.toBitVec.toNat / 256 := by
    rw [hi8, lo8_and]
    have e : ((8 : Int32) &&& 31) = 8 := by decide
    rw [e, Int32.toBitVec_shiftRight]
    have e2 : ((8 : Int32).toBitVec.smod 32) = 8#32 := by decide
    rw [e2, BitVec.sshiftRight_eq', BitVec.toNat_sshiftRight_of_msb_false (by rw [BitVec.msb_eq_false_iff_two_mul_lt]; omega)]
    show c.toBitVec.toNat >>> 8 % 256 = _
    rw [Nat.shiftRight_eq_div_pow]
    omega
  unfold pairCh
  apply Int32.toBitVec_inj.mp
  apply BitVec.eq_of_toNat_eq
  have f0 : ((0 : Int32) &&& 31) = 0 := by decide
  have f8 : ((8 : Int32) &&& 31) = 8 := by decide
  rw [f0, f8]
  have g : (((lo8 c &&& 255) <<< (0 : Int32)) ||| ((hi8 c &&& 255) <<< (8 : Int32))).toBitVec.toNat = c.toBitVec.toNat := by
    rw [Int32.toBitVec_or, Int32.toBitVec_shiftLeft, Int32.toBitVec_shiftLeft]
    have s0 : ((0 : Int32).toBitVec.smod 32) = 0#32 := by decide
    have s8 : ((8 : Int32).toBitVec.smod 32) = 8#32 := by decide
    rw [s0, s8, BitVec.toNat_or]
    simp only [BitVec.shiftLeft_eq', BitVec.toNat_shiftLeft, a1, a2]
    show (c.toBitVec.toNat % 256) <<< 0 % 2 ^ 32 ||| (c.toBitVec.toNat / 256) <<< 8 % 2 ^ 32 = _
    rw [Nat.shiftLeft_zero, Nat.mod_eq_of_lt (show c.toBitVec.toNat % 256 < 2 ^ 32 by omega), Nat.mod_eq_of_lt (show (c.toBitVec.toNat / 256) <<< 8 < 2 ^ 32 by rw [Nat.shiftLeft_eq]; omega), Nat.or_comm, ← Nat.shiftLeft_add_eq_or_of_lt (by omega), Nat.shiftLeft_eq]
    omega
  show BitVec.toNat (((((lo8 c &&& 255) <<< (0 : Int32)) ||| ((hi8 c &&& 255) <<< (8 : Int32))).toBitVec.setWidth 16).setWidth 32) = _
  rw [BitVec.toNat_setWidth, BitVec.toNat_setWidth, g]
  omega
end StrChars
namespace StrChars
open Jvm Sem ClassFile Op Lib Jvm.Stand Jvm.Free.XT Jvm.Free.ALB Jvm.Free.JM Jvm.Free
open Jvm.Lib.Cold (StaticIs)
theorem shr1 {n : Nat} (h : 2 * n < 2 ^ 31) : Int32.ofNat (2 * n) >>> ((1 : Int32) &&& 31) = Int32.ofNat n := by
  have e : ((1 : Int32) &&& 31) = 1 := by decide
  rw [e]
  apply Int32.toBitVec_inj.mp
  rw [Int32.toBitVec_shiftRight]
  have e1 : ((1 : Int32).toBitVec.smod 32) = 1#32 := by decide
  have hm : (BitVec.ofNat 32 (2 * n)).toNat = 2 * n := by rw [BitVec.toNat_ofNat, Nat.mod_eq_of_lt (by omega)]
  rw [e1, BitVec.sshiftRight_eq']
  apply BitVec.eq_of_toNat_eq
  show ((BitVec.ofNat 32 (2 * n)).sshiftRight 1).toNat = (BitVec.ofNat 32 n).toNat
  rw [BitVec.toNat_sshiftRight_of_msb_false (by rw [BitVec.msb_eq_false_iff_two_mul_lt, hm]; omega), hm, BitVec.toNat_ofNat, Nat.shiftRight_eq_div_pow]
  omega
/-- charAt's cast of a byte read back -/
def chr8 (u : Int32) : Int32 := (u &&& 255).toUInt32.toUInt16.toUInt32.toInt32
theorem chr8_lo8 {c : Int32} (h0 : ¬ c < 0) (h1 : ¬ 255 < c) : chr8 (lo8 c) = c := by
  have t : ∀ k : Fin 256, (Int32.ofNat k.val).toUInt32.toUInt16.toUInt32.toInt32 = Int32.ofNat k.val := by decide +kernel
  unfold chr8
  rw [lo8_mask h0 h1]
  rw [Int32.lt_iff_toInt_lt] at h0 h1
  have e0 : (0 : Int32).toInt = 0 := rfl
  have e1 : (255 : Int32).toInt = 255 := rfl
  obtain ⟨k, hk⟩ : ∃ k : Nat, c.toInt = k := ⟨c.toInt.toNat, by omega⟩
  have hx : c = Int32.ofNat k := Int32.toInt_inj.mp (by rw [hk, Int32.toInt_ofNat_small (by omega)])
  rw [hx]
  exact t ⟨k, by omega⟩
theorem narrow_ch {c : Int32} (h0 : ¬ c < 0) (h1 : ¬ 65535 < c) : narrow .char (.int c) = .int c := by
  have q : narrow .char (.int (pairCh (lo8 c) (hi8 c))) = .int (pairCh (lo8 c) (hi8 c)) := narrow_c _
  rwa [pair_says h0 h1] at q
/-- the array's cell V codes the n chars f 0 .. f (n - 1) by the coder cd, as the JDK does: coder 1 just where some char is above 255 -/
def Cod (cd : Int32) (n : Nat) (f : Nat → Int32) (V : Cell) : Prop := (cd = 0 ∧ V.slots.size = n ∧ ∀ j, j < n → V.slots[j]? = some (.int (lo8 (f j))) ∧ ¬ 255 < f j) ∨ (cd = 1 ∧ V.slots.size = 2 * n ∧ (∀ j, j < n → V.slots[2 * j]? = some (.int (lo8 (f j))) ∧ V.slots[2 * j + 1]? = some (.int (hi8 (f j)))) ∧ ∃ j, j < n ∧ 255 < f j)
theorem Cod.cd {cd : Int32} {n : Nat} {f : Nat → Int32} {V : Cell} (h : Cod cd n f V) : cd = 0 ∨ cd = 1 := h.imp (fun q => q.1) fun q => q.1
theorem Cod.len {cd : Int32} {n : Nat} {f : Nat → Int32} {V : Cell} (h : Cod cd n f V) (hs : V.slots.size < 2 ^ 31) : Int32.ofNat V.slots.size >>> (cd &&& 31) = Int32.ofNat n := by
  rcases h with ⟨rfl, h, -⟩ | ⟨rfl, h, -⟩
  · rw [shr0, h]
  · rw [h, shr1 (by omega)]
/-- **x is a String of the n chars f 0 .. f (n - 1)**, Latin-1 or UTF-16; its array at t has the cell V -/
def Txt (x t : Addr) (V : Cell) (cd : Int32) (n : Nat) (f : Nat → Int32) (U : State) : Prop := Exact "java/lang/String" x U ∧ Has x "java/lang/String" "value" "[B" (.ref t) U ∧ Has x "java/lang/String" "coder" "B" (.int cd) U ∧ XT.Arr .byte t V U ∧ Cod cd n f V ∧ ∀ j, j < n → ¬ f j < 0 ∧ ¬ 65535 < f j
theorem Txt.mv {x t : Addr} {V : Cell} {cd : Int32} {n : Nat} {f : Nat → Int32} {U U' : State} (h : Txt x t V cd n f U) (hal : U.vm.Alike U'.vm) (hh : U'.heap = U.heap) : Txt x t V cd n f U' := ⟨h.1.mv hal hh, h.2.1.mv hal hh, h.2.2.1.mv hal hh, h.2.2.2.1.mv hal hh, h.2.2.2.2⟩
namespace Cdr
def yN : MethodName := ⟨"java/lang/String", "coder", "()B"⟩
abbrev yB : ByteArray := jdk_42_method_152_code
theorem d0 : decode yB 0 = .ok (.getstatic 38, 3) := by decide +kernel
theorem d3 : decode yB 3 = .ok (.ifCond (.eq) 10, 3) := by decide +kernel
theorem d6 : decode yB 6 = .ok (.aload_n 0, 1) := by decide +kernel
theorem d7 : decode yB 7 = .ok (.getfield 15, 3) := by decide +kernel
theorem d10 : decode yB 10 = .ok (.goto 4, 3) := by decide +kernel
theorem d14 : decode yB 14 = .ok (.ireturn, 1) := by decide +kernel
def site : List Cond := [.fieldLink "java/lang/String" 38 "java/lang/String" "COMPACT_STRINGS" "Z", .fieldLink "java/lang/String" 15 "java/lang/String" "coder" "B"]
def tab : Cond := tabOf yN yB 1 (some .byte) site
def P (x : Addr) (cd z : Int32) (args : Array Value) (s : State) : Prop := args = #[.ref x] ∧ Has x "java/lang/String" "coder" "B" (.int cd) s ∧ (cd = 0 ∨ cd = 1) ∧ StaticIs s "java/lang/String" "COMPACT_STRINGS" "Z" (.int z) ∧ ¬ z = 0
def E (cd : Int32) (r : Option Value) (s u : State) : Prop := XT.PureE (some (.int cd)) r s u
theorem law (l : Launch) (x : Addr) (cd z : Int32) : Law l yN 1 0 0 0 yB 1 (some .byte) site (P x cd z) (E cd) [] 0 0 := by
  refine Law.of_walk (plainFor_of_name (by decide +kernel)) (by decide +kernel) (by decide +kernel) (by decide) (fun _ _ h => by rw [h.1]; rfl) (fun _ U U' hal hh h => ⟨h.1, h.2.1.mv hal hh, h.2.2.1, h.2.2.2.1.there hal hh, h.2.2.2.2⟩) (fun r U U' V V' h1 hal h2 h => XT.PureE.mv r U U' V V' h1 hal h2 h) ?_
  intro p e s m args below meth c s₁ X0 hexec hbytes hml hret hlk hnm hown hh0 W hP
  obtain ⟨rfl, hx, hc, s1, hz⟩ := hP
  have c1 : Steps p.tables e below (s₁.setTop (entryFrame m #[.ref x] 1)) (s₁.setTop (mkF m 0 #[.val (.ref x)] [])) := entry rfl
  obtain ⟨T2, X2, q2, st2⟩ := X0.sget hexec hown (wk W (.fieldLink "java/lang/String" 38 "java/lang/String" "COMPACT_STRINGS" "Z")) s1 (fun _ _ h => by rw [hh0]; exact h) (g := (mkF m 0 #[.val (.ref x)] [])) rfl (hb hbytes d0)
  have hh2 := q2.trans hh0
  have c3 : Steps p.tables e below (s₁.setTop (entryFrame m #[.ref x] 1)) (T2.setTop (mkF m 7 #[.val (.ref x)] [.ref x])) := (c1.trans (st2 _ (Steps.refl _))).trans (by
    refine XS.ifNo X2.here hexec rfl (hb hbytes d3) rfl (i0_eq_f hz) ?_
    refine XS.aloadN X2.here hexec rfl (hb hbytes d6) rfl rfl ?_
    exact Steps.refl _)
  obtain ⟨T4, X4, q4, st4⟩ := X2.hget hexec hown (wk W (.fieldLink "java/lang/String" 15 "java/lang/String" "coder" "B")) (hx.mv X2.warmed.alike hh2) (g := (mkF m 7 #[.val (.ref x)] [.ref x])) rfl (rest := []) rfl (hb hbytes d7)
  have c5 : Steps p.tables e below (s₁.setTop (entryFrame m #[.ref x] 1)) (T4.setTop (mkF m 14 #[.val (.ref x)] [.int cd])) := (c3.trans (st4 _ (Steps.refl _))).trans (by
    refine XS.goto X4.here hexec rfl (pc0 := 10) rfl (hb hbytes d10) (by decide) rfl ?_
    exact Steps.refl _)
  exact ⟨T4, some (.int cd), _, _, _, X4, rfl, rfl, rfl, (fun h => by cases h), ⟨rfl, q4.trans hh2⟩, fun fs hl => c5.trans (X4.ireturnOut hexec hret (by rcases hc with rfl | rfl <;> rfl) (Or.inr (Or.inr (Or.inl rfl))) (hb hbytes d14) hl)⟩
end Cdr
namespace Len
def yN : MethodName := ⟨"java/lang/String", "length", "()I"⟩
abbrev yB : ByteArray := jdk_42_method_54_code
theorem d0 : decode yB 0 = .ok (.aload_n 0, 1) := by decide +kernel
theorem d1 : decode yB 1 = .ok (.getfield 9, 3) := by decide +kernel
theorem d4 : decode yB 4 = .ok (.arraylength, 1) := by decide +kernel
theorem d5 : decode yB 5 = .ok (.aload_n 0, 1) := by decide +kernel
theorem d6 : decode yB 6 = .ok (.invokevirtual 335, 3) := by decide +kernel
theorem d9 : decode yB 9 = .ok (.ishr, 1) := by decide +kernel
theorem d10 : decode yB 10 = .ok (.ireturn, 1) := by decide +kernel
def site : List Cond := [.fieldLink "java/lang/String" 9 "java/lang/String" "value" "[B", Cdr.tab] ++ virtW "java/lang/String" 335 "java/lang/String" Cdr.yN Cdr.yN
def tab : Cond := tabOf yN yB 1 (some .int) site
def P (x t : Addr) (V : Cell) (cd : Int32) (n : Nat) (f : Nat → Int32) (z : Int32) (args : Array Value) (s : State) : Prop := args = #[.ref x] ∧ Txt x t V cd n f s ∧ StaticIs s "java/lang/String" "COMPACT_STRINGS" "Z" (.int z) ∧ ¬ z = 0
def E (n : Nat) (r : Option Value) (s u : State) : Prop := XT.PureE (some (.int (Int32.ofNat n))) r s u
/-- length() of a String of n chars, in either coding -/
theorem law (l : Launch) (x t : Addr) (V : Cell) (cd : Int32) (n : Nat) (f : Nat → Int32) (z : Int32) : Law l yN 1 0 1 13 yB 1 (some .int) site (P x t V cd n f z) (E n) [] 0 0 := by
  refine Law.of_walk (plainFor_of_name (by decide +kernel)) (by decide +kernel) (by decide +kernel) (by decide) (fun _ _ h => by rw [h.1]; rfl) (fun _ U U' hal hh h => ⟨h.1, h.2.1.mv hal hh, h.2.2.1.there hal hh, h.2.2.2⟩) (fun r U U' V V' h1 hal h2 h => XT.PureE.mv r U U' V V' h1 hal h2 h) ?_
  intro p e s m args below meth c s₁ X0 hexec hbytes hml hret hlk hnm hown hh0 W hP
  obtain ⟨rfl, hx, s1, hz⟩ := hP
  have v31 := hx.2.2.2.1.2.2.2
  have c1 : Steps p.tables e below (s₁.setTop (entryFrame m #[.ref x] 1)) (s₁.setTop (mkF m 1 #[.val (.ref x)] [.ref x])) := Steps.trans (entry rfl) (by
    show Steps p.tables e below (s₁.setTop (mkF m 0 #[.val (.ref x)] [])) _
    refine XS.aloadN X0.here hexec rfl (hb hbytes d0) rfl rfl ?_
    exact Steps.refl _)
  obtain ⟨T2, X2, q2, st2⟩ := X0.hget hexec hown (wk W (.fieldLink "java/lang/String" 9 "java/lang/String" "value" "[B")) (hx.mv X0.warmed.alike hh0).2.1 (g := (mkF m 1 #[.val (.ref x)] [.ref x])) rfl (rest := []) rfl (hb hbytes d1)
  have hh2 := q2.trans hh0
  have hx2 := hx.mv X2.warmed.alike hh2
  have c3 : Steps p.tables e below (s₁.setTop (entryFrame m #[.ref x] 1)) (T2.setTop (mkF m 6 #[.val (.ref x)] [.ref x, .int (Int32.ofNat V.slots.size)])) := (c1.trans (st2 _ (Steps.refl _))).trans (by
    refine X2.alen hexec hx2.2.2.2.1 rfl rfl (hb hbytes d4) ?_
    refine XS.aloadN X2.here hexec rfl (hb hbytes d5) rfl rfl ?_
    exact Steps.refl _)
  obtain ⟨v4, T4, X4, E4, g4⟩ := X2.callV hexec (Cdr.law l x cd z) hown (wks W (virtW "java/lang/String" 335 "java/lang/String" Cdr.yN Cdr.yN)) rfl (by decide) (wk W Cdr.tab) (W := 1) (Nat.le_of_ble_eq_true rfl) (Nat.le_of_ble_eq_true rfl) (Nat.le_refl _) (Nat.le_refl _) (hx2.1.fc X2.warmed.alike) hx2.1.is (g := (mkF m 6 #[.val (.ref x)] [.ref x, .int (Int32.ofNat V.slots.size)])) rfl (by rw [hml]; rfl) c3 (argsL := []) (rest := [.int (Int32.ofNat V.slots.size)]) rfl rfl (by show 2 * 0 + (1 + 0) ≤ _; decide) (hb hbytes d6) (⟨rfl, hx2.2.2.1, hx.2.2.2.2.1.cd, s1.there X2.warmed.alike hh2, hz⟩)
  obtain ⟨rfl, q4⟩ := E4
  have c5 : Steps p.tables e below (s₁.setTop (entryFrame m #[.ref x] 1)) (T4.setTop (mkF m 10 #[.val (.ref x)] [.int (Int32.ofNat V.slots.size >>> (cd &&& 31))])) := Steps.trans g4 (by
    refine ishr X4.here hexec rfl (hb hbytes d9) rfl ?_
    exact Steps.refl _)
  rw [hx.2.2.2.2.1.len v31] at c5
  exact ⟨T4, some (.int (Int32.ofNat n)), _, _, _, X4, rfl, rfl, rfl, (fun h => by cases h), ⟨rfl, q4.trans hh2⟩, fun fs hl => c5.trans (X4.ireturnOut hexec hret rfl (Or.inl rfl) (hb hbytes d10) hl)⟩
theorem pays {l : Launch} {R : Room} {p : Program} {e : Env} {below : List Frame} {s : State} {sargs : Array Value} {len W : Nat} (x t : Addr) (V : Cell) (cd : Int32) (n : Nat) (f : Nat → Int32) (z : Int32) (htab : tab.before sargs s = true) (hfr : 2 ≤ R.frames) (hlo : W + 25 ≤ R.locals) :
    Back l R p e below s sargs yN len W (fun A₁ a₁ => A₁.cells + 0 ≤ R.cells ∧ A₁.slots + 0 ≤ R.slots ∧ P x t V cd n f z a₁ A₁.U) (fun A₁ _ v₁ B₁ => E n v₁ A₁.U B₁.U ∧ B₁.locs = A₁.locs ++ [] ∧ B₁.cells = A₁.cells + 0 ∧ B₁.slots = A₁.slots + 0) :=
  (law l x t V cd n f z).pays htab hfr (by omega)
end Len
namespace IsL
def yN : MethodName := ⟨"java/lang/String", "isLatin1", "()Z"⟩
abbrev yB : ByteArray := jdk_42_method_154_code
theorem d0 : decode yB 0 = .ok (.getstatic 38, 3) := by decide +kernel
theorem d3 : decode yB 3 = .ok (.ifCond (.eq) 14, 3) := by decide +kernel
theorem d6 : decode yB 6 = .ok (.aload_n 0, 1) := by decide +kernel
theorem d7 : decode yB 7 = .ok (.getfield 15, 3) := by decide +kernel
theorem d10 : decode yB 10 = .ok (.ifCond (.ne) 7, 3) := by decide +kernel
theorem d13 : decode yB 13 = .ok (.iconst 1, 1) := by decide +kernel
theorem d14 : decode yB 14 = .ok (.goto 4, 3) := by decide +kernel
theorem d17 : decode yB 17 = .ok (.iconst 0, 1) := by decide +kernel
theorem d18 : decode yB 18 = .ok (.ireturn, 1) := by decide +kernel
def site : List Cond := [.fieldLink "java/lang/String" 38 "java/lang/String" "COMPACT_STRINGS" "Z", .fieldLink "java/lang/String" 15 "java/lang/String" "coder" "B"]
def tab : Cond := tabOf yN yB 1 (some .boolean) site
def P (x : Addr) (cd z : Int32) (args : Array Value) (s : State) : Prop := args = #[.ref x] ∧ Has x "java/lang/String" "coder" "B" (.int cd) s ∧ (cd = 0 ∨ cd = 1) ∧ StaticIs s "java/lang/String" "COMPACT_STRINGS" "Z" (.int z) ∧ ¬ z = 0
def E (cd : Int32) (r : Option Value) (s u : State) : Prop := XT.PureE (some (.int (1 - cd))) r s u
theorem law (l : Launch) (x : Addr) (cd z : Int32) : Law l yN 1 0 0 0 yB 1 (some .boolean) site (P x cd z) (E cd) [] 0 0 := by
  refine Law.of_walk (plainFor_of_name (by decide +kernel)) (by decide +kernel) (by decide +kernel) (by decide) (fun _ _ h => by rw [h.1]; rfl) (fun _ U U' hal hh h => ⟨h.1, h.2.1.mv hal hh, h.2.2.1, h.2.2.2.1.there hal hh, h.2.2.2.2⟩) (fun r U U' V V' h1 hal h2 h => XT.PureE.mv r U U' V V' h1 hal h2 h) ?_
  intro p e s m args below meth c s₁ X0 hexec hbytes hml hret hlk hnm hown hh0 W hP
  obtain ⟨rfl, hx, hc, s1, hz⟩ := hP
  have c1 : Steps p.tables e below (s₁.setTop (entryFrame m #[.ref x] 1)) (s₁.setTop (mkF m 0 #[.val (.ref x)] [])) := entry rfl
  obtain ⟨T2, X2, q2, st2⟩ := X0.sget hexec hown (wk W (.fieldLink "java/lang/String" 38 "java/lang/String" "COMPACT_STRINGS" "Z")) s1 (fun _ _ h => by rw [hh0]; exact h) (g := (mkF m 0 #[.val (.ref x)] [])) rfl (hb hbytes d0)
  have hh2 := q2.trans hh0
  have c3 : Steps p.tables e below (s₁.setTop (entryFrame m #[.ref x] 1)) (T2.setTop (mkF m 7 #[.val (.ref x)] [.ref x])) := (c1.trans (st2 _ (Steps.refl _))).trans (by
    refine XS.ifNo X2.here hexec rfl (hb hbytes d3) rfl (i0_eq_f hz) ?_
    refine XS.aloadN X2.here hexec rfl (hb hbytes d6) rfl rfl ?_
    exact Steps.refl _)
  obtain ⟨T4, X4, q4, st4⟩ := X2.hget hexec hown (wk W (.fieldLink "java/lang/String" 15 "java/lang/String" "coder" "B")) (hx.mv X2.warmed.alike hh2) (g := (mkF m 7 #[.val (.ref x)] [.ref x])) rfl (rest := []) rfl (hb hbytes d7)
  have c5 : Steps p.tables e below (s₁.setTop (entryFrame m #[.ref x] 1)) (T4.setTop (mkF m 10 #[.val (.ref x)] [.int cd])) := c3.trans (st4 _ (Steps.refl _))
  have c6 : Steps p.tables e below (s₁.setTop (entryFrame m #[.ref x] 1)) (T4.setTop (mkF m 18 #[.val (.ref x)] [.int (1 - cd)])) := by
    rcases hc with rfl | rfl
    · exact c5.trans (by
        refine XS.ifNo X4.here hexec rfl (hb hbytes d10) rfl (i0_ne_f rfl) ?_
        refine iconstV X4.here hexec rfl 1 (hb hbytes d13) (by decide) ?_
        refine XS.goto X4.here hexec rfl (pc0 := 14) rfl (hb hbytes d14) (by decide) rfl ?_
        exact Steps.refl _)
    · exact c5.trans (by
        refine XS.ifYes X4.here hexec rfl (pc0 := 10) rfl (hb hbytes d10) rfl (i0_ne_t (by decide)) (by decide) rfl ?_
        refine iconstV X4.here hexec rfl 0 (hb hbytes d17) (by decide) ?_
        exact Steps.refl _)
  exact ⟨T4, some (.int (1 - cd)), _, _, _, X4, rfl, rfl, rfl, (fun h => by cases h), ⟨rfl, q4.trans hh2⟩, fun fs hl => c6.trans (X4.ireturnOut hexec hret (by rcases hc with rfl | rfl <;> rfl) (Or.inr (Or.inl rfl)) (hb hbytes d18) hl)⟩
end IsL
namespace LChA
def yN : MethodName := ⟨"java/lang/StringLatin1", "charAt", "([BI)C"⟩
abbrev yB : ByteArray := jdk_43_method_2_code
theorem d0 : decode yB 0 = .ok (.iload_n 1, 1) := by decide +kernel
theorem d1 : decode yB 1 = .ok (.aload_n 0, 1) := by decide +kernel
theorem d2 : decode yB 2 = .ok (.arraylength, 1) := by decide +kernel
theorem d3 : decode yB 3 = .ok (.invokestatic 9, 3) := by decide +kernel
theorem d6 : decode yB 6 = .ok (.aload_n 0, 1) := by decide +kernel
theorem d7 : decode yB 7 = .ok (.iload_n 1, 1) := by decide +kernel
theorem d8 : decode yB 8 = .ok (.baload, 1) := by decide +kernel
theorem d9 : decode yB 9 = .ok (.sipush 255, 3) := by decide +kernel
theorem d12 : decode yB 12 = .ok (.iand, 1) := by decide +kernel
theorem d13 : decode yB 13 = .ok (.i2c, 1) := by decide +kernel
theorem d14 : decode yB 14 = .ok (.ireturn, 1) := by decide +kernel
def site : List Cond := [JO.Str_checkIndex.tab] ++ staticW "java/lang/StringLatin1" 9 JO.Str_checkIndex.yN
def tab : Cond := tabOf yN yB 2 (some .char) site
def P (t : Addr) (V : Cell) (i : Nat) (u : Int32) (fm : Value) (args : Array Value) (s : State) : Prop := args = #[.ref t, .int (Int32.ofNat i)] ∧ XT.Arr .byte t V s ∧ V.slots[i]? = some (.int u) ∧ (StaticIs s "jdk/internal/util/Preconditions" "SIOOBE_FORMATTER" "Ljava/util/function/BiFunction;" fm ∧ fm.isRef = true)
def E (u : Int32) (r : Option Value) (s w : State) : Prop := XT.PureE (some (.int (chr8 u))) r s w
theorem law (l : Launch) (t : Addr) (V : Cell) (i : Nat) (u : Int32) (fm : Value) : Law l yN 2 2 2 27 yB 2 (some .char) site (P t V i u fm) (E u) [] 0 0 := by
  refine Law.of_walk (plainFor_of_name (by decide +kernel)) (by decide +kernel) (by decide +kernel) (by decide) (fun _ _ h => by rw [h.1]; rfl) (fun _ U U' hal hh h => ⟨h.1, h.2.1.mv hal hh, h.2.2.1, h.2.2.2.1.there hal hh, h.2.2.2.2⟩) (fun r U U' V V' h1 hal h2 h => XT.PureE.mv r U U' V V' h1 hal h2 h) ?_
  intro p e s m args below meth c s₁ X0 hexec hbytes hml hret hlk hnm hown hh0 W hP
  obtain ⟨rfl, hV, hu, s1, rf⟩ := hP
  have v31 := hV.2.2.2
  have hi : i < V.slots.size := (Array.getElem?_eq_some_iff.mp hu).1
  have c1 : Steps p.tables e below (s₁.setTop (entryFrame m #[.ref t, .int (Int32.ofNat i)] 2)) (s₁.setTop (mkF m 0 #[.val (.ref t), .val (.int (Int32.ofNat i))] [])) := entry rfl
  have c2 : Steps p.tables e below (s₁.setTop (entryFrame m #[.ref t, .int (Int32.ofNat i)] 2)) (s₁.setTop (mkF m 3 #[.val (.ref t), .val (.int (Int32.ofNat i))] [.int (Int32.ofNat V.slots.size), .int (Int32.ofNat i)])) := c1.trans (by
    refine XS.iloadN X0.here hexec rfl (hb hbytes d0) rfl ?_
    refine XS.aloadN X0.here hexec rfl (hb hbytes d1) rfl rfl ?_
    refine X0.alen hexec (hV.mv X0.warmed.alike hh0) rfl rfl (hb hbytes d2) ?_
    exact Steps.refl _)
  obtain ⟨v3, T3, X3, E3, g3⟩ := X0.callS hexec (JO.Str_checkIndex.law l (Int32.ofNat i) (Int32.ofNat V.slots.size) fm) hown (wks W (staticW "java/lang/StringLatin1" 9 JO.Str_checkIndex.yN)) (wk W JO.Str_checkIndex.tab) (W := 0) (Nat.le_of_ble_eq_true rfl) (Nat.le_of_ble_eq_true rfl) (Nat.le_refl _) (Nat.le_refl _) (g := (mkF m 3 #[.val (.ref t), .val (.int (Int32.ofNat i))] [.int (Int32.ofNat V.slots.size), .int (Int32.ofNat i)])) rfl (by rw [hml]; rfl) c2 (argsL := [.int (Int32.ofNat i), .int (Int32.ofNat V.slots.size)]) (rest := []) rfl rfl (by show 2 * 0 + 0 ≤ _; decide) (hb hbytes d3) (⟨rfl, rf, s1.there X0.warmed.alike hh0, Int32.ofNat_not_neg (by omega), lt32 v31 hi⟩)
  obtain ⟨rfl, q3⟩ := E3
  have hh3 := q3.trans hh0
  have c4 : Steps p.tables e below (s₁.setTop (entryFrame m #[.ref t, .int (Int32.ofNat i)] 2)) (T3.setTop (mkF m 14 #[.val (.ref t), .val (.int (Int32.ofNat i))] [.int (chr8 u)])) := Steps.trans g3 (by
    refine XS.aloadN X3.here hexec rfl (hb hbytes d6) rfl rfl ?_
    refine XS.iloadN X3.here hexec rfl (hb hbytes d7) rfl ?_
    refine X3.aget hexec (hV.mv X3.warmed.alike hh3) rfl hu rfl rfl (hb hbytes d8) ?_
    refine sipushV X3.here hexec rfl 255 (hb hbytes d9) (by decide) ?_
    refine XS.iand X3.here hexec rfl (hb hbytes d12) rfl ?_
    refine i2c X3.here hexec rfl (hb hbytes d13) rfl ?_
    exact Steps.refl _)
  exact ⟨T3, some (.int (chr8 u)), _, _, _, X3, rfl, rfl, rfl, (fun h => by cases h), ⟨rfl, hh3⟩, fun fs hl => c4.trans (X3.ireturnOut hexec hret (narrow_c _) (Or.inr (Or.inr (Or.inr (Or.inl rfl)))) (hb hbytes d14) hl)⟩
end LChA
end StrChars
namespace StrChars.Road
open Jvm Sem ClassFile Op Lib Jvm.Stand Jvm.Free Jvm.Free.XT
open Jvm.Lib.Cold (StaticIs)
theorem consq {a : Array Value} {s : State} {c : Jvm.Cond} {L : List Jvm.Cond} (h0 : c.before a s = true) (h : ∀ w ∈ L, w.before a s = true) : ∀ w ∈ c :: L, w.before a s = true := fun w hw => (List.mem_cons.mp hw).elim (fun e => e ▸ h0) (h w)
/-- the words of String.length(), either coding -/
abbrev wordsLen : List Jvm.Cond := [.code Len.yN Len.yB 1 (some .int), .initialized ST, .fieldLink ST 9 ST "value" "[B", .fieldLink ST 38 ST "COMPACT_STRINGS" "Z", .fieldLink ST 15 ST "coder" "B", .code Cdr.yN Cdr.yB 1 (some .byte), .methodLink ST 335 Cdr.yN, .declares Cdr.yN, .selects ST Cdr.yN Cdr.yN, .instanceMethod Cdr.yN]
theorem tabLen_of {a : Array Value} {s : State} (h : ∀ w ∈ wordsLen, w.before a s = true) : Len.tab.before a s = true := by
  have hc : Cdr.tab.before a s = true := unparts (wk h (.code Cdr.yN Cdr.yB 1 (some .byte))) (wks h (.initialized Cdr.yN.cls :: Cdr.site))
  have q := consq hc h
  exact unparts (wk q (.code Len.yN Len.yB 1 (some .int))) (wks q (.initialized Len.yN.cls :: Len.site))
theorem movedLen {Z s : State} {a0 args : Array Value} (hZ : Z.Warmed39 s.vm) (hw : ∀ d ∈ wordsLen, d.before a0 Z = true) : ∀ d ∈ wordsLen, d.before args s = true := fun d hd => by
  have q := hw d hd
  have t : ∀ d ∈ wordsLen, d = .arrayClass .byte ∨ (d.onTables && d.keepsFace) = true := by decide +kernel
  rcases t d hd with rfl | t
  · exact RoadKit.mvA hZ q
  · exact RoadKit.mv hZ q t
/-- the bytes of the chars cs, low before high -/
def wideBytes : List Int32 → List Value
  | [] => []
  | c :: cs => .int (lo8 c) :: .int (hi8 c) :: wideBytes cs
theorem wide_lo (d : Value) : ∀ (cs : List Int32) (j : Nat), j < cs.length → (wideBytes cs).getD (2 * j) d = .int (lo8 (cs.getD j 0))
  | [], j, h => absurd h (Nat.not_lt_zero j)
  | c :: cs, 0, _ => rfl
  | c :: cs, j + 1, h => by
    have q := wide_lo d cs j (by simpa using h)
    rw [show 2 * (j + 1) = 2 * j + 1 + 1 from by omega]
    simpa [wideBytes] using q
theorem wide_hi (d : Value) : ∀ (cs : List Int32) (j : Nat), j < cs.length → (wideBytes cs).getD (2 * j + 1) d = .int (hi8 (cs.getD j 0))
  | [], j, h => absurd h (Nat.not_lt_zero j)
  | c :: cs, 0, _ => rfl
  | c :: cs, j + 1, h => by
    have q := wide_hi d cs j (by simpa using h)
    rw [show 2 * (j + 1) + 1 = 2 * j + 1 + 1 + 1 from by omega]
    simpa [wideBytes] using q
theorem low_at (d : Value) (cs : List Int32) (j : Nat) (h : j < cs.length) : (cs.map fun c => Value.int (lo8 c)).getD j d = .int (lo8 (cs.getD j 0)) := by
  simp [List.getD_eq_getElem?_getD, h]
/-- an array of N2 bytes vs codes the chars cs by the coder cd -/
def CodA (cs : List Int32) (cd N2 : Int32) (vs : List Value) : Prop := (cd = 0 ∧ N2 = Int32.ofNat cs.length ∧ vs = (cs.map fun c => Value.int (lo8 c)) ∧ ∀ c ∈ cs, ¬ 255 < c) ∨ (cd = 1 ∧ N2 = Int32.ofNat (2 * cs.length) ∧ vs = wideBytes cs ∧ ∃ c ∈ cs, 255 < c)
theorem CodA.cod {cs : List Int32} {cd N2 : Int32} {vs : List Value} {V : Cell} (h : CodA cs cd N2 vs) (hn : 2 * cs.length < 2 ^ 31) (hs : V.slots.size = N2.toNatClampNeg) (hv : RoadKit.Has V vs (.int 0)) : Cod cd cs.length (fun j => cs.getD j 0) V := by
  rcases h with ⟨rfl, rfl, rfl, h⟩ | ⟨rfl, rfl, rfl, c, hc, hw⟩
  · rw [n32 (by omega)] at hs
    exact Or.inl ⟨rfl, hs, fun j hj => ⟨by rw [hv j (by omega), low_at _ _ _ hj], by
      have e : cs.getD j 0 = cs[j] := by simp [List.getD_eq_getElem?_getD, hj]
      show ¬ 255 < cs.getD j 0
      rw [e]; exact h _ (List.getElem_mem _)⟩⟩
  · rw [n32 (by omega)] at hs
    obtain ⟨j, hj, rfl⟩ := List.getElem_of_mem hc
    exact Or.inr ⟨rfl, hs, fun j hj => ⟨by rw [hv _ (by omega), wide_lo _ _ _ hj], by rw [hv _ (by omega), wide_hi _ _ _ hj]⟩, j, hj, by
      have e : cs.getD j 0 = cs[j] := by simp [List.getD_eq_getElem?_getD, hj]
      show 255 < cs.getD j 0
      rw [e]; exact hw⟩
/-- an object of exactly java/lang/String, its two fields found: as the laws ask it -/
theorem strObj {Z U : State} {a0 : Array Value} {kI : Nat} (wi : (Jvm.Cond.instantiable ST kI).before a0 Z = true) (al : Z.vm.Alike U.vm) {x : Addr} {v0 c0 : Value} (E : RoadKit.Exa Z U.heap x ST) (V : RoadKit.Fld Z U.heap x ST "value" "[B" v0) (C : RoadKit.Fld Z U.heap x ST "coder" "B" c0) :
    ∃ (D : Cell) (fV fC : Field), Blank ST x D U ∧ Found ST "value" "[B" fV U ∧ Found ST "coder" "B" fC U ∧ D.slots[fV.slot]? = some v0 ∧ D.slots[fC.slot]? = some c0 ∧ RoadKit.slotOf Z ST "value" "[B" = fV.slot ∧ RoadKit.slotOf Z ST "coder" "B" = fC.slot := by
  obtain ⟨D, cfV, kV, iV, fV, hD, gV, stV, knV, obV, asV, slV⟩ := V
  obtain ⟨D', cfC, kC, iC, fC, hD', gC, stC, -, -, asC, slC⟩ := C
  cases hD.symm.trans hD'
  obtain ⟨D2, kD, e1, e2, e3, e4, e5⟩ := E
  cases hD.symm.trans e1
  obtain ⟨c2, k2, i1, i2, i3, -⟩ := Cond.instantiable_spec wi
  cases e2.symm.trans i1
  cases e3.symm.trans i2
  obtain ⟨kU, u1, u2⟩ := al.2.2 _ _ e3
  exact ⟨D, fV, fC, ⟨hD, ⟨knV, fun q hq => by rw [hq] at obV; cases obV⟩, by rw [al.findClass]; exact e2, kU, u1, by rw [u2]; exact i3, by rw [u2]; exact e5 i3⟩, ⟨SBG.found_only al ⟨cfV, kV, iV, gV⟩, stV⟩, ⟨SBG.found_only al ⟨cfC, kC, iC, gC⟩, stC⟩, slV, slC, by simp [RoadKit.slotOf, gV], by simp [RoadKit.slotOf, gC]⟩
theorem sta_is {Z U : State} (al : Z.vm.Alike U.vm) {C n d : String} {v : Value} (S : RoadKit.Sta Z U.heap C n d v) : StaticIs U C n d v := by
  obtain ⟨cfS, iS, kS, fS, st, cS, t1, t2, t3, t4, t5, t6, t7⟩ := S
  exact StaticIs.there (s := { Z with heap := U.heap }) ⟨cfS, iS, kS, fS, st, cS, t1, t2, t3, t4, t5, (fun q => by rw [q] at t6; cases t6), t7⟩ al rfl
/-- **length() OF SUCH A STRING** -/
theorem lenW {p : Program} {l : Launch} {e : Env} {R : Room} {s : State} {args : Array Value} {below : List Frame} {len W : Nat} {Z : State} {a0 : Array Value} {h : Heap} (hZ : Z.Warmed39 s.vm) (hw : ∀ d ∈ wordsLen, d.before a0 Z = true) {kI : Nat} (wi : (Jvm.Cond.instantiable ST kI).before a0 Z = true)
    {x t : Addr} {kb : ClassId} {cs : List Int32} {cd N2 z : Int32} {vs : List Value} (E : RoadKit.Exa Z h x ST) (V : RoadKit.Fld Z h x ST "value" "[B" (.ref t)) (C : RoadKit.Fld Z h x ST "coder" "B" (.int cd)) (K : RoadKit.Arv Z h t kb .byte N2 vs (.int 0)) (hc : CodA cs cd N2 vs) (hb : ∀ c ∈ cs, ¬ c < 0 ∧ ¬ (65535 : Int32) < c)
    (S : RoadKit.Sta Z h ST "COMPACT_STRINGS" "Z" (.int z)) (hz : ¬ z = 0) (l2 : cs.length ≤ 4000) (hfr : 2 ≤ R.frames) (hlo : W + 25 ≤ R.locals) :
    Back l R p e below s args (⟨"java/lang/String", "length", "()I"⟩ : MethodName) len W (fun P a => a = #[.ref x] ∧ P.U.heap = h ∧ P.cells + 0 ≤ R.cells ∧ P.slots + 0 ≤ R.slots)
      (fun P _ v B => ∃ L, (v = some (.int (Int32.ofNat cs.length)) ∧ L = [] ∧ B.U.heap = h) ∧ B.locs = P.locs ++ L ∧ B.cells = P.cells + 0 ∧ B.slots = P.slots + 0) := by
  obtain ⟨A, K1, K2, K3, K4, K5, K6⟩ := K
  have hcod := hc.cod (by omega) K3 K5
  intro m meth c P g ig mk a X hg hsize hdg hW hn hp'
  obtain ⟨rfl, rfl, r1, r2⟩ := hp'
  have al : Z.vm.Alike P.U.vm := hZ.alike.trans X.warmed.alike
  obtain ⟨D, fV, fC, hB, F1, F2, g1, g2, -, -⟩ := strObj wi al E V C
  have hx : Txt x t A cd cs.length (fun j => cs.getD j 0) P.U := ⟨⟨_, hB.2.2.1, D, hB.1, rfl, by cases q : D.vm <;> first | rfl | exact absurd q (hB.2.1.2 _)⟩, Has.of hB F1 g1, Has.of hB F2 g2, ⟨K1.1, State.isArrayOf_alike al K1.2.1, K1.2.2, by rcases hcod with ⟨-, q, -⟩ | ⟨-, q, -⟩ <;> omega⟩, hcod, fun j hj => by
    have e : cs.getD j 0 = cs[j] := by simp [List.getD_eq_getElem?_getD, hj]
    show ¬ cs.getD j 0 < 0 ∧ ¬ 65535 < cs.getD j 0
    rw [e]; exact hb _ (List.getElem_mem _)⟩
  obtain ⟨v, B, X', ⟨⟨hv, hh⟩, hl, hk, hs⟩, st⟩ := Len.pays x t A cd cs.length (fun j => cs.getD j 0) z (tabLen_of (movedLen hZ hw)) hfr hlo m meth c P g ig mk _ X hg hsize hdg hW hn ⟨r1, r2, rfl, hx, sta_is al S, hz⟩
  exact ⟨v, B, X', ⟨[], ⟨hv, rfl, hh⟩, hl, hk, hs⟩, st⟩
end StrChars.Road
namespace StrChars
open Jvm Sem ClassFile Op Lib Jvm.Stand Jvm.Free.XT Jvm.Free.ALB Jvm.Free.JM Jvm.Free
open Jvm.Lib.Cold (StaticIs)
/-- what place i of a byte[]'s cell holds -/
def yv (A : Cell) (i : Nat) : Int32 := match A.slots[i]? with | some (.int x) => x | _ => 0
theorem yv_get {a : Addr} {A : Cell} {U : State} (h : XT.Arr .byte a A U) (ht : Typed .byte A) {i : Nat} (hi : i < A.slots.size) : A.slots[i]? = some (.int (yv A i)) := by
  have e := Array.getElem?_eq_getElem hi
  have f := ht i _ e
  unfold yv; rw [e]
  generalize A.slots[i] = v at f
  cases v <;> simp [fits] at f ⊢
/-- the two arrays are equal, place for place -/
def EqC (A B : Cell) : Prop := A.slots.size = B.slots.size ∧ ∀ i, i < A.slots.size → yv A i = yv B i
/-- a boolean that says whether p -/
def Says01 (q : Prop) (r : Option Value) (s u : State) : Prop := ∃ v : Int32, r = some (.int v) ∧ u.heap = s.heap ∧ ((v = 1 ∧ q) ∨ (v = 0 ∧ ¬ q))
theorem Says01.mv {q : Prop} : ∀ r (U U' V V' : State), U'.heap = U.heap → V.vm.Alike V'.vm → V'.heap = V.heap → Says01 q r U V → Says01 q r U' V' :=
  fun r U U' V V' h1 _ h2 ⟨v, a, b, c⟩ => ⟨v, a, by rw [h1, h2]; exact b, c⟩
namespace LEq
def yN : MethodName := ⟨"java/lang/StringLatin1", "equals", "([B[B)Z"⟩
abbrev yB : ByteArray := jdk_43_method_13_code
theorem d0 : decode yB 0 = .ok (.aload_n 0, 1) := by decide +kernel
theorem d1 : decode yB 1 = .ok (.arraylength, 1) := by decide +kernel
theorem d2 : decode yB 2 = .ok (.aload_n 1, 1) := by decide +kernel
theorem d3 : decode yB 3 = .ok (.arraylength, 1) := by decide +kernel
theorem d4 : decode yB 4 = .ok (.if_icmp (.ne) 30, 3) := by decide +kernel
theorem d7 : decode yB 7 = .ok (.iconst 0, 1) := by decide +kernel
theorem d8 : decode yB 8 = .ok (.istore_n 2, 1) := by decide +kernel
theorem d9 : decode yB 9 = .ok (.iload_n 2, 1) := by decide +kernel
theorem d10 : decode yB 10 = .ok (.aload_n 0, 1) := by decide +kernel
theorem d11 : decode yB 11 = .ok (.arraylength, 1) := by decide +kernel
theorem d12 : decode yB 12 = .ok (.if_icmp (.ge) 20, 3) := by decide +kernel
theorem d15 : decode yB 15 = .ok (.aload_n 0, 1) := by decide +kernel
theorem d16 : decode yB 16 = .ok (.iload_n 2, 1) := by decide +kernel
theorem d17 : decode yB 17 = .ok (.baload, 1) := by decide +kernel
theorem d18 : decode yB 18 = .ok (.aload_n 1, 1) := by decide +kernel
theorem d19 : decode yB 19 = .ok (.iload_n 2, 1) := by decide +kernel
theorem d20 : decode yB 20 = .ok (.baload, 1) := by decide +kernel
theorem d21 : decode yB 21 = .ok (.if_icmp (.eq) 5, 3) := by decide +kernel
theorem d24 : decode yB 24 = .ok (.iconst 0, 1) := by decide +kernel
theorem d25 : decode yB 25 = .ok (.ireturn, 1) := by decide +kernel
theorem d26 : decode yB 26 = .ok (.iinc 2 1, 3) := by decide +kernel
theorem d29 : decode yB 29 = .ok (.goto (-20), 3) := by decide +kernel
theorem d32 : decode yB 32 = .ok (.iconst 1, 1) := by decide +kernel
theorem d33 : decode yB 33 = .ok (.ireturn, 1) := by decide +kernel
theorem d34 : decode yB 34 = .ok (.iconst 0, 1) := by decide +kernel
theorem d35 : decode yB 35 = .ok (.ireturn, 1) := by decide +kernel
def site : List Cond := []
def tab : Cond := tabOf yN yB 3 (some .boolean) site
def P (a : Addr) (A : Cell) (b : Addr) (B : Cell) (args : Array Value) (s : State) : Prop := args = #[.ref a, .ref b] ∧ XT.Arr .byte a A s ∧ Typed .byte A ∧ XT.Arr .byte b B s ∧ Typed .byte B
/-- whether two byte[] are equal, place for place -/
theorem law (l : Launch) (a : Addr) (A : Cell) (b : Addr) (B : Cell) : Law l yN 2 2 0 0 yB 3 (some .boolean) site (P a A b B) (Says01 (EqC A B)) [] 0 0 := by
  refine Law.of_walk (plainFor_of_name (by decide +kernel)) (by decide +kernel) (by decide +kernel) (by decide) (fun _ _ h => by rw [h.1]; rfl) (fun _ U U' hal hh h => ⟨h.1, h.2.1.mv hal hh, h.2.2.1, h.2.2.2.1.mv hal hh, h.2.2.2.2⟩) (fun r U U' V V' h1 hal h2 h => Says01.mv r U U' V V' h1 hal h2 h) ?_
  intro p e s m args below meth c s₁ X0 hexec hbytes hml hret hlk hnm hown hh0 W hP
  obtain ⟨rfl, hA, tA, hB, tB⟩ := hP
  have a31 := hA.2.2.2
  have b31 := hB.2.2.2
  have hA0 := hA.mv X0.warmed.alike hh0
  have hB0 := hB.mv X0.warmed.alike hh0
  have c1 : Steps p.tables e below (s₁.setTop (entryFrame m #[.ref a, .ref b] 3)) (s₁.setTop (mkF m 0 #[.val (.ref a), .val (.ref b), .unset] [])) := entry rfl
  have c2 : Steps p.tables e below (s₁.setTop (entryFrame m #[.ref a, .ref b] 3)) (s₁.setTop (mkF m 4 #[.val (.ref a), .val (.ref b), .unset] [.int (Int32.ofNat B.slots.size), .int (Int32.ofNat A.slots.size)])) := c1.trans (by
    refine XS.aloadN X0.here hexec rfl (hb hbytes d0) rfl rfl ?_
    refine X0.alen hexec hA0 rfl rfl (hb hbytes d1) ?_
    refine XS.aloadN X0.here hexec rfl (hb hbytes d2) rfl rfl ?_
    refine X0.alen hexec hB0 rfl rfl (hb hbytes d3) ?_
    exact Steps.refl _)
  by_cases hs : A.slots.size = B.slots.size
  · have c3 : Steps p.tables e below (s₁.setTop (entryFrame m #[.ref a, .ref b] 3)) (s₁.setTop (mkF m 9 #[.val (.ref a), .val (.ref b), .val (.int 0)] [])) := c2.trans (by
      refine XS.icmpNo X0.here hexec rfl (hb hbytes d4) rfl (ii_ne_f (by rw [hs])) ?_
      refine iconstV X0.here hexec rfl 0 (hb hbytes d7) (by decide) ?_
      refine XS.istoreN X0.here hexec rfl (hb hbytes d8) rfl rfl ?_
      exact Steps.refl _)
    have loop : ∀ (r i : Nat), i + r = A.slots.size → (∀ j, j < i → yv A j = yv B j) → Steps p.tables e below (s₁.setTop (entryFrame m #[.ref a, .ref b] 3)) (s₁.setTop (mkF m 9 #[.val (.ref a), .val (.ref b), .val (.int (Int32.ofNat i))] [])) → ∃ (pc : Nat) (Ls : Array Slot) (v : Int32), (pc = 25 ∨ pc = 33) ∧ ((v = 1 ∧ EqC A B) ∨ (v = 0 ∧ ¬ EqC A B)) ∧ Steps p.tables e below (s₁.setTop (entryFrame m #[.ref a, .ref b] 3)) (s₁.setTop (mkF m pc Ls [.int v])) := by
      intro r
      induction r with
      | zero =>
        intro i hi he cl
        exact ⟨33, _, 1, Or.inr rfl, Or.inl ⟨rfl, hs, fun j hj => he j (by omega)⟩, cl.trans (by
          refine XS.iloadN X0.here hexec rfl (hb hbytes d9) rfl ?_
          refine XS.aloadN X0.here hexec rfl (hb hbytes d10) rfl rfl ?_
          refine X0.alen hexec hA0 rfl rfl (hb hbytes d11) ?_
          refine XS.icmpYes X0.here hexec rfl (pc0 := 12) rfl (hb hbytes d12) rfl (ii_ge_t (nlt32 (by omega) (by omega))) (by decide) rfl ?_
          refine iconstV X0.here hexec rfl 1 (hb hbytes d32) (by decide) ?_
          exact Steps.refl _)⟩
      | succ r ih =>
        intro i hi he cl
        have c4 : Steps p.tables e below (s₁.setTop (entryFrame m #[.ref a, .ref b] 3)) (s₁.setTop (mkF m 21 #[.val (.ref a), .val (.ref b), .val (.int (Int32.ofNat i))] [.int (yv B i), .int (yv A i)])) := cl.trans (by
          refine XS.iloadN X0.here hexec rfl (hb hbytes d9) rfl ?_
          refine XS.aloadN X0.here hexec rfl (hb hbytes d10) rfl rfl ?_
          refine X0.alen hexec hA0 rfl rfl (hb hbytes d11) ?_
          refine XS.icmpNo X0.here hexec rfl (hb hbytes d12) rfl (ii_ge_f (lt32 (by omega) (by omega))) ?_
          refine XS.aloadN X0.here hexec rfl (hb hbytes d15) rfl rfl ?_
          refine XS.iloadN X0.here hexec rfl (hb hbytes d16) rfl ?_
          refine X0.aget hexec hA0 rfl (yv_get hA tA (i := i) (by omega)) rfl rfl (hb hbytes d17) ?_
          refine XS.aloadN X0.here hexec rfl (hb hbytes d18) rfl rfl ?_
          refine XS.iloadN X0.here hexec rfl (hb hbytes d19) rfl ?_
          refine X0.aget hexec hB0 rfl (yv_get hB tB (i := i) (by omega)) rfl rfl (hb hbytes d20) ?_
          exact Steps.refl _)
        by_cases hv : yv A i = yv B i
        · have c5 : Steps p.tables e below (s₁.setTop (entryFrame m #[.ref a, .ref b] 3)) (s₁.setTop (mkF m 9 #[.val (.ref a), .val (.ref b), .val (.int (Int32.ofNat i + 1))] [])) := c4.trans (by
            refine XS.icmpYes X0.here hexec rfl (pc0 := 21) rfl (hb hbytes d21) rfl (ii_eq_t hv) (by decide) rfl ?_
            refine iincV X0.here hexec rfl 1 (hb hbytes d26) (by decide) rfl rfl ?_
            refine XS.goto X0.here hexec rfl (pc0 := 29) rfl (hb hbytes d29) (by decide) rfl ?_
            exact Steps.refl _)
          rw [succ32] at c5
          exact ih (i + 1) (by omega) (fun j hj => by
            by_cases e : j = i
            · rw [e]; exact hv
            · exact he j (by omega)) c5
        · exact ⟨25, _, 0, Or.inl rfl, Or.inr ⟨rfl, fun q => hv (q.2 i (by omega))⟩, c4.trans (by
            refine XS.icmpNo X0.here hexec rfl (hb hbytes d21) rfl (ii_eq_f hv) ?_
            refine iconstV X0.here hexec rfl 0 (hb hbytes d24) (by decide) ?_
            exact Steps.refl _)⟩
    obtain ⟨pc, Ls, v, hpc, hv, cz⟩ := loop A.slots.size 0 (by omega) (fun j hj => absurd hj (Nat.not_lt_zero j)) c3
    have nv : narrow .boolean (.int v) = .int v := by rcases hv with ⟨rfl, -⟩ | ⟨rfl, -⟩ <;> rfl
    rcases hpc with rfl | rfl
    · exact ⟨s₁, some (.int v), _, _, _, X0, rfl, rfl, rfl, (fun h => by cases h), ⟨v, rfl, hh0, hv⟩, fun fs hl => cz.trans (X0.ireturnOut hexec hret nv (Or.inr (Or.inl rfl)) (hb hbytes d25) hl)⟩
    · exact ⟨s₁, some (.int v), _, _, _, X0, rfl, rfl, rfl, (fun h => by cases h), ⟨v, rfl, hh0, hv⟩, fun fs hl => cz.trans (X0.ireturnOut hexec hret nv (Or.inr (Or.inl rfl)) (hb hbytes d33) hl)⟩
  · have c3 : Steps p.tables e below (s₁.setTop (entryFrame m #[.ref a, .ref b] 3)) (s₁.setTop (mkF m 35 #[.val (.ref a), .val (.ref b), .unset] [.int 0])) := c2.trans (by
      refine XS.icmpYes X0.here hexec rfl (pc0 := 4) rfl (hb hbytes d4) rfl (ii_ne_t (ne32 a31 b31 hs)) (by decide) rfl ?_
      refine iconstV X0.here hexec rfl 0 (hb hbytes d34) (by decide) ?_
      exact Steps.refl _)
    exact ⟨s₁, some (.int 0), _, _, _, X0, rfl, rfl, rfl, (fun h => by cases h), ⟨0, rfl, hh0, Or.inr ⟨rfl, fun q => hs q.1⟩⟩, fun fs hl => c3.trans (X0.ireturnOut hexec hret rfl (Or.inr (Or.inl rfl)) (hb hbytes d35) hl)⟩
end LEq
theorem Cod.ty {cd : Int32} {n : Nat} {f : Nat → Int32} {V : Cell} (h : Cod cd n f V) : Typed .byte V := fun i v hv => by
  have hi : i < V.slots.size := (Array.getElem?_eq_some_iff.mp hv).1
  rcases h with ⟨-, k1, k2⟩ | ⟨-, k1, k2, -⟩
  · rw [(k2 i (by omega)).1] at hv; cases hv; exact fits_lo8 _
  · rcases Nat.mod_two_eq_zero_or_one i with e | e
    · obtain ⟨j, rfl⟩ : ∃ j, i = 2 * j := ⟨i / 2, by omega⟩
      rw [(k2 j (by omega)).1] at hv; cases hv; exact fits_lo8 _
    · obtain ⟨j, rfl⟩ : ∃ j, i = 2 * j + 1 := ⟨i / 2, by omega⟩
      rw [(k2 j (by omega)).2] at hv; cases hv; exact fits_lo8 _
/-- the same text -/
def SameT (n : Nat) (f : Nat → Int32) (k : Nat) (g : Nat → Int32) : Prop := n = k ∧ ∀ j, j < n → f j = g j
theorem lo8_inj {x y : Int32} (h0 : ¬ x < 0) (h1 : ¬ 255 < x) (k0 : ¬ y < 0) (k1 : ¬ 255 < y) (h : lo8 x = lo8 y) : x = y := by
  rw [← lo8_mask h0 h1, ← lo8_mask k0 k1, h]
/-- arrays coded by one coder are equal just where the texts are -/
theorem Cod.eqv {cd : Int32} {n k : Nat} {f g : Nat → Int32} {V V' : Cell} (h : Cod cd n f V) (h' : Cod cd k g V') (hf : ∀ j, j < n → ¬ f j < 0 ∧ ¬ 65535 < f j) (hg : ∀ j, j < k → ¬ g j < 0 ∧ ¬ 65535 < g j) : EqC V V' ↔ SameT n f k g := by
  have yvv : ∀ {W : Cell} {i : Nat} {x : Int32}, W.slots[i]? = some (.int x) → yv W i = x := fun q => by unfold yv; rw [q]
  rcases h with ⟨rfl, k1, k2⟩ | ⟨rfl, k1, k2, -⟩
  · rcases h' with ⟨-, m1, m2⟩ | ⟨e, -⟩
    · constructor
      · rintro ⟨e1, e2⟩
        refine ⟨by omega, fun j hj => ?_⟩
        have q := e2 j (by omega)
        rw [yvv (k2 j hj).1, yvv (m2 j (by omega)).1] at q
        exact lo8_inj (hf j hj).1 (k2 j hj).2 (hg j (by omega)).1 (m2 j (by omega)).2 q
      · rintro ⟨rfl, e2⟩
        refine ⟨by omega, fun j hj => ?_⟩
        rw [yvv (k2 j (by omega)).1, yvv (m2 j (by omega)).1, e2 j (by omega)]
    · exact absurd e (by decide)
  · rcases h' with ⟨e, -⟩ | ⟨-, m1, m2, -⟩
    · exact absurd e (by decide)
    · constructor
      · rintro ⟨e1, e2⟩
        refine ⟨by omega, fun j hj => ?_⟩
        have q1 := e2 (2 * j) (by omega)
        have q2 := e2 (2 * j + 1) (by omega)
        rw [yvv (k2 j hj).1, yvv (m2 j (by omega)).1] at q1
        rw [yvv (k2 j hj).2, yvv (m2 j (by omega)).2] at q2
        rw [← pair_says (hf j hj).1 (hf j hj).2, ← pair_says (hg j (by omega)).1 (hg j (by omega)).2, q1, q2]
      · rintro ⟨rfl, e2⟩
        refine ⟨by omega, fun i hi => ?_⟩
        rcases Nat.mod_two_eq_zero_or_one i with e | e
        · obtain ⟨j, rfl⟩ : ∃ j, i = 2 * j := ⟨i / 2, by omega⟩
          rw [yvv (k2 j (by omega)).1, yvv (m2 j (by omega)).1, e2 j (by omega)]
        · obtain ⟨j, rfl⟩ : ∃ j, i = 2 * j + 1 := ⟨i / 2, by omega⟩
          rw [yvv (k2 j (by omega)).2, yvv (m2 j (by omega)).2, e2 j (by omega)]
/-- two codings differ: so do the texts -/
theorem Cod.dif {cd cd' : Int32} {n k : Nat} {f g : Nat → Int32} {V V' : Cell} (h : Cod cd n f V) (h' : Cod cd' k g V') (hne : ¬ cd = cd') : ¬ SameT n f k g := by
  rintro ⟨rfl, e⟩
  rcases h with ⟨rfl, -, k2⟩ | ⟨rfl, -, -, j, hj, hw⟩
  · rcases h' with ⟨rfl, -⟩ | ⟨-, -, -, j, hj, hw⟩
    · exact hne rfl
    · exact (k2 j hj).2 (by rw [e j hj]; exact hw)
  · rcases h' with ⟨-, -, m2⟩ | ⟨rfl, -⟩
    · exact (m2 j hj).2 (by rw [← e j hj]; exact hw)
    · exact hne rfl
/-- an object of exactly C is an instance of C -/
theorem cinst {p : Program} {l : Launch} {e : Env} {R : Room} {s : State} {m : MethodId} {args : Array Value} {below : List Frame} {meth : Method} {c : Code} {T : State} {locs : List Loc} {cells slots : Nat} (X : Stand p l e R s m args below meth c T locs cells slots) (hexec : p.tables.exec = Jvm.exec) {own C : String} {index : Nat} (hown : s.vm.findClass own = some m.cls) (hlink : (Cond.classLink own index C).before args s = true) {a : Addr} (hE : Exact C a T)
    {g : JFrame} (hg : g.method = m) {rest : List Value} (hstack : g.stack = .ref a :: rest) (hdg : decode c.code g.pc = .ok (.instanceof index, 3)) :
    ∃ T', Stand p l e R s m args below meth c T' locs cells slots ∧ T'.heap = T.heap ∧ ∀ target, Steps p.tables e below (T'.setTop { g with pc := g.pc + 3, stack := .int 1 :: rest }) target → Steps p.tables e below (T.setTop g) target := by
  obtain ⟨cB, h1, D, h2, h3, h4⟩ := hE
  have h1' : s.vm.findClass C = some cB := by rw [← X.warmed.alike.findClass]; exact h1
  obtain ⟨vm', X', st⟩ := X.instanceofYes hexec hown hlink h2 h4 h1' (by rw [h3]; exact Jvm.Free.SB.assignable_self _ _) hg hstack hdg
  exact ⟨_, X', rfl, st⟩
theorem cself {p : Program} {l : Launch} {e : Env} {R : Room} {s : State} {m : MethodId} {args : Array Value} {below : List Frame} {meth : Method} {c : Code} {T : State} {locs : List Loc} {cells slots : Nat} (X : Stand p l e R s m args below meth c T locs cells slots) (hexec : p.tables.exec = Jvm.exec) {own C : String} {index : Nat} (hown : s.vm.findClass own = some m.cls) (hlink : (Cond.classLink own index C).before args s = true) {a : Addr} (hE : Exact C a T)
    {g : JFrame} (hg : g.method = m) {rest : List Value} (hstack : g.stack = .ref a :: rest) (hdg : decode c.code g.pc = .ok (.checkcast index, 3)) :
    ∃ T', Stand p l e R s m args below meth c T' locs cells slots ∧ T'.heap = T.heap ∧ ∀ target, Steps p.tables e below (T'.setTop { g with pc := g.pc + 3, stack := .ref a :: rest }) target → Steps p.tables e below (T.setTop g) target := by
  obtain ⟨cB, h1, D, h2, h3, h4⟩ := hE
  have h1' : s.vm.findClass C = some cB := by rw [← X.warmed.alike.findClass]; exact h1
  obtain ⟨vm', X', st⟩ := X.checkcastYes hexec hown hlink h2 h4 h1' (by rw [h3]; exact Jvm.Free.SB.assignable_self _ _) hg hstack hdg
  exact ⟨_, X', rfl, fun t h => st t (by rw [← hstack] at h; exact h)⟩
namespace SEq
def yN : MethodName := ⟨"java/lang/String", "equals", "(Ljava/lang/Object;)Z"⟩
abbrev yB : ByteArray := jdk_42_method_66_code
theorem d0 : decode yB 0 = .ok (.aload_n 0, 1) := by decide +kernel
theorem d1 : decode yB 1 = .ok (.aload_n 1, 1) := by decide +kernel
theorem d2 : decode yB 2 = .ok (.if_acmp (.ne) 5, 3) := by decide +kernel
theorem d5 : decode yB 5 = .ok (.iconst 1, 1) := by decide +kernel
theorem d6 : decode yB 6 = .ok (.ireturn, 1) := by decide +kernel
theorem d7 : decode yB 7 = .ok (.aload_n 1, 1) := by decide +kernel
theorem d8 : decode yB 8 = .ok (.instanceof 10, 3) := by decide +kernel
theorem d11 : decode yB 11 = .ok (.ifCond (.eq) 43, 3) := by decide +kernel
theorem d14 : decode yB 14 = .ok (.aload_n 1, 1) := by decide +kernel
theorem d15 : decode yB 15 = .ok (.checkcast 10, 3) := by decide +kernel
theorem d18 : decode yB 18 = .ok (.astore_n 2, 1) := by decide +kernel
theorem d19 : decode yB 19 = .ok (.getstatic 38, 3) := by decide +kernel
theorem d22 : decode yB 22 = .ok (.ifCond (.eq) 14, 3) := by decide +kernel
theorem d25 : decode yB 25 = .ok (.aload_n 0, 1) := by decide +kernel
theorem d26 : decode yB 26 = .ok (.getfield 15, 3) := by decide +kernel
theorem d29 : decode yB 29 = .ok (.aload_n 2, 1) := by decide +kernel
theorem d30 : decode yB 30 = .ok (.getfield 15, 3) := by decide +kernel
theorem d33 : decode yB 33 = .ok (.if_icmp (.ne) 21, 3) := by decide +kernel
theorem d36 : decode yB 36 = .ok (.aload_n 0, 1) := by decide +kernel
theorem d37 : decode yB 37 = .ok (.getfield 9, 3) := by decide +kernel
theorem d40 : decode yB 40 = .ok (.aload_n 2, 1) := by decide +kernel
theorem d41 : decode yB 41 = .ok (.getfield 9, 3) := by decide +kernel
theorem d44 : decode yB 44 = .ok (.invokestatic 541, 3) := by decide +kernel
theorem d47 : decode yB 47 = .ok (.ifCond (.eq) 7, 3) := by decide +kernel
theorem d50 : decode yB 50 = .ok (.iconst 1, 1) := by decide +kernel
theorem d51 : decode yB 51 = .ok (.goto 4, 3) := by decide +kernel
theorem d54 : decode yB 54 = .ok (.iconst 0, 1) := by decide +kernel
theorem d55 : decode yB 55 = .ok (.ireturn, 1) := by decide +kernel
def site : List Cond := [.classLink "java/lang/String" 10 "java/lang/String", .fieldLink "java/lang/String" 38 "java/lang/String" "COMPACT_STRINGS" "Z", .fieldLink "java/lang/String" 15 "java/lang/String" "coder" "B", .fieldLink "java/lang/String" 9 "java/lang/String" "value" "[B", LEq.tab] ++ staticW "java/lang/String" 541 LEq.yN
def tab : Cond := tabOf yN yB 3 (some .boolean) site
def P (x t : Addr) (V : Cell) (cd : Int32) (n : Nat) (f : Nat → Int32) (y t' : Addr) (V' : Cell) (cd' : Int32) (k : Nat) (g : Nat → Int32) (z : Int32) (args : Array Value) (s : State) : Prop := args = #[.ref x, .ref y] ∧ Txt x t V cd n f s ∧ Txt y t' V' cd' k g s ∧ StaticIs s "java/lang/String" "COMPACT_STRINGS" "Z" (.int z) ∧ ¬ z = 0
/-- equals(Object) of two Strings: whether the texts are the same -/
theorem law (l : Launch) (x t : Addr) (V : Cell) (cd : Int32) (n : Nat) (f : Nat → Int32) (y t' : Addr) (V' : Cell) (cd' : Int32) (k : Nat) (g : Nat → Int32) (z : Int32) : Law l yN 2 1 1 14 yB 3 (some .boolean) site (P x t V cd n f y t' V' cd' k g z) (Says01 (SameT n f k g)) [] 0 0 := by
  refine Law.of_walk (plainFor_of_name (by decide +kernel)) (by decide +kernel) (by decide +kernel) (by decide) (fun _ _ h => by rw [h.1]; rfl) (fun _ U U' hal hh h => ⟨h.1, h.2.1.mv hal hh, h.2.2.1.mv hal hh, h.2.2.2.1.there hal hh, h.2.2.2.2⟩) (fun r U U' V V' h1 hal h2 h => Says01.mv r U U' V V' h1 hal h2 h) ?_
  intro p e s m args below meth c s₁ X0 hexec hbytes hml hret hlk hnm hown hh0 W hP
  obtain ⟨rfl, hx, hy, s1, hz⟩ := hP
  have c1 : Steps p.tables e below (s₁.setTop (entryFrame m #[.ref x, .ref y] 3)) (s₁.setTop (mkF m 2 #[.val (.ref x), .val (.ref y), .unset] [.ref y, .ref x])) := Steps.trans (entry rfl) (by
    show Steps p.tables e below (s₁.setTop (mkF m 0 #[.val (.ref x), .val (.ref y), .unset] [])) _
    refine XS.aloadN X0.here hexec rfl (hb hbytes d0) rfl rfl ?_
    refine XS.aloadN X0.here hexec rfl (hb hbytes d1) rfl rfl ?_
    exact Steps.refl _)
  by_cases hxy : x = y
  · have c2 : Steps p.tables e below (s₁.setTop (entryFrame m #[.ref x, .ref y] 3)) (s₁.setTop (mkF m 6 #[.val (.ref x), .val (.ref y), .unset] [.int 1])) := c1.trans (by
      refine acmpNo X0.here hexec rfl (hb hbytes d2) rfl rfl rfl (by simp [acmp, hxy]) ?_
      refine iconstV X0.here hexec rfl 1 (hb hbytes d5) (by decide) ?_
      exact Steps.refl _)
    subst hxy
    have ec : cd = cd' := by
      obtain ⟨D, fd, a1, a2, a3⟩ := hx.2.2.1
      obtain ⟨D', fd', b1, b2, b3⟩ := hy.2.2.1
      cases a1.symm.trans b1
      obtain ⟨q1, q2, q3, q4⟩ := a2.1
      obtain ⟨r1, r2, r3, r4⟩ := b2.1
      cases q4.symm.trans r4
      cases a3.symm.trans b3; rfl
    have et : t = t' := by
      obtain ⟨D, fd, a1, a2, a3⟩ := hx.2.1
      obtain ⟨D', fd', b1, b2, b3⟩ := hy.2.1
      cases a1.symm.trans b1
      obtain ⟨q1, q2, q3, q4⟩ := a2.1
      obtain ⟨r1, r2, r3, r4⟩ := b2.1
      cases q4.symm.trans r4
      cases a3.symm.trans b3; rfl
    subst ec et
    have ev : V = V' := by cases hx.2.2.2.1.1.symm.trans hy.2.2.2.1.1; rfl
    subst ev
    have hs : SameT n f k g := (Cod.eqv hx.2.2.2.2.1 hy.2.2.2.2.1 hx.2.2.2.2.2 hy.2.2.2.2.2).mp ⟨rfl, fun _ _ => rfl⟩
    exact ⟨s₁, some (.int 1), _, _, _, X0, rfl, rfl, rfl, (fun h => by cases h), ⟨1, rfl, hh0, Or.inl ⟨rfl, hs⟩⟩, fun fs hl => c2.trans (X0.ireturnOut hexec hret rfl (Or.inr (Or.inl rfl)) (hb hbytes d6) hl)⟩
  · have c2 : Steps p.tables e below (s₁.setTop (entryFrame m #[.ref x, .ref y] 3)) (s₁.setTop (mkF m 8 #[.val (.ref x), .val (.ref y), .unset] [.ref y])) := c1.trans (by
      refine acmpYes X0.here hexec rfl (pc0 := 2) rfl (hb hbytes d2) rfl rfl rfl (by simp [acmp, hxy]) (by decide) rfl ?_
      refine XS.aloadN X0.here hexec rfl (hb hbytes d7) rfl rfl ?_
      exact Steps.refl _)
    obtain ⟨T3, X3, q3, st3⟩ := cinst X0 hexec hown (wk W (.classLink "java/lang/String" 10 "java/lang/String")) (hy.mv X0.warmed.alike hh0).1 (g := (mkF m 8 #[.val (.ref x), .val (.ref y), .unset] [.ref y])) rfl (rest := []) rfl (hb hbytes d8)
    have hh3 := q3.trans hh0
    have c4 : Steps p.tables e below (s₁.setTop (entryFrame m #[.ref x, .ref y] 3)) (T3.setTop (mkF m 15 #[.val (.ref x), .val (.ref y), .unset] [.ref y])) := (c2.trans (st3 _ (Steps.refl _))).trans (by
      refine XS.ifNo X3.here hexec rfl (hb hbytes d11) rfl (i0_eq_f (by decide)) ?_
      refine XS.aloadN X3.here hexec rfl (hb hbytes d14) rfl rfl ?_
      exact Steps.refl _)
    obtain ⟨T5, X5, q5, st5⟩ := cself X3 hexec hown (wk W (.classLink "java/lang/String" 10 "java/lang/String")) (hy.mv X3.warmed.alike hh3).1 (g := (mkF m 15 #[.val (.ref x), .val (.ref y), .unset] [.ref y])) rfl (rest := []) rfl (hb hbytes d15)
    have hh5 := q5.trans hh3
    have c6 : Steps p.tables e below (s₁.setTop (entryFrame m #[.ref x, .ref y] 3)) (T5.setTop (mkF m 19 #[.val (.ref x), .val (.ref y), .val (.ref y)] [])) := (c4.trans (st5 _ (Steps.refl _))).trans (by
      refine XS.astoreN X5.here hexec rfl (hb hbytes d18) rfl rfl rfl ?_
      exact Steps.refl _)
    obtain ⟨T7, X7, q7, st7⟩ := X5.sget hexec hown (wk W (.fieldLink "java/lang/String" 38 "java/lang/String" "COMPACT_STRINGS" "Z")) s1 (fun _ _ h => by rw [hh5]; exact h) (g := (mkF m 19 #[.val (.ref x), .val (.ref y), .val (.ref y)] [])) rfl (hb hbytes d19)
    have hh7 := q7.trans hh5
    have c8 : Steps p.tables e below (s₁.setTop (entryFrame m #[.ref x, .ref y] 3)) (T7.setTop (mkF m 26 #[.val (.ref x), .val (.ref y), .val (.ref y)] [.ref x])) := (c6.trans (st7 _ (Steps.refl _))).trans (by
      refine XS.ifNo X7.here hexec rfl (hb hbytes d22) rfl (i0_eq_f hz) ?_
      refine XS.aloadN X7.here hexec rfl (hb hbytes d25) rfl rfl ?_
      exact Steps.refl _)
    obtain ⟨T9, X9, q9, st9⟩ := X7.hget hexec hown (wk W (.fieldLink "java/lang/String" 15 "java/lang/String" "coder" "B")) (hx.mv X7.warmed.alike hh7).2.2.1 (g := (mkF m 26 #[.val (.ref x), .val (.ref y), .val (.ref y)] [.ref x])) rfl (rest := []) rfl (hb hbytes d26)
    have hh9 := q9.trans hh7
    have c10 : Steps p.tables e below (s₁.setTop (entryFrame m #[.ref x, .ref y] 3)) (T9.setTop (mkF m 30 #[.val (.ref x), .val (.ref y), .val (.ref y)] [.ref y, .int cd])) := (c8.trans (st9 _ (Steps.refl _))).trans (by
      refine XS.aloadN X9.here hexec rfl (hb hbytes d29) rfl rfl ?_
      exact Steps.refl _)
    obtain ⟨T11, X11, q11, st11⟩ := X9.hget hexec hown (wk W (.fieldLink "java/lang/String" 15 "java/lang/String" "coder" "B")) (hy.mv X9.warmed.alike hh9).2.2.1 (g := (mkF m 30 #[.val (.ref x), .val (.ref y), .val (.ref y)] [.ref y, .int cd])) rfl (rest := [.int cd]) rfl (hb hbytes d30)
    have hh11 := q11.trans hh9
    have c12 : Steps p.tables e below (s₁.setTop (entryFrame m #[.ref x, .ref y] 3)) (T11.setTop (mkF m 33 #[.val (.ref x), .val (.ref y), .val (.ref y)] [.int cd', .int cd])) := c10.trans (st11 _ (Steps.refl _))
    by_cases hcd : cd = cd'
    · subst hcd
      have c13 : Steps p.tables e below (s₁.setTop (entryFrame m #[.ref x, .ref y] 3)) (T11.setTop (mkF m 37 #[.val (.ref x), .val (.ref y), .val (.ref y)] [.ref x])) := c12.trans (by
        refine XS.icmpNo X11.here hexec rfl (hb hbytes d33) rfl (ii_ne_f rfl) ?_
        refine XS.aloadN X11.here hexec rfl (hb hbytes d36) rfl rfl ?_
        exact Steps.refl _)
      obtain ⟨T14, X14, q14, st14⟩ := X11.hget hexec hown (wk W (.fieldLink "java/lang/String" 9 "java/lang/String" "value" "[B")) (hx.mv X11.warmed.alike hh11).2.1 (g := (mkF m 37 #[.val (.ref x), .val (.ref y), .val (.ref y)] [.ref x])) rfl (rest := []) rfl (hb hbytes d37)
      have hh14 := q14.trans hh11
      have c15 : Steps p.tables e below (s₁.setTop (entryFrame m #[.ref x, .ref y] 3)) (T14.setTop (mkF m 41 #[.val (.ref x), .val (.ref y), .val (.ref y)] [.ref y, .ref t])) := (c13.trans (st14 _ (Steps.refl _))).trans (by
        refine XS.aloadN X14.here hexec rfl (hb hbytes d40) rfl rfl ?_
        exact Steps.refl _)
      obtain ⟨T16, X16, q16, st16⟩ := X14.hget hexec hown (wk W (.fieldLink "java/lang/String" 9 "java/lang/String" "value" "[B")) (hy.mv X14.warmed.alike hh14).2.1 (g := (mkF m 41 #[.val (.ref x), .val (.ref y), .val (.ref y)] [.ref y, .ref t])) rfl (rest := [.ref t]) rfl (hb hbytes d41)
      have hh16 := q16.trans hh14
      have c17 : Steps p.tables e below (s₁.setTop (entryFrame m #[.ref x, .ref y] 3)) (T16.setTop (mkF m 44 #[.val (.ref x), .val (.ref y), .val (.ref y)] [.ref t', .ref t])) := c15.trans (st16 _ (Steps.refl _))
      obtain ⟨v18, T18, X18, E18, g18⟩ := X16.callS hexec (LEq.law l t V t' V') hown (wks W (staticW "java/lang/String" 541 LEq.yN)) (wk W LEq.tab) (W := 0) (Nat.le_of_ble_eq_true rfl) (Nat.le_of_ble_eq_true rfl) (Nat.le_refl _) (Nat.le_refl _) (g := (mkF m 44 #[.val (.ref x), .val (.ref y), .val (.ref y)] [.ref t', .ref t])) rfl (by rw [hml]; rfl) c17 (argsL := [.ref t, .ref t']) (rest := []) rfl rfl (by show 2 * 0 + 0 ≤ _; decide) (hb hbytes d44) (⟨rfl, hx.2.2.2.1.mv X16.warmed.alike hh16, hx.2.2.2.2.1.ty, hy.2.2.2.1.mv X16.warmed.alike hh16, hy.2.2.2.2.1.ty⟩)
      obtain ⟨v, rfl, q18, hv⟩ := E18
      have iff := Cod.eqv hx.2.2.2.2.1 hy.2.2.2.2.1 hx.2.2.2.2.2 hy.2.2.2.2.2
      rcases hv with ⟨rfl, he⟩ | ⟨rfl, he⟩
      · have c19 : Steps p.tables e below (s₁.setTop (entryFrame m #[.ref x, .ref y] 3)) (T18.setTop (mkF m 55 #[.val (.ref x), .val (.ref y), .val (.ref y)] [.int 1])) := Steps.trans g18 (by
          refine XS.ifNo X18.here hexec rfl (hb hbytes d47) rfl (i0_eq_f (by decide)) ?_
          refine iconstV X18.here hexec rfl 1 (hb hbytes d50) (by decide) ?_
          refine XS.goto X18.here hexec rfl (pc0 := 51) rfl (hb hbytes d51) (by decide) rfl ?_
          exact Steps.refl _)
        exact ⟨T18, some (.int 1), _, _, _, X18, rfl, rfl, rfl, (fun h => by cases h), ⟨1, rfl, q18.trans hh16, Or.inl ⟨rfl, iff.mp he⟩⟩, fun fs hl => c19.trans (X18.ireturnOut hexec hret rfl (Or.inr (Or.inl rfl)) (hb hbytes d55) hl)⟩
      · have c19 : Steps p.tables e below (s₁.setTop (entryFrame m #[.ref x, .ref y] 3)) (T18.setTop (mkF m 55 #[.val (.ref x), .val (.ref y), .val (.ref y)] [.int 0])) := Steps.trans g18 (by
          refine XS.ifYes X18.here hexec rfl (pc0 := 47) rfl (hb hbytes d47) rfl (i0_eq_t rfl) (by decide) rfl ?_
          refine iconstV X18.here hexec rfl 0 (hb hbytes d54) (by decide) ?_
          exact Steps.refl _)
        exact ⟨T18, some (.int 0), _, _, _, X18, rfl, rfl, rfl, (fun h => by cases h), ⟨0, rfl, q18.trans hh16, Or.inr ⟨rfl, fun q => he (iff.mpr q)⟩⟩, fun fs hl => c19.trans (X18.ireturnOut hexec hret rfl (Or.inr (Or.inl rfl)) (hb hbytes d55) hl)⟩
    · have c13 : Steps p.tables e below (s₁.setTop (entryFrame m #[.ref x, .ref y] 3)) (T11.setTop (mkF m 55 #[.val (.ref x), .val (.ref y), .val (.ref y)] [.int 0])) := c12.trans (by
        refine XS.icmpYes X11.here hexec rfl (pc0 := 33) rfl (hb hbytes d33) rfl (ii_ne_t hcd) (by decide) rfl ?_
        refine iconstV X11.here hexec rfl 0 (hb hbytes d54) (by decide) ?_
        exact Steps.refl _)
      exact ⟨T11, some (.int 0), _, _, _, X11, rfl, rfl, rfl, (fun h => by cases h), ⟨0, rfl, hh11, Or.inr ⟨rfl, Cod.dif hx.2.2.2.2.1 hy.2.2.2.2.1 hcd⟩⟩, fun fs hl => c13.trans (X11.ireturnOut hexec hret rfl (Or.inr (Or.inl rfl)) (hb hbytes d55) hl)⟩
theorem pays {l : Launch} {R : Room} {p : Program} {e : Env} {below : List Frame} {s : State} {sargs : Array Value} {len W : Nat} (x t : Addr) (V : Cell) (cd : Int32) (n : Nat) (f : Nat → Int32) (y t' : Addr) (V' : Cell) (cd' : Int32) (k : Nat) (g : Nat → Int32) (z : Int32) (htab : tab.before sargs s = true) (hfr : 2 ≤ R.frames) (hlo : W + 28 ≤ R.locals) :
    Back l R p e below s sargs yN len W (fun A₁ a₁ => A₁.cells + 0 ≤ R.cells ∧ A₁.slots + 0 ≤ R.slots ∧ P x t V cd n f y t' V' cd' k g z a₁ A₁.U) (fun A₁ _ v₁ B₁ => Says01 (SameT n f k g) v₁ A₁.U B₁.U ∧ B₁.locs = A₁.locs ++ [] ∧ B₁.cells = A₁.cells + 0 ∧ B₁.slots = A₁.slots + 0) :=
  (law l x t V cd n f y t' V' cd' k g z).pays htab hfr (by omega)
end SEq
end StrChars
namespace StrChars.Road
open Jvm Sem ClassFile Op Lib Jvm.Stand Jvm.Free Jvm.Free.XT
open Jvm.Lib.Cold (StaticIs)
/-- the words of String.equals(Object) -/
abbrev wordsEq : List Jvm.Cond := [.code SEq.yN SEq.yB 3 (some .boolean), .initialized ST, .classLink ST 10 ST, .fieldLink ST 38 ST "COMPACT_STRINGS" "Z", .fieldLink ST 15 ST "coder" "B", .fieldLink ST 9 ST "value" "[B", .methodLink ST 541 LEq.yN, .static LEq.yN, .code LEq.yN LEq.yB 3 (some .boolean), .initialized "java/lang/StringLatin1"]
theorem tabEq_of {a : Array Value} {s : State} (h : ∀ w ∈ wordsEq, w.before a s = true) : SEq.tab.before a s = true := by
  have hl : LEq.tab.before a s = true := unparts (wk h (.code LEq.yN LEq.yB 3 (some .boolean))) (wks h (.initialized LEq.yN.cls :: LEq.site))
  have q := consq hl h
  exact unparts (wk q (.code SEq.yN SEq.yB 3 (some .boolean))) (wks q (.initialized SEq.yN.cls :: SEq.site))
theorem movedEq {Z s : State} {a0 args : Array Value} (hZ : Z.Warmed39 s.vm) (hw : ∀ d ∈ wordsEq, d.before a0 Z = true) : ∀ d ∈ wordsEq, d.before args s = true := fun d hd => by
  have t : ∀ d ∈ wordsEq, (d.onTables && d.keepsFace) = true := by decide +kernel
  exact RoadKit.mv hZ (hw d hd) (t d hd)
/-- the road's facts of a String, as the laws ask it -/
theorem txt_of {Z U : State} {a0 : Array Value} {kI : Nat} (wi : (Jvm.Cond.instantiable ST kI).before a0 Z = true) (al : Z.vm.Alike U.vm) {x t : Addr} {kb : ClassId} {cs : List Int32} {cd N2 : Int32} {vs : List Value} (E : RoadKit.Exa Z U.heap x ST) (V : RoadKit.Fld Z U.heap x ST "value" "[B" (.ref t)) (C : RoadKit.Fld Z U.heap x ST "coder" "B" (.int cd)) (K : RoadKit.Arv Z U.heap t kb .byte N2 vs (.int 0)) (hc : CodA cs cd N2 vs) (hb : ∀ c ∈ cs, ¬ c < 0 ∧ ¬ (65535 : Int32) < c) (l2 : cs.length ≤ 4000) :
    ∃ A, Txt x t A cd cs.length (fun j => cs.getD j 0) U := by
  obtain ⟨A, K1, K2, K3, K4, K5, K6⟩ := K
  have hcod := hc.cod (by omega) K3 K5
  obtain ⟨D, fV, fC, hB, F1, F2, g1, g2, -, -⟩ := strObj wi al E V C
  exact ⟨A, ⟨_, hB.2.2.1, D, hB.1, rfl, by cases q : D.vm <;> first | rfl | exact absurd q (hB.2.1.2 _)⟩, Has.of hB F1 g1, Has.of hB F2 g2, ⟨K1.1, State.isArrayOf_alike al K1.2.1, K1.2.2, by rcases hcod with ⟨-, q, -⟩ | ⟨-, q, -⟩ <;> omega⟩, hcod, fun j hj => by
    have e : cs.getD j 0 = cs[j] := by simp [List.getD_eq_getElem?_getD, hj]
    show ¬ cs.getD j 0 < 0 ∧ ¬ 65535 < cs.getD j 0
    rw [e]; exact hb _ (List.getElem_mem _)⟩
theorem same_list (cs ds : List Int32) : SameT cs.length (fun j => cs.getD j 0) ds.length (fun j => ds.getD j 0) ↔ cs = ds := by
  constructor
  · rintro ⟨e, q⟩
    refine List.ext_getElem e fun j h1 h2 => ?_
    have := q j h1
    simpa [List.getD_eq_getElem?_getD, h1, h2] using this
  · rintro rfl
    exact ⟨rfl, fun _ _ => rfl⟩
/-- **equals(Object) OF TWO SUCH STRINGS**: 1 just where the chars are the same -/
theorem eqW {p : Program} {l : Launch} {e : Env} {R : Room} {s : State} {args : Array Value} {below : List Frame} {len W : Nat} {Z : State} {a0 : Array Value} {h : Heap} (hZ : Z.Warmed39 s.vm) (hw : ∀ d ∈ wordsEq, d.before a0 Z = true) {kI : Nat} (wi : (Jvm.Cond.instantiable ST kI).before a0 Z = true)
    {x t : Addr} {kb : ClassId} {cs : List Int32} {cd N2 : Int32} {vs : List Value} (E : RoadKit.Exa Z h x ST) (V : RoadKit.Fld Z h x ST "value" "[B" (.ref t)) (C : RoadKit.Fld Z h x ST "coder" "B" (.int cd)) (K : RoadKit.Arv Z h t kb .byte N2 vs (.int 0)) (hc : CodA cs cd N2 vs) (hb : ∀ c ∈ cs, ¬ c < 0 ∧ ¬ (65535 : Int32) < c) (l2 : cs.length ≤ 4000)
    {y t' : Addr} {kb' : ClassId} {ds : List Int32} {cd' N2' : Int32} {vs' : List Value} (E' : RoadKit.Exa Z h y ST) (V' : RoadKit.Fld Z h y ST "value" "[B" (.ref t')) (C' : RoadKit.Fld Z h y ST "coder" "B" (.int cd')) (K' : RoadKit.Arv Z h t' kb' .byte N2' vs' (.int 0)) (hc' : CodA ds cd' N2' vs') (hb' : ∀ c ∈ ds, ¬ c < 0 ∧ ¬ (65535 : Int32) < c) (l2' : ds.length ≤ 4000)
    {z : Int32} (S : RoadKit.Sta Z h ST "COMPACT_STRINGS" "Z" (.int z)) (hz : ¬ z = 0) (hfr : 2 ≤ R.frames) (hlo : W + 28 ≤ R.locals) :
    Back l R p e below s args (⟨"java/lang/String", "equals", "(Ljava/lang/Object;)Z"⟩ : MethodName) len W (fun P a => a = #[.ref x, .ref y] ∧ P.U.heap = h ∧ P.cells + 0 ≤ R.cells ∧ P.slots + 0 ≤ R.slots)
      (fun P _ v B => ∃ L, (((v = some (.int 1) ∧ cs = ds) ∨ (v = some (.int 0) ∧ ¬ cs = ds)) ∧ L = [] ∧ B.U.heap = h) ∧ B.locs = P.locs ++ L ∧ B.cells = P.cells + 0 ∧ B.slots = P.slots + 0) := by
  intro m meth c P g ig mk a X hg hsize hdg hW hn hp'
  obtain ⟨rfl, rfl, r1, r2⟩ := hp'
  have al : Z.vm.Alike P.U.vm := hZ.alike.trans X.warmed.alike
  obtain ⟨A, hx⟩ := txt_of wi al E V C K hc hb l2
  obtain ⟨A', hy⟩ := txt_of wi al E' V' C' K' hc' hb' l2'
  obtain ⟨v, B, X', ⟨⟨w, hv, hh, hq⟩, hl, hk, hs⟩, st⟩ := SEq.pays x t A cd cs.length (fun j => cs.getD j 0) y t' A' cd' ds.length (fun j => ds.getD j 0) z (tabEq_of (movedEq hZ hw)) hfr hlo m meth c P g ig mk _ X hg hsize hdg hW hn ⟨r1, r2, rfl, hx, hy, sta_is al S, hz⟩
  refine ⟨v, B, X', ⟨[], ⟨?_, rfl, hh⟩, hl, hk, hs⟩, st⟩
  rcases hq with ⟨rfl, q⟩ | ⟨rfl, q⟩
  · exact Or.inl ⟨hv, (same_list cs ds).mp q⟩
  · exact Or.inr ⟨hv, fun e => q ((same_list cs ds).mpr e)⟩
end StrChars.Road
namespace StrChars
open Jvm Sem ClassFile Op Lib Jvm.Stand Jvm.Free.XT Jvm.Free.ALB Jvm.Free.JM Jvm.Free
open Jvm.Lib.Cold (StaticIs)
namespace ChN
def yN : MethodName := ⟨"java/lang/String", "charAt", "(I)C"⟩
abbrev yB : ByteArray := jdk_42_method_56_code
theorem d0 : decode yB 0 = .ok (.aload_n 0, 1) := by decide +kernel
theorem d1 : decode yB 1 = .ok (.invokevirtual 492, 3) := by decide +kernel
theorem d4 : decode yB 4 = .ok (.ifCond (.eq) 12, 3) := by decide +kernel
theorem d7 : decode yB 7 = .ok (.aload_n 0, 1) := by decide +kernel
theorem d8 : decode yB 8 = .ok (.getfield 9, 3) := by decide +kernel
theorem d11 : decode yB 11 = .ok (.iload_n 1, 1) := by decide +kernel
theorem d12 : decode yB 12 = .ok (.invokestatic 495, 3) := by decide +kernel
theorem d15 : decode yB 15 = .ok (.ireturn, 1) := by decide +kernel
def site : List Cond := [.fieldLink "java/lang/String" 9 "java/lang/String" "value" "[B", IsL.tab, LChA.tab] ++ virtW "java/lang/String" 492 "java/lang/String" IsL.yN IsL.yN ++ staticW "java/lang/String" 495 LChA.yN
def tab : Cond := tabOf yN yB 2 (some .char) site
def P (x t : Addr) (V : Cell) (n : Nat) (f : Nat → Int32) (z : Int32) (fm : Value) (i : Nat) (args : Array Value) (s : State) : Prop := args = #[.ref x, .int (Int32.ofNat i)] ∧ Txt x t V 0 n f s ∧ i < n ∧ StaticIs s "java/lang/String" "COMPACT_STRINGS" "Z" (.int z) ∧ ¬ z = 0 ∧ StaticIs s "jdk/internal/util/Preconditions" "SIOOBE_FORMATTER" "Ljava/util/function/BiFunction;" fm ∧ fm.isRef = true
def E (f : Nat → Int32) (i : Nat) (r : Option Value) (s u : State) : Prop := XT.PureE (some (.int (f i))) r s u
/-- charAt(i) of a Latin-1 String of n chars, i < n: f i -/
theorem law (l : Launch) (x t : Addr) (V : Cell) (n : Nat) (f : Nat → Int32) (z : Int32) (fm : Value) (i : Nat) : Law l yN 2 1 3 40 yB 2 (some .char) site (P x t V n f z fm i) (E f i) [] 0 0 := by
  refine Law.of_walk (plainFor_of_name (by decide +kernel)) (by decide +kernel) (by decide +kernel) (by decide) (fun _ _ h => by rw [h.1]; rfl) (fun _ U U' hal hh h => ⟨h.1, h.2.1.mv hal hh, h.2.2.1, h.2.2.2.1.there hal hh, h.2.2.2.2.1, h.2.2.2.2.2.1.there hal hh, h.2.2.2.2.2.2⟩) (fun r U U' V V' h1 hal h2 h => XT.PureE.mv r U U' V V' h1 hal h2 h) ?_
  intro p e s m args below meth c s₁ X0 hexec hbytes hml hret hlk hnm hown hh0 W hP
  obtain ⟨rfl, hx, hi, s1, hz, s3, rf⟩ := hP
  have v31 := hx.2.2.2.1.2.2.2
  have hr := hx.2.2.2.2.2 i hi
  have hx0 := hx.mv X0.warmed.alike hh0
  have c1 : Steps p.tables e below (s₁.setTop (entryFrame m #[.ref x, .int (Int32.ofNat i)] 2)) (s₁.setTop (mkF m 1 #[.val (.ref x), .val (.int (Int32.ofNat i))] [.ref x])) := Steps.trans (entry rfl) (by
    show Steps p.tables e below (s₁.setTop (mkF m 0 #[.val (.ref x), .val (.int (Int32.ofNat i))] [])) _
    refine XS.aloadN X0.here hexec rfl (hb hbytes d0) rfl rfl ?_
    exact Steps.refl _)
  obtain ⟨v2, T2, X2, E2, g2⟩ := X0.callV hexec (IsL.law l x 0 z) hown (wks W (virtW "java/lang/String" 492 "java/lang/String" IsL.yN IsL.yN)) rfl (by decide) (wk W IsL.tab) (W := 0) (Nat.le_of_ble_eq_true rfl) (Nat.le_of_ble_eq_true rfl) (Nat.le_refl _) (Nat.le_refl _) (hx0.1.fc X0.warmed.alike) hx0.1.is (g := (mkF m 1 #[.val (.ref x), .val (.int (Int32.ofNat i))] [.ref x])) rfl (by rw [hml]; rfl) c1 (argsL := []) (rest := []) rfl rfl (by show 2 * 0 + 0 ≤ _; decide) (hb hbytes d1) (⟨rfl, hx0.2.2.1, hx.2.2.2.2.1.cd, s1.there X0.warmed.alike hh0, hz⟩)
  obtain ⟨rfl, q2⟩ := E2
  have hh2 := q2.trans hh0
  have hx2 := hx.mv X2.warmed.alike hh2
  obtain ⟨-, k1, k2⟩ | ⟨k0, -⟩ := hx.2.2.2.2.1
  · have c3 : Steps p.tables e below (s₁.setTop (entryFrame m #[.ref x, .int (Int32.ofNat i)] 2)) (T2.setTop (mkF m 8 #[.val (.ref x), .val (.int (Int32.ofNat i))] [.ref x])) := Steps.trans g2 (by
      refine XS.ifNo X2.here hexec rfl (hb hbytes d4) rfl (i0_eq_f (by decide)) ?_
      refine XS.aloadN X2.here hexec rfl (hb hbytes d7) rfl rfl ?_
      exact Steps.refl _)
    obtain ⟨T4, X4, q4, st4⟩ := X2.hget hexec hown (wk W (.fieldLink "java/lang/String" 9 "java/lang/String" "value" "[B")) hx2.2.1 (g := (mkF m 8 #[.val (.ref x), .val (.int (Int32.ofNat i))] [.ref x])) rfl (rest := []) rfl (hb hbytes d8)
    have hh4 := q4.trans hh2
    have c5 : Steps p.tables e below (s₁.setTop (entryFrame m #[.ref x, .int (Int32.ofNat i)] 2)) (T4.setTop (mkF m 12 #[.val (.ref x), .val (.int (Int32.ofNat i))] [.int (Int32.ofNat i), .ref t])) := (c3.trans (st4 _ (Steps.refl _))).trans (by
      refine XS.iloadN X4.here hexec rfl (hb hbytes d11) rfl ?_
      exact Steps.refl _)
    obtain ⟨v6, T6, X6, E6, g6⟩ := X4.callS hexec (LChA.law l t V i (lo8 (f i)) fm) hown (wks W (staticW "java/lang/String" 495 LChA.yN)) (wk W LChA.tab) (W := 0) (Nat.le_of_ble_eq_true rfl) (Nat.le_of_ble_eq_true rfl) (Nat.le_refl _) (Nat.le_refl _) (g := (mkF m 12 #[.val (.ref x), .val (.int (Int32.ofNat i))] [.int (Int32.ofNat i), .ref t])) rfl (by rw [hml]; rfl) c5 (argsL := [.ref t, .int (Int32.ofNat i)]) (rest := []) rfl rfl (by show 2 * 0 + 0 ≤ _; decide) (hb hbytes d12) (⟨rfl, hx.2.2.2.1.mv X4.warmed.alike hh4, (k2 i hi).1, s3.there X4.warmed.alike hh4, rf⟩)
    obtain ⟨rfl, q6⟩ := E6
    rw [chr8_lo8 hr.1 (k2 i hi).2] at g6
    exact ⟨T6, some (.int (f i)), _, _, _, X6, rfl, rfl, rfl, (fun h => by cases h), ⟨rfl, q6.trans hh4⟩, fun fs hl => Steps.trans g6 (X6.ireturnOut hexec hret (narrow_ch hr.1 hr.2) (Or.inr (Or.inr (Or.inr (Or.inl rfl)))) (hb hbytes d15) hl)⟩
  · exact absurd k0 (by decide)
theorem pays {l : Launch} {R : Room} {p : Program} {e : Env} {below : List Frame} {s : State} {sargs : Array Value} {len W : Nat} (x t : Addr) (V : Cell) (n : Nat) (f : Nat → Int32) (z : Int32) (fm : Value) (i : Nat) (htab : tab.before sargs s = true) (hfr : 4 ≤ R.frames) (hlo : W + 53 ≤ R.locals) :
    Back l R p e below s sargs yN len W (fun A₁ a₁ => A₁.cells + 0 ≤ R.cells ∧ A₁.slots + 0 ≤ R.slots ∧ P x t V n f z fm i a₁ A₁.U) (fun A₁ _ v₁ B₁ => E f i v₁ A₁.U B₁.U ∧ B₁.locs = A₁.locs ++ [] ∧ B₁.cells = A₁.cells + 0 ∧ B₁.slots = A₁.slots + 0) :=
  (law l x t V n f z fm i).pays htab hfr (by omega)
end ChN
end StrChars
namespace StrChars.Road
open Jvm Sem ClassFile Op Lib Jvm.Stand Jvm.Free Jvm.Free.XT
open Jvm.Lib.Cold (StaticIs)
/-- the words of String.charAt(int), the Latin-1 road alone -/
abbrev wordsChN : List Jvm.Cond := [.code ChN.yN ChN.yB 2 (some .char), .initialized ST, .fieldLink ST 9 ST "value" "[B", .fieldLink ST 38 ST "COMPACT_STRINGS" "Z", .fieldLink ST 15 ST "coder" "B", .code IsL.yN IsL.yB 1 (some .boolean), .methodLink ST 492 IsL.yN, .declares IsL.yN, .selects ST IsL.yN IsL.yN, .instanceMethod IsL.yN,
  .methodLink ST 495 LChA.yN, .static LChA.yN, .code LChA.yN LChA.yB 2 (some .char), .initialized "java/lang/StringLatin1", .methodLink "java/lang/StringLatin1" 9 JO.Str_checkIndex.yN, .static JO.Str_checkIndex.yN, .code JO.Str_checkIndex.yN JO.Str_checkIndex.yB 2 none,
  .fieldLink ST 1053 "jdk/internal/util/Preconditions" "SIOOBE_FORMATTER" "Ljava/util/function/BiFunction;", .methodLink ST 1059 JC.PreCheck.yN, .static JC.PreCheck.yN, .code JC.PreCheck.yN JC.PreCheck.yB 3 (some .int), .initialized "jdk/internal/util/Preconditions"]
theorem tabChN_of {a : Array Value} {s : State} (h : ∀ w ∈ wordsChN, w.before a s = true) : ChN.tab.before a s = true := by
  have hp : JC.PreCheck.tab.before a s = true := unparts (wk h (.code JC.PreCheck.yN JC.PreCheck.yB 3 (some .int))) (wks h (.initialized JC.PreCheck.yN.cls :: JC.PreCheck.site))
  have qk := consq hp h
  have hk : JO.Str_checkIndex.tab.before a s = true := unparts (wk qk (.code JO.Str_checkIndex.yN JO.Str_checkIndex.yB 2 none)) (wks qk (.initialized JO.Str_checkIndex.yN.cls :: JO.Str_checkIndex.site))
  have ql := consq hk h
  have hl : LChA.tab.before a s = true := unparts (wk ql (.code LChA.yN LChA.yB 2 (some .char))) (wks ql (.initialized LChA.yN.cls :: LChA.site))
  have hi : IsL.tab.before a s = true := unparts (wk h (.code IsL.yN IsL.yB 1 (some .boolean))) (wks h (.initialized IsL.yN.cls :: IsL.site))
  have q := consq hi (consq hl h)
  exact unparts (wk q (.code ChN.yN ChN.yB 2 (some .char))) (wks q (.initialized ChN.yN.cls :: ChN.site))
theorem movedChN {Z s : State} {a0 args : Array Value} (hZ : Z.Warmed39 s.vm) (hw : ∀ d ∈ wordsChN, d.before a0 Z = true) : ∀ d ∈ wordsChN, d.before args s = true := fun d hd => by
  have t : ∀ d ∈ wordsChN, (d.onTables && d.keepsFace) = true := by decide +kernel
  exact RoadKit.mv hZ (hw d hd) (t d hd)
/-- **charAt(i) OF A LATIN-1 STRING**, i < n: the char -/
theorem chN {p : Program} {l : Launch} {e : Env} {R : Room} {s : State} {args : Array Value} {below : List Frame} {len W : Nat} {Z : State} {a0 : Array Value} {h : Heap} (hZ : Z.Warmed39 s.vm) (hw : ∀ d ∈ wordsChN, d.before a0 Z = true) {kI : Nat} (wi : (Jvm.Cond.instantiable ST kI).before a0 Z = true)
    {x t : Addr} {kb : ClassId} {cs : List Int32} {N2 z : Int32} {vs : List Value} {fm : Value} {i : Nat} {j : Int32} (E : RoadKit.Exa Z h x ST) (V : RoadKit.Fld Z h x ST "value" "[B" (.ref t)) (C : RoadKit.Fld Z h x ST "coder" "B" (.int 0)) (K : RoadKit.Arv Z h t kb .byte N2 vs (.int 0)) (hc : CodA cs 0 N2 vs) (hb : ∀ c ∈ cs, ¬ c < 0 ∧ ¬ (65535 : Int32) < c)
    (S : RoadKit.Sta Z h ST "COMPACT_STRINGS" "Z" (.int z)) (hz : ¬ z = 0) (F : RoadKit.Sta Z h "jdk/internal/util/Preconditions" "SIOOBE_FORMATTER" "Ljava/util/function/BiFunction;" fm) (rf : fm.isRef = true) (l2 : cs.length ≤ 4000) (hi : i < cs.length) (hj : j = Int32.ofNat i) (hfr : 4 ≤ R.frames) (hlo : W + 53 ≤ R.locals) :
    Back l R p e below s args (⟨"java/lang/String", "charAt", "(I)C"⟩ : MethodName) len W (fun P a => a = #[.ref x, .int j] ∧ P.U.heap = h ∧ P.cells + 0 ≤ R.cells ∧ P.slots + 0 ≤ R.slots)
      (fun P _ v B => ∃ L, (v = some (.int (cs.getD i 0)) ∧ L = [] ∧ B.U.heap = h) ∧ B.locs = P.locs ++ L ∧ B.cells = P.cells + 0 ∧ B.slots = P.slots + 0) := by
  subst hj
  intro m meth c P g ig mk a X hg hsize hdg hW hn hp'
  obtain ⟨rfl, rfl, r1, r2⟩ := hp'
  have al : Z.vm.Alike P.U.vm := hZ.alike.trans X.warmed.alike
  obtain ⟨A, hx⟩ := txt_of wi al E V C K hc hb l2
  obtain ⟨v, B, X', ⟨⟨hv, hh⟩, hl, hk, hs⟩, st⟩ := ChN.pays x t A cs.length (fun j => cs.getD j 0) z fm i (tabChN_of (movedChN hZ hw)) hfr hlo m meth c P g ig mk _ X hg hsize hdg hW hn ⟨r1, r2, rfl, hx, hi, sta_is al S, hz, sta_is al F, rf⟩
  exact ⟨v, B, X', ⟨[], ⟨hv, rfl, hh⟩, hl, hk, hs⟩, st⟩
/-- what backV says of its String, as the contracts of this text ask it: cs's low bytes, coder 0 -/
theorem codOf {cs : List Int32} {n : Nat} (hn : cs.length = n) (hb : ∀ c ∈ cs, ¬ 255 < c) : CodA cs 0 (Int32.ofNat n) ((cs.map lo8).map Value.int) := Or.inl ⟨rfl, by rw [hn], by simp [List.map_map, Function.comp_def], hb⟩
end StrChars.Road
end Jvm.Pilot.@@N@@
namespace Jvm.Pilot.@@N@@
open Jvm Jvm.ClassFile Sem Op Lib Jvm.Free Jvm.Stand Jvm.LawKit Jvm.RoadKit Bundle Jvm.Pilot.@@N@@.Jvm.D Jvm.OwnKit
theorem up (cs : List Int32) (h : ∀ c ∈ cs, ¬ c < 0 ∧ ¬ (255 : Int32) < c) : ∀ c ∈ cs, ¬ c < 0 ∧ ¬ (65535 : Int32) < c := fun c hc => ⟨(h c hc).1, fun q => (h c hc).2 (by rw [Int32.lt_iff_toInt_lt] at q ⊢; have e1 : (65535 : Int32).toInt = 65535 := rfl; have e2 : (255 : Int32).toInt = 255 := rfl; omega)⟩
theorem and255_chars (x : Int32) : ¬ nar .char ((x &&& (255 : Int32)).toUInt32.toUInt16.toUInt32.toInt32) < 0 ∧ ¬ (255 : Int32) < nar .char ((x &&& (255 : Int32)).toUInt32.toUInt16.toUInt32.toInt32) := by
  have t : ∀ k : Fin 256, ¬ nar .char ((Int32.ofNat k.val).toUInt32.toUInt16.toUInt32.toInt32) < 0 ∧ ¬ (255 : Int32) < nar .char ((Int32.ofNat k.val).toUInt32.toUInt16.toUInt32.toInt32) := by decide +kernel
  have h : (x &&& 255).toBitVec.toNat < 256 := by
    simp only [Int32.toBitVec_and, BitVec.toNat_and]
    exact Nat.lt_succ_of_le Nat.and_le_right
  have e : (x &&& 255) = Int32.ofNat (x &&& 255).toBitVec.toNat := by
    apply Int32.toBitVec_inj.mp
    show _ = BitVec.ofNat 32 _
    rw [BitVec.ofNat_toNat]; simp
  rw [e]
  exact t ⟨_, h⟩
/-- x & (2^j - 1) as a small number -/
theorem and_small (x : Int32) (M : Nat) (hM : M < 2147483648) : ∃ k : Nat, k ≤ M ∧ x &&& Int32.ofNat M = Int32.ofNat k := by
  refine ⟨(x &&& Int32.ofNat M).toBitVec.toNat, ?_, ?_⟩
  · have : (Int32.ofNat M).toBitVec.toNat = M := by show (BitVec.ofNat 32 M).toNat = M; rw [BitVec.toNat_ofNat]; omega
    simp only [Int32.toBitVec_and, BitVec.toNat_and, this]
    exact Nat.and_le_right
  · apply Int32.toBitVec_inj.mp
    show _ = BitVec.ofNat 32 _
    rw [BitVec.ofNat_toNat]; simp
/-- a String of these chars, each 0 to 255 -/
def OStr (Z : State) (h : Heap) (x : Addr) (cs : List Int32) : Prop := ∃ (t : Addr) (kb : ClassId), Exa Z h x "java/lang/String" ∧ Fld Z h x "java/lang/String" "value" "[B" (.ref t) ∧ Fld Z h x "java/lang/String" "coder" "B" (.int 0) ∧ Arv Z h t kb .byte (Int32.ofNat cs.length) ((cs.map (fun c => c.toInt8.toInt32)).map Value.int) (.int 0) ∧ (∀ c ∈ cs, ¬ c < 0 ∧ ¬ (255 : Int32) < c) ∧ cs.length ≤ 4000
theorem OStr.ext {Z : State} {h h' : Heap} {x : Addr} {cs : List Int32} (S : OStr Z h x cs) (E : Ext h h') : OStr Z h' x cs := by
  obtain ⟨t, kb, q1, q2, q3, q4, q5⟩ := S
  exact ⟨t, kb, q1.ext E, q2.ext E, q3.ext E, q4.ext E, q5⟩
theorem OStr.exa {Z : State} {h : Heap} {x : Addr} {cs : List Int32} (S : OStr Z h x cs) : Exa Z h x "java/lang/String" := by obtain ⟨_, _, q, -⟩ := S; exact q
theorem OStr.lt {Z : State} {h : Heap} {x : Addr} {cs : List Int32} (S : OStr Z h x cs) : x < h.size := S.exa.lt
theorem OStr.uniq {Z : State} {h : Heap} {x : Addr} {cs ds : List Int32} (S : OStr Z h x cs) (S' : OStr Z h x ds) (q : cs.length = ds.length) : cs.map (fun c => c.toInt8.toInt32) = ds.map (fun c => c.toInt8.toInt32) := by
  obtain ⟨t, kb, -, v1, -, k1, -, l1⟩ := S
  obtain ⟨t2, kb2, -, v2, -, k2, -, l2⟩ := S'
  have e : t = t2 := by
    have := mt (Fld.ne v1 v2) (fun h => h rfl)
    simpa using this
  subst e
  obtain ⟨c1, A1, -, s1, -, H1, -⟩ := k1
  obtain ⟨c2, A2, -, s2, -, H2, -⟩ := k2
  cases A1.1.symm.trans A2.1
  have n1 : c1.slots.size = cs.length := by
    rw [s1]; simp only [Int32.toNatClampNeg]
    have : (Int32.ofNat cs.length).toInt = cs.length := Int32.toInt_ofNat_small (by omega)
    omega
  apply List.ext_getElem
  · simp [q]
  · intro i h1 h2
    have a := H1 i (by simp at h1; omega)
    have b := H2 i (by simp at h1; omega)
    rw [a] at b
    simp only [List.length_map] at h1 h2
    simpa [List.getD_eq_getElem?_getD, h1, h2] using b
theorem payLen {l : Launch} {R : Room} {Z : State} {a0 : Array Value} {h : Heap} {x : Addr} {cs : List Int32} {G1 : Int32} {W : Nat} (hw : ∀ d ∈ tables_1, d.before a0 Z = true) (O2 : Sta Z Z.heap "java/lang/String" "COMPACT_STRINGS" "Z" (.int G1)) (P5 : ¬ G1 = (0 : Int32)) (E0 : Ext Z.heap h) (S : OStr Z h x cs) (hfr : 2 ≤ R.frames) (hlo : W + 25 ≤ R.locals) : Pay l R Z ⟨"java/lang/String", "length", "()I"⟩ 3 W #[.ref x] h 0 0 (fun v h' L => v = some (.int (Int32.ofNat cs.length)) ∧ L = [] ∧ h' = h) := fun p e below s args hZ => by
  obtain ⟨t, kb, E, V, C, K, hp, hl⟩ := S
  exact StrChars.Road.lenW hZ (fun d hd => hw d ((by decide +kernel : ∀ d ∈ StrChars.Road.wordsLen, d ∈ tables_1) d hd)) (kI := 4) (hw _ (List.mem_of_getElem? (i := 2) rfl)) E V C K (StrChars.Road.codOf rfl (fun c hc => (hp c hc).2)) (up _ hp) (O2.ext E0) P5 hl hfr hlo
theorem payEq {l : Launch} {R : Room} {Z : State} {a0 : Array Value} {h : Heap} {x y : Addr} {cs ds : List Int32} {G1 : Int32} {W : Nat} (hw : ∀ d ∈ tables_1, d.before a0 Z = true) (O2 : Sta Z Z.heap "java/lang/String" "COMPACT_STRINGS" "Z" (.int G1)) (P5 : ¬ G1 = (0 : Int32)) (E0 : Ext Z.heap h) (S : OStr Z h x cs) (S' : OStr Z h y ds) (hfr : 2 ≤ R.frames) (hlo : W + 28 ≤ R.locals) : Pay l R Z ⟨"java/lang/String", "equals", "(Ljava/lang/Object;)Z"⟩ 3 W #[.ref x, .ref y] h 0 0 (fun v h' L => ((v = some (.int 1) ∧ cs = ds) ∨ (v = some (.int 0) ∧ ¬ cs = ds)) ∧ L = [] ∧ h' = h) := fun p e below s args hZ => by
  obtain ⟨t, kb, E, V, C, K, hp, hl⟩ := S
  obtain ⟨t', kb', E', V', C', K', hp', hl'⟩ := S'
  exact StrChars.Road.eqW hZ (fun d hd => hw d ((by decide +kernel : ∀ d ∈ StrChars.Road.wordsEq, d ∈ tables_1) d hd)) (kI := 4) (hw _ (List.mem_of_getElem? (i := 2) rfl)) E V C K (StrChars.Road.codOf rfl (fun c hc => (hp c hc).2)) (up _ hp) hl E' V' C' K' (StrChars.Road.codOf rfl (fun c hc => (hp' c hc).2)) (up _ hp') hl' (O2.ext E0) P5 hfr hlo
theorem payCh {l : Launch} {R : Room} {Z : State} {a0 : Array Value} {h : Heap} {x : Addr} {cs : List Int32} {G1 : Int32} {G3 : Value} {W i : Nat} {j : Int32} (hw : ∀ d ∈ tables_1, d.before a0 Z = true) (O2 : Sta Z Z.heap "java/lang/String" "COMPACT_STRINGS" "Z" (.int G1)) (P5 : ¬ G1 = (0 : Int32)) (O4 : Sta Z Z.heap "jdk/internal/util/Preconditions" "SIOOBE_FORMATTER" "Ljava/util/function/BiFunction;" G3) (rG3 : G3.isRef = true) (E0 : Ext Z.heap h) (S : OStr Z h x cs) (hi : i < cs.length) (hj : j = Int32.ofNat i) (hfr : 4 ≤ R.frames) (hlo : W + 53 ≤ R.locals) : Pay l R Z ⟨"java/lang/String", "charAt", "(I)C"⟩ 3 W #[.ref x, .int j] h 0 0 (fun v h' L => v = some (.int (cs.getD i 0)) ∧ L = [] ∧ h' = h) := fun p e below s args hZ => by
  obtain ⟨t, kb, E, V, C, K, hp, hl⟩ := S
  exact StrChars.Road.chN hZ (fun d hd => hw d ((by decide +kernel : ∀ d ∈ StrChars.Road.wordsChN, d ∈ tables_1) d hd)) (kI := 4) (hw _ (List.mem_of_getElem? (i := 2) rfl)) E V C K (StrChars.Road.codOf rfl (fun c hc => (hp c hc).2)) (up _ hp) (O2.ext E0) P5 (O4.ext E0) rG3 hl hi hj hfr hlo
theorem payNew {l : Launch} {R : Room} {Z : State} {a0 : Array Value} {h : Heap} {x b : Addr} {kC : ClassId} {cs : List Int32} {d v0 c0 : Value} {G1 : Int32} {W : Nat} (hw : ∀ d ∈ tables_1, d.before a0 Z = true) (O2 : Sta Z Z.heap "java/lang/String" "COMPACT_STRINGS" "Z" (.int G1)) (P5 : ¬ G1 = (0 : Int32)) (E0 : Ext Z.heap h) (hx0 : Z.heap.size ≤ x) (A : Exa Z h x "java/lang/String") (V : Fld Z h x "java/lang/String" "value" "[B" v0) (C : Fld Z h x "java/lang/String" "coder" "B" c0) (K : Arv Z h b kC .char (Int32.ofNat cs.length) (cs.map Value.int) d) (l0 : 0 < cs.length) (l2 : cs.length ≤ 4000) (hp : ∀ c ∈ cs, ¬ c < 0 ∧ ¬ (255 : Int32) < c) (hfr : 4 ≤ R.frames) (hlo : W + 65 ≤ R.locals) :
    Pay l R Z ⟨"java/lang/String", "<init>", "([C)V"⟩ 3 W #[.ref x, .ref b] h 1 cs.length (fun v h' L => v = none ∧ Fr Z.heap.size L ∧ Keep h h' [x] ∧ OStr Z h' x cs) := fun p e below s args hZ => by
  refine Back.mono (StrChars.Road.backV hZ (fun d hd => hw d ((by decide +kernel : ∀ d ∈ StrChars.Road.words, d ∈ tables_1) d hd)) (kI := 4) (hw _ (List.mem_of_getElem? (i := 2) rfl)) (n0 := Z.heap.size) hx0 E0.1 A V C K (O2.ext E0) P5 rfl rfl l0 l2 hp rfl hfr hlo) (fun P a hp => hp) (fun P a v B hpp hq => ?_)
  obtain ⟨L, ⟨q1, q2, q3, q4, q5, t, kb, q6, q7, q8, q9, q10⟩, hl, hc, hs⟩ := hq
  exact ⟨L, ⟨q1, q2, q3, t, kb, q4, q9, q5, q10, hp, l2⟩, hl, hc, hs⟩
theorem pd_length : parseMethodDescriptor "()I" = some ⟨[], some .int⟩ := by decide +kernel
theorem go_len {l : Launch} {w : Bool} {Z : State} {EL : List (String × Nat)} {own nm : String} {code : ByteArray} {ml : Nat} {ret : Option FieldType} {R : Room} {Q : Option Value → Heap → List Addr → Prop} {h : Heap} {mine : List Addr} {kc kn pc q : Nat} {Ls : Array Slot} {st : List Value} {a0 : Array Value} {index : Nat} {x : Addr} {cs : List Int32} {G1 : Int32} (hd : decode code pc = .ok (.invokevirtual index, 3)) (hq : pc + 3 = q) (w1 : (Cond.methodLink own index ⟨"java/lang/String", "length", "()I"⟩).before a0 Z = true) (hw : ∀ d ∈ tables_1, d.before a0 Z = true) (O2 : Sta Z Z.heap "java/lang/String" "COMPACT_STRINGS" "Z" (.int G1)) (P5 : ¬ G1 = (0 : Int32)) (S : OStr Z h x cs) (hml : Ls.size = ml) (hfr : 2 ≤ R.frames) {W : Nat} (hW : (st.map fun v => v.category).sum ≤ W) (hlo : W + 25 ≤ R.locals) (hkc : kc ≤ R.cells) (hkn : kn ≤ R.slots)
    (k : Go l w Z EL own nm code ml ret R Q h mine kc kn q Ls (.int (Int32.ofNat cs.length) :: st)) : Go l w Z EL own nm code ml ret R Q h mine kc kn pc Ls (.ref x :: st) := by
  refine go_old fun E0 => ?_
  refine go_callV (q := q) (W := W) (argsL := []) (rest := st) (dc := 0) (dn := 0) (ws := []) (P := fun v h' L => v = some (.int (Int32.ofNat cs.length)) ∧ L = [] ∧ h' = h) hd hq w1 (hw _ (List.mem_of_getElem? (i := 9) rfl)) (fun s hZ => notFace_of_selects (args := #[]) (mvT hZ (hw _ (List.mem_of_getElem? (i := 11) rfl)))) (hw _ (List.mem_of_getElem? (i := 11) rfl)) (hw _ (List.mem_of_getElem? (i := 10) rfl)) S.exa (by decide) (payLen hw O2 P5 E0 S hfr hlo) rfl hml (lenOf pd_length rfl) hW hkc hkn (fun v h' L hP => ?_) all0 (fun v h' L hP => ?_)
  · obtain ⟨-, rfl, rfl⟩ := hP; exact ⟨Fr.nil _, Keep.refl _ _⟩
  · obtain ⟨rfl, rfl, rfl⟩ := hP; exact ⟨[], all0, k⟩
theorem pd_equals : parseMethodDescriptor "(Ljava/lang/Object;)Z" = some ⟨[(.object "java/lang/Object")], some .boolean⟩ := by decide +kernel
theorem go_eq {l : Launch} {w : Bool} {Z : State} {EL : List (String × Nat)} {own nm : String} {code : ByteArray} {ml : Nat} {ret : Option FieldType} {R : Room} {Q : Option Value → Heap → List Addr → Prop} {h : Heap} {mine : List Addr} {kc kn pc q : Nat} {Ls : Array Slot} {st : List Value} {a0 : Array Value} {index : Nat} {x y : Addr} {cs ds : List Int32} {G1 : Int32} (hd : decode code pc = .ok (.invokevirtual index, 3)) (hq : pc + 3 = q) (w1 : (Cond.methodLink own index ⟨"java/lang/String", "equals", "(Ljava/lang/Object;)Z"⟩).before a0 Z = true) (hw : ∀ d ∈ tables_1, d.before a0 Z = true) (O2 : Sta Z Z.heap "java/lang/String" "COMPACT_STRINGS" "Z" (.int G1)) (P5 : ¬ G1 = (0 : Int32)) (S : OStr Z h x cs) (S' : OStr Z h y ds) (hml : Ls.size = ml) (hfr : 2 ≤ R.frames) {W : Nat} (hW : (st.map fun v => v.category).sum ≤ W) (hlo : W + 28 ≤ R.locals) (hkc : kc ≤ R.cells) (hkn : kn ≤ R.slots)
    (k1 : cs = ds → Go l w Z EL own nm code ml ret R Q h mine kc kn q Ls (.int 1 :: st)) (k2 : ¬ cs = ds → Go l w Z EL own nm code ml ret R Q h mine kc kn q Ls (.int 0 :: st)) : Go l w Z EL own nm code ml ret R Q h mine kc kn pc Ls (.ref y :: .ref x :: st) := by
  refine go_old fun E0 => ?_
  refine go_callV (q := q) (W := W) (argsL := [.ref y]) (rest := st) (dc := 0) (dn := 0) (ws := []) (P := fun v h' L => ((v = some (.int 1) ∧ cs = ds) ∨ (v = some (.int 0) ∧ ¬ cs = ds)) ∧ L = [] ∧ h' = h) hd hq w1 (hw _ (List.mem_of_getElem? (i := 95) rfl)) (fun s hZ => notFace_of_selects (args := #[]) (mvT hZ (hw _ (List.mem_of_getElem? (i := 97) rfl)))) (hw _ (List.mem_of_getElem? (i := 97) rfl)) (hw _ (List.mem_of_getElem? (i := 96) rfl)) S.exa (by decide) (payEq hw O2 P5 E0 S S' hfr hlo) rfl hml (lenOf pd_equals rfl) hW hkc hkn (fun v h' L hP => ?_) all0 (fun v h' L hP => ?_)
  · obtain ⟨-, rfl, rfl⟩ := hP; exact ⟨Fr.nil _, Keep.refl _ _⟩
  · obtain ⟨⟨rfl, e⟩ | ⟨rfl, e⟩, rfl, rfl⟩ := hP
    · exact ⟨[], all0, k1 e⟩
    · exact ⟨[], all0, k2 e⟩
theorem pd_charAt : parseMethodDescriptor "(I)C" = some ⟨[.int], some .char⟩ := by decide +kernel
theorem go_ch {l : Launch} {w : Bool} {Z : State} {EL : List (String × Nat)} {own nm : String} {code : ByteArray} {ml : Nat} {ret : Option FieldType} {R : Room} {Q : Option Value → Heap → List Addr → Prop} {h : Heap} {mine : List Addr} {kc kn pc q : Nat} {Ls : Array Slot} {st : List Value} {a0 : Array Value} {index : Nat} {x : Addr} {cs : List Int32} {G1 : Int32} {G3 : Value} {i : Nat} {j : Int32} (hd : decode code pc = .ok (.invokevirtual index, 3)) (hq : pc + 3 = q) (w1 : (Cond.methodLink own index ⟨"java/lang/String", "charAt", "(I)C"⟩).before a0 Z = true) (hw : ∀ d ∈ tables_1, d.before a0 Z = true) (O2 : Sta Z Z.heap "java/lang/String" "COMPACT_STRINGS" "Z" (.int G1)) (P5 : ¬ G1 = (0 : Int32)) (O4 : Sta Z Z.heap "jdk/internal/util/Preconditions" "SIOOBE_FORMATTER" "Ljava/util/function/BiFunction;" G3) (rG3 : G3.isRef = true) (S : OStr Z h x cs) (hi : i < cs.length) (hj : j = Int32.ofNat i) (hml : Ls.size = ml) (hfr : 4 ≤ R.frames) {W : Nat} (hW : (st.map fun v => v.category).sum ≤ W) (hlo : W + 53 ≤ R.locals) (hkc : kc ≤ R.cells) (hkn : kn ≤ R.slots)
    (k : Go l w Z EL own nm code ml ret R Q h mine kc kn q Ls (.int (cs.getD i 0) :: st)) : Go l w Z EL own nm code ml ret R Q h mine kc kn pc Ls (.int j :: .ref x :: st) := by
  refine go_old fun E0 => ?_
  refine go_callV (q := q) (W := W) (argsL := [.int j]) (rest := st) (dc := 0) (dn := 0) (ws := []) (P := fun v h' L => v = some (.int (cs.getD i 0)) ∧ L = [] ∧ h' = h) hd hq w1 (hw _ (List.mem_of_getElem? (i := 28) rfl)) (fun s hZ => notFace_of_selects (args := #[]) (mvT hZ (hw _ (List.mem_of_getElem? (i := 30) rfl)))) (hw _ (List.mem_of_getElem? (i := 30) rfl)) (hw _ (List.mem_of_getElem? (i := 29) rfl)) S.exa (by decide) (payCh hw O2 P5 O4 rG3 E0 S hi hj hfr hlo) rfl hml (lenOf pd_charAt rfl) hW hkc hkn (fun v h' L hP => ?_) all0 (fun v h' L hP => ?_)
  · obtain ⟨-, rfl, rfl⟩ := hP; exact ⟨Fr.nil _, Keep.refl _ _⟩
  · obtain ⟨rfl, rfl, rfl⟩ := hP; exact ⟨[], all0, k⟩
theorem pd_init : parseMethodDescriptor "([C)V" = some ⟨[(.array .char)], none⟩ := by decide +kernel
/-- new String(chars): one char at the least -/
theorem go_strInit1 {l : Launch} {w : Bool} {Z : State} {EL : List (String × Nat)} {own nm : String} {code : ByteArray} {ml : Nat} {ret : Option FieldType} {R : Room} {Q : Option Value → Heap → List Addr → Prop} {h : Heap} {mine : List Addr} {kc kn pc q : Nat} {Ls : Array Slot} {st : List Value} {a0 : Array Value} {index : Nat} {x b : Addr} {kC : ClassId} {cs : List Int32} {d v0 c0 : Value} {G1 : Int32} (hd : decode code pc = .ok (.invokespecial index, 3)) (hq : pc + 3 = q) (w1 : (Cond.methodLink own index ⟨"java/lang/String", "<init>", "([C)V"⟩).before a0 Z = true) (hw : ∀ d ∈ tables_1, d.before a0 Z = true) (O2 : Sta Z Z.heap "java/lang/String" "COMPACT_STRINGS" "Z" (.int G1)) (P5 : ¬ G1 = (0 : Int32)) (A : Exa Z h x "java/lang/String") (V : Fld Z h x "java/lang/String" "value" "[B" v0) (Cf : Fld Z h x "java/lang/String" "coder" "B" c0) (K : Arv Z h b kC .char (Int32.ofNat cs.length) (cs.map Value.int) d) (l0 : 0 < cs.length) (l2 : cs.length ≤ 4000) (hp : ∀ c ∈ cs, ¬ c < 0 ∧ ¬ (255 : Int32) < c) (hx : x ∈ mine) (hml : Ls.size = ml) (hfr : 4 ≤ R.frames) {W : Nat} (hW : (st.map fun v => v.category).sum ≤ W) (hlo : W + 65 ≤ R.locals) (hkc : kc + 1 ≤ R.cells) (hkn : kn + cs.length ≤ R.slots)
    (k : ∀ h', Keep h h' [x] → OStr Z h' x cs → Go l w Z EL own nm code ml ret R Q h' mine (kc + 1) (kn + cs.length) q Ls st) : Go l w Z EL own nm code ml ret R Q h mine kc kn pc Ls (.ref b :: .ref x :: st) := by
  refine go_old fun E0 => go_mine fun hm => ?_
  refine go_callI (q := q) (W := W) (a := x) (argsL := [.ref b]) (rest := st) (dc := 1) (dn := cs.length) (ws := [x]) (P := fun v h' L => v = none ∧ Fr Z.heap.size L ∧ Keep h h' [x] ∧ OStr Z h' x cs) hd hq rfl w1 (hw _ (List.mem_of_getElem? (i := 54) rfl)) (hw _ (List.mem_of_getElem? (i := 55) rfl)) (by decide) (payNew hw O2 P5 E0 (hm x hx).1 A V Cf K l0 l2 hp hfr hlo) rfl hml (lenOf pd_init rfl) hW hkc hkn (fun v h' L hP => ⟨hP.2.1, hP.2.2.1⟩) (allS hx all0) (fun v h' L hP => ?_)
  obtain ⟨rfl, -, K1, S⟩ := hP
  exact ⟨[], all0, k h' K1 S⟩
theorem strAtoms {Z : State} {a0 : Array Value} (hw : ∀ d ∈ tables_1, d.before a0 Z = true) : ∀ a ∈ Bundle.stringAtoms, a.before a0 Z = true := fun d hd => hw d ((by decide +kernel : ∀ d ∈ Bundle.stringAtoms, d ∈ tables_1) d hd)
theorem go_lit {l : Launch} {w : Bool} {Z : State} {EL : List (String × Nat)} {own nm : String} {code : ByteArray} {ml : Nat} {ret : Option FieldType} {R : Room} {Q : Option Value → Heap → List Addr → Prop} {h : Heap} {mine : List Addr} {kc kn pc q : Nat} {Ls : Array Slot} {st : List Value} {a0 : Array Value} {index : Nat} {text : String} {cs : List Int32} (hd : decode code pc = .ok (.ldc index, 2)) (hq : pc + 2 = q) (hw1 : w = true) (w1 : (Cond.stringLink own index text).before a0 Z = true) (hw : ∀ d ∈ tables_1, d.before a0 Z = true) (hEL : EW Z a0 EL) (hmem : (own, index) ∈ EL) (ht : (∀ c ∈ text.toList, c.toNat < 256) ∧ text.toList.map (fun c => Value.int (Jvm.Lit.byteI c.toNat.toUInt16)) = (cs.map (fun c => c.toInt8.toInt32)).map Value.int) (hlen : text.toList.length = cs.length) (hp : ∀ c ∈ cs, ¬ c < 0 ∧ ¬ (255 : Int32) < c) {n : Nat} (hn : 4 * cs.length ≤ n) (hbig : n ≤ 4000) (hc : kc + 2 ≤ R.cells) (hl' : kn + (n + 4) ≤ R.slots)
    (k : ∀ (h' : Heap) (a : Addr), Ext h h' → OStr Z h' a cs → (∀ x ∈ mine, x ≠ a) → Go l w Z EL own nm code ml ret R Q h' mine (kc + 2) (kn + (n + 4)) q Ls (.ref a :: st)) : Go l w Z EL own nm code ml ret R Q h mine kc kn pc Ls st := by
  have e1 : (Int32.ofNat cs.length).toInt = cs.length := Int32.toInt_ofNat_small (by omega)
  refine go_ldcS (q := q) (n := n) (z := Int32.ofNat cs.length) hd hq hw1 w1 (strAtoms hw) hEL hmem ht (by rw [Int32.lt_iff_toInt_lt, e1]; show ¬ (cs.length : Int) < 0; omega) (by simp only [Int32.toNatClampNeg, e1, List.length_map]; rfl) (by omega) (by omega) hc hl' fun h' a b kb E f1 f2 f3 f4 hne => ?_
  exact k h' a E ⟨b, kb, f1, f3, f2, f4, hp, by omega⟩ (fun x hx => (hne x hx).1)
theorem dEq_0 : decode jdk_42_method_66_code 0 = .ok (.aload_n 0, 1) := by decide +kernel
theorem dEq_1 : decode jdk_42_method_66_code 1 = .ok (.aload_n 1, 1) := by decide +kernel
theorem dEq_2 : decode jdk_42_method_66_code 2 = .ok (.if_acmp .ne 5, 3) := by decide +kernel
theorem dEq_5 : decode jdk_42_method_66_code 5 = .ok (.iconst 1, 1) := by decide +kernel
theorem dEq_6 : decode jdk_42_method_66_code 6 = .ok (.ireturn, 1) := by decide +kernel
theorem dEq_7 : decode jdk_42_method_66_code 7 = .ok (.aload_n 1, 1) := by decide +kernel
theorem dEq_8 : decode jdk_42_method_66_code 8 = .ok (.instanceof 10, 3) := by decide +kernel
theorem dEq_11 : decode jdk_42_method_66_code 11 = .ok (.ifCond .eq 43, 3) := by decide +kernel
theorem dEq_14 : decode jdk_42_method_66_code 14 = .ok (.aload_n 1, 1) := by decide +kernel
theorem dEq_15 : decode jdk_42_method_66_code 15 = .ok (.checkcast 10, 3) := by decide +kernel
theorem dEq_18 : decode jdk_42_method_66_code 18 = .ok (.astore_n 2, 1) := by decide +kernel
theorem dEq_19 : decode jdk_42_method_66_code 19 = .ok (.getstatic 38, 3) := by decide +kernel
theorem dEq_22 : decode jdk_42_method_66_code 22 = .ok (.ifCond .eq 14, 3) := by decide +kernel
theorem dEq_25 : decode jdk_42_method_66_code 25 = .ok (.aload_n 0, 1) := by decide +kernel
theorem dEq_26 : decode jdk_42_method_66_code 26 = .ok (.getfield 15, 3) := by decide +kernel
theorem dEq_29 : decode jdk_42_method_66_code 29 = .ok (.aload_n 2, 1) := by decide +kernel
theorem dEq_30 : decode jdk_42_method_66_code 30 = .ok (.getfield 15, 3) := by decide +kernel
theorem dEq_33 : decode jdk_42_method_66_code 33 = .ok (.if_icmp .ne 21, 3) := by decide +kernel
theorem dEq_36 : decode jdk_42_method_66_code 36 = .ok (.aload_n 0, 1) := by decide +kernel
theorem dEq_37 : decode jdk_42_method_66_code 37 = .ok (.getfield 9, 3) := by decide +kernel
theorem dEq_40 : decode jdk_42_method_66_code 40 = .ok (.aload_n 2, 1) := by decide +kernel
theorem dEq_41 : decode jdk_42_method_66_code 41 = .ok (.getfield 9, 3) := by decide +kernel
theorem dEq_44 : decode jdk_42_method_66_code 44 = .ok (.invokestatic 541, 3) := by decide +kernel
theorem dEq_47 : decode jdk_42_method_66_code 47 = .ok (.ifCond .eq 7, 3) := by decide +kernel
theorem dEq_50 : decode jdk_42_method_66_code 50 = .ok (.iconst 1, 1) := by decide +kernel
theorem dEq_51 : decode jdk_42_method_66_code 51 = .ok (.goto 4, 3) := by decide +kernel
theorem dEq_54 : decode jdk_42_method_66_code 54 = .ok (.iconst 0, 1) := by decide +kernel
theorem dEq_55 : decode jdk_42_method_66_code 55 = .ok (.ireturn, 1) := by decide +kernel
theorem pn_StringQ : plainName "java/lang/String" = true := by first | (simp [plainName, overriddenIn]; done) | decide +kernel
theorem ef_EqN (m : MethodId) (x : Addr) : entryFrame m #[.ref x, .null] 3 = mkF m 0 #[.val (.ref x), .val .null, .unset] [] := by first | (simp [entryFrame, mkF, argsToLocals, Value.category]; done) | rfl
abbrev rEqN : Room := { frames := 0, cells := 0, slots := 0, locals := 0 }
theorem conEqN {l : Launch} {Z : State} {h : Heap} {x : Addr} (E0 : Ext Z.heap h) : Con l false Z [] (⟨"java/lang/String", "equals", "(Ljava/lang/Object;)Z"⟩ : MethodName) jdk_42_method_66_code 3 (some .boolean) [] rEqN #[.ref x, .null] h [] (fun v h' out => v = some (.int 0) ∧ out = [] ∧ h' = h) := by
  refine con_of_go pn_StringQ (fun m => ef_EqN m x) E0 EW.none ?_
  refine go_aloadN (q := 1) dEq_0 rfl rfl rfl ?_
  refine go_aloadN (q := 2) dEq_1 rfl rfl rfl ?_
  refine go_acmp (q := 7) (q2 := 5) dEq_2 (by decide) (by decide) rfl rfl rfl (fun _ => ?_) (fun hc => absurd hc (by simp [XT.acmp]))
  refine go_aloadN (q := 8) dEq_7 rfl rfl rfl ?_
  refine go_instNull (q := 11) dEq_8 rfl ?_
  refine go_if (q := 54) (q2 := 14) dEq_11 (by decide) (by decide) rfl (fun _ => ?_) (fun hc => absurd hc (by decide))
  refine go_iconst (q := 55) (z := 0) dEq_54 rfl rfl ?_
  exact go_ireturn (out := []) rfl (by simp) rfl dEq_55 ⟨rfl, rfl, rfl⟩ all0 (by decide) (by decide)
theorem go_eqN {l : Launch} {w : Bool} {Z : State} {EL : List (String × Nat)} {own nm : String} {code : ByteArray} {ml : Nat} {ret : Option FieldType} {R : Room} {Q : Option Value → Heap → List Addr → Prop} {h : Heap} {mine : List Addr} {kc kn pc q : Nat} {Ls : Array Slot} {st : List Value} {a0 : Array Value} {index : Nat} {x : Addr} (hd : decode code pc = .ok (.invokevirtual index, 3)) (hq : pc + 3 = q) (w1 : (Cond.methodLink own index ⟨"java/lang/String", "equals", "(Ljava/lang/Object;)Z"⟩).before a0 Z = true) (hw : ∀ d ∈ tables_1, d.before a0 Z = true) (A : Exa Z h x "java/lang/String") (hml : Ls.size = ml) (hfr : 1 ≤ R.frames) {W : Nat} (hW : (st.map fun v => v.category).sum ≤ W) (hlo : W + 14 ≤ R.locals) (hkc : kc ≤ R.cells) (hkn : kn ≤ R.slots)
    (k : Go l w Z EL own nm code ml ret R Q h mine kc kn q Ls (.int 0 :: st)) : Go l w Z EL own nm code ml ret R Q h mine kc kn pc Ls (.null :: .ref x :: st) := by
  refine go_old fun E0 => ?_
  refine go_callV (q := q) (W := W) (argsL := [.null]) (rest := st) (ws := []) (P := fun v h' L => ∃ out, (v = some (.int 0) ∧ out = [] ∧ h' = h) ∧ Fr Z.heap.size L ∧ Ext Z.heap h' ∧ ∀ x ∈ out, Z.heap.size ≤ x ∧ x < h'.size) hd hq w1 (hw _ (List.mem_of_getElem? (i := 95) rfl)) (fun s hZ => notFace_of_selects (args := #[]) (mvT hZ (hw _ (List.mem_of_getElem? (i := 97) rfl)))) (hw _ (List.mem_of_getElem? (i := 97) rfl)) (hw _ (List.mem_of_getElem? (i := 96) rfl)) A (by decide) (con_pay (conEqN E0) all0 (hw _ (List.mem_of_getElem? (i := 98) rfl)) (hw _ (List.mem_of_getElem? (i := 1) rfl)) (by show 0 + 1 ≤ _; omega) (by show W + (3 + 11) + 0 ≤ _; omega)) rfl hml (lenOf pd_equals rfl) hW hkc hkn (fun v h' L hP => ?_) all0 (fun v h' L hP => ?_)
  · obtain ⟨out, ⟨-, -, rfl⟩, N, -⟩ := hP; exact ⟨N, Keep.refl _ _⟩
  · obtain ⟨out, ⟨rfl, -, rfl⟩, -⟩ := hP; exact ⟨[], all0, k⟩
/-- (x & 0x7fffffff) % M as a small number -/
theorem mod_small (x : Int32) (M : Nat) (h0 : 0 < M) (hM : M < 2147483648) : ∃ k : Nat, k < M ∧ (x &&& (2147483647 : Int32)) % Int32.ofNat M = Int32.ofNat k := by
  obtain ⟨j, hj, ej⟩ := and_small x 2147483647 (by decide)
  refine ⟨j % M, Nat.mod_lt _ h0, ?_⟩
  rw [show (2147483647 : Int32) = Int32.ofNat 2147483647 from rfl, ej]
  apply Int32.toInt_inj.mp
  have e1 : (Int32.ofNat j).toInt = j := Int32.toInt_ofNat_small (by omega)
  have e2 : (Int32.ofNat M).toInt = M := Int32.toInt_ofNat_small (by omega)
  have e3 : (Int32.ofNat (j % M)).toInt = (j % M : Nat) := Int32.toInt_ofNat_small (Nat.lt_of_lt_of_le (Nat.mod_lt _ h0) (by omega))
  rw [Int32.toInt_mod, e1, e2, e3]
  exact (Int.ofNat_tmod j M).symm
/-- (char) (x & 255): 0 to 255 -/
theorem and255_raw (x : Int32) : ¬ ((x &&& (255 : Int32)).toUInt32.toUInt16.toUInt32.toInt32) < 0 ∧ ¬ (255 : Int32) < ((x &&& (255 : Int32)).toUInt32.toUInt16.toUInt32.toInt32) := by
  have t : ∀ k : Fin 256, ¬ ((Int32.ofNat k.val).toUInt32.toUInt16.toUInt32.toInt32) < 0 ∧ ¬ (255 : Int32) < ((Int32.ofNat k.val).toUInt32.toUInt16.toUInt32.toInt32) := by decide +kernel
  obtain ⟨k, hk, e⟩ := and_small x 255 (by decide)
  rw [show (255 : Int32) = Int32.ofNat 255 from rfl] at *
  rw [e]
  exact t ⟨k, by omega⟩
theorem nar_ch {c : Int32} (h : ¬ c < 0 ∧ ¬ (255 : Int32) < c) : nar .char c = c := by
  have t : ∀ k : Fin 256, nar .char (Int32.ofNat k.val) = Int32.ofNat k.val := by decide +kernel
  have h0 : 0 ≤ c.toInt := by have := h.1; rw [Int32.lt_iff_toInt_lt] at this; have e : (0 : Int32).toInt = 0 := rfl; omega
  have h1 : c.toInt ≤ 255 := by have := h.2; rw [Int32.lt_iff_toInt_lt] at this; have e : (255 : Int32).toInt = 255 := rfl; omega
  have e : c = Int32.ofNat c.toInt.toNat := Int32.toInt_inj.mp (by rw [Int32.toInt_ofNat_small (by omega)]; omega)
  rw [e]
  exact t ⟨c.toInt.toNat, by omega⟩
theorem narrow_chr {c : Int32} (h : ¬ c < 0 ∧ ¬ (255 : Int32) < c) : narrow .char (.int c) = .int c := by
  have : narrow .char (.int c) = .int (nar .char c) := rfl
  rw [this, nar_ch h]
theorem own_eqI {args : Array Value} {s : State} {t : Term} {z : Int32} (h : (Cond.eq t (.int z)).value args s none s [] = some true) : t.eval args s none [] s = some (.int z) := by
  simp only [Cond.value, Term.eval] at h
  cases ht : t.eval args s none [] s with
  | none => simp [ht] at h
  | some v => cases v <;> simp [ht] at h ⊢; exact h
theorem own_eqR {args : Array Value} {s : State} {t u : Term} {a : Addr} (hu : u.eval args s none [] s = some (.ref a)) (h : (Cond.eq t u).value args s none s [] = some true) : t.eval args s none [] s = some (.ref a) := by
  simp only [Cond.value, hu] at h
  cases ht : t.eval args s none [] s with
  | none => simp [ht] at h
  | some v => cases v <;> simp [ht] at h ⊢; exact h
theorem own_len {args : Array Value} {s : State} {t : Term} {a : Addr} {cl : Cell} {ty : FieldType} {z : Int32} (ft : t.eval args s none [] s = some (.ref a)) (A : Arr s s.heap a cl ty) (h : (Cond.eq (.length t) (.int z)).value args s none s [] = some true) : cl.slots.size < 2 ^ 31 ∧ cl.slots.size.toInt32 = z := by
  have e := own_eqI h
  have hA : s.arrayAt? a = some cl := A.fin (Vm.Alike.refl _)
  simp only [Term.eval, ft, Option.bind_eq_bind, Option.bind_some, hA] at e
  by_cases q : cl.slots.size < 2 ^ 31
  · refine ⟨q, ?_⟩
    simpa [q] using e
  · simp [q] at e
theorem own_elemV {args : Array Value} {s : State} {t : Term} {a : Addr} {cl : Cell} {ty : FieldType} {v : Value} {j : Int32} {i : Nat} (ft : t.eval args s none [] s = some (.ref a)) (A : Arr s s.heap a cl ty) (e : (Term.elem t (.int j)).eval args s none [] s = some v) (hj : j.toNatClampNeg = i) : cl.slots[i]? = some v := by
  have q := (elem_in e ft (Term.int_eval j) A.1).2
  rw [hj] at q; exact q
theorem own_elemI {args : Array Value} {s : State} {t : Term} {a : Addr} {cl : Cell} {ty : FieldType} {z : Int32} {j : Int32} {i : Nat} (ft : t.eval args s none [] s = some (.ref a)) (A : Arr s s.heap a cl ty) (h : (Cond.eq (.elem t (.int j)) (.int z)).value args s none s [] = some true) (hj : j.toNatClampNeg = i) : cl.slots[i]? = some (.int z) := own_elemV ft A (own_eqI h) hj
theorem own_elemR {args : Array Value} {s : State} {t u : Term} {a b : Addr} {cl : Cell} {ty : FieldType} {j : Int32} {i : Nat} (ft : t.eval args s none [] s = some (.ref a)) (A : Arr s s.heap a cl ty) (h : (Cond.eq (.elem t (.int j)) u).value args s none s [] = some true) (hu : u.eval args s none [] s = some (.ref b)) (hj : j.toNatClampNeg = i) : cl.slots[i]? = some (.ref b) := own_elemV ft A (own_eqR hu h) hj
abbrev tx0 : List Int32 := [(112 : Int32), (114 : Int32), (111 : Int32), (112 : Int32), (111 : Int32), (114 : Int32), (116 : Int32), (105 : Int32), (111 : Int32), (110 : Int32)]
abbrev tx1 : List Int32 := [(99 : Int32), (111 : Int32), (104 : Int32), (111 : Int32), (114 : Int32), (116 : Int32)]
abbrev tx2 : List Int32 := [(114 : Int32), (97 : Int32), (116 : Int32), (105 : Int32), (111 : Int32)]
/-- which constant bears this text -/
def selC (c0 c1 c2 : Addr) (cs : List Int32) : Value := if tx0 = cs then .ref c0 else if tx1 = cs then .ref c1 else if tx2 = cs then .ref c2 else .null
theorem sel0 {c0 c1 c2 : Addr} {cs : List Int32} (h : tx0 = cs) : selC c0 c1 c2 cs = .ref c0 := if_pos h
theorem sel1 {c0 c1 c2 : Addr} {cs : List Int32} (n0 : ¬ tx0 = cs) (h : tx1 = cs) : selC c0 c1 c2 cs = .ref c1 := (if_neg n0).trans (if_pos h)
theorem sel2 {c0 c1 c2 : Addr} {cs : List Int32} (n0 : ¬ tx0 = cs) (n1 : ¬ tx1 = cs) (h : tx2 = cs) : selC c0 c1 c2 cs = .ref c2 := (if_neg n0).trans ((if_neg n1).trans (if_pos h))
theorem sel3 {c0 c1 c2 : Addr} {cs : List Int32} (n0 : ¬ tx0 = cs) (n1 : ¬ tx1 = cs) (n2 : ¬ tx2 = cs) : selC c0 c1 c2 cs = .null := (if_neg n0).trans ((if_neg n1).trans (if_neg n2))
theorem selR (c0 c1 c2 : Addr) (cs : List Int32) : (selC c0 c1 c2 cs).isRef = true := by
  unfold selC
  split
  · rfl
  · split
    · rfl
    · split <;> rfl
theorem dV_0 : decode prog_16_method_1_code 0 = .ok (.getstatic 13, 3) := by decide +kernel
theorem dV_3 : decode prog_16_method_1_code 3 = .ok (.invokevirtual 17, 3) := by decide +kernel
theorem dV_6 : decode prog_16_method_1_code 6 = .ok (.checkcast 18, 3) := by decide +kernel
theorem dV_9 : decode prog_16_method_1_code 9 = .ok (.areturn, 1) := by decide +kernel
theorem pn_Scoring : plainName "com/example/tallymark/tallymark/Scoring" = true := by first | (simp [plainName, overriddenIn]; done) | decide +kernel
theorem pd_V : parseMethodDescriptor "()[Lcom/example/tallymark/tallymark/Scoring;" = some ⟨[], some (.array (.object "com/example/tallymark/tallymark/Scoring"))⟩ := by decide +kernel
theorem ef_V (m : MethodId) : entryFrame m #[] 0 = mkF m 0 #[] [] := by first | (simp [entryFrame, mkF, argsToLocals]; done) | rfl
abbrev rV : Room := { frames := 1, cells := 1, slots := 3, locals := 14 }
set_option maxRecDepth 65536 in
set_option maxHeartbeats 4000000 in
theorem conV {l : Launch} {Z : State} {a0 : Array Value} {h : Heap} {va c0 c1 c2 : Addr} {kV : ClassId} (hw : ∀ d ∈ tables_1, d.before a0 Z = true) (E0 : Ext Z.heap h) (KV : Sta Z Z.heap "com/example/tallymark/tallymark/Scoring" "$VALUES" "[Lcom/example/tallymark/tallymark/Scoring;" (.ref va)) (AV : Arv Z Z.heap va kV (.object "com/example/tallymark/tallymark/Scoring") 3 [.ref c0, .ref c1, .ref c2] .null) (EV : Exa Z Z.heap va "[Lcom/example/tallymark/tallymark/Scoring;") : Con l false Z [] (⟨"com/example/tallymark/tallymark/Scoring", "values", "()[Lcom/example/tallymark/tallymark/Scoring;"⟩ : MethodName) prog_16_method_1_code 0 (some (.array (.object "com/example/tallymark/tallymark/Scoring"))) [] rV #[] h [] (fun v h' out => out = [] ∧ ∃ b, v = some (.ref b) ∧ Ext h h' ∧ Arv Z h' b kV (.object "com/example/tallymark/tallymark/Scoring") 3 [.ref c0, .ref c1, .ref c2] .null) := by
  refine con_of_go pn_Scoring (fun m => ef_V m) E0 EW.none ?_
  refine go_getstatic (q := 3) dV_0 rfl (hw _ (List.mem_of_getElem? (i := 80) rfl)) Via.refl KV ?_
  refine go_clone (q := 6) (cap := 3) (W := 0) dV_3 rfl (hw _ (List.mem_of_getElem? (i := 82) rfl)) (hw _ (List.mem_of_getElem? (i := 83) rfl)) (hw _ (List.mem_of_getElem? (i := 87) rfl)) (hw _ (List.mem_of_getElem? (i := 85) rfl)) (hw _ (List.mem_of_getElem? (i := 86) rfl)) (hw _ (List.mem_of_getElem? (i := 88) rfl)) (AV.ext E0) (EV.ext E0) rfl (by decide) (Nat.le_refl _) (by decide) (by decide) (by decide) (by decide) fun h1 b eb E1 A1 B1 => ?_
  refine go_checkcast (q := 9) dV_6 rfl (hw _ (List.mem_of_getElem? (i := 90) rfl)) (Ins.self B1) ?_
  exact go_areturn (out := []) rfl rfl rfl rfl dV_9 ⟨rfl, b, rfl, E1, A1⟩ all0 (by decide) (by decide)
theorem dO_0 : decode prog_16_method_4_code 0 = .ok (.invokestatic 51, 3) := by decide +kernel
theorem dO_3 : decode prog_16_method_4_code 3 = .ok (.astore_n 1, 1) := by decide +kernel
theorem dO_4 : decode prog_16_method_4_code 4 = .ok (.aload_n 1, 1) := by decide +kernel
theorem dO_5 : decode prog_16_method_4_code 5 = .ok (.arraylength, 1) := by decide +kernel
theorem dO_6 : decode prog_16_method_4_code 6 = .ok (.istore_n 2, 1) := by decide +kernel
theorem dO_7 : decode prog_16_method_4_code 7 = .ok (.iconst 0, 1) := by decide +kernel
theorem dO_8 : decode prog_16_method_4_code 8 = .ok (.istore_n 3, 1) := by decide +kernel
theorem dO_9 : decode prog_16_method_4_code 9 = .ok (.iload_n 3, 1) := by decide +kernel
theorem dO_10 : decode prog_16_method_4_code 10 = .ok (.iload_n 2, 1) := by decide +kernel
theorem dO_11 : decode prog_16_method_4_code 11 = .ok (.if_icmp .ge 29, 3) := by decide +kernel
theorem dO_14 : decode prog_16_method_4_code 14 = .ok (.aload_n 1, 1) := by decide +kernel
theorem dO_15 : decode prog_16_method_4_code 15 = .ok (.iload_n 3, 1) := by decide +kernel
theorem dO_16 : decode prog_16_method_4_code 16 = .ok (.aaload, 1) := by decide +kernel
theorem dO_17 : decode prog_16_method_4_code 17 = .ok (.astore 4, 2) := by decide +kernel
theorem dO_19 : decode prog_16_method_4_code 19 = .ok (.aload 4, 2) := by decide +kernel
theorem dO_21 : decode prog_16_method_4_code 21 = .ok (.getfield 32, 3) := by decide +kernel
theorem dO_24 : decode prog_16_method_4_code 24 = .ok (.aload_n 0, 1) := by decide +kernel
theorem dO_25 : decode prog_16_method_4_code 25 = .ok (.invokevirtual 55, 3) := by decide +kernel
theorem dO_28 : decode prog_16_method_4_code 28 = .ok (.ifCond .eq 6, 3) := by decide +kernel
theorem dO_31 : decode prog_16_method_4_code 31 = .ok (.aload 4, 2) := by decide +kernel
theorem dO_33 : decode prog_16_method_4_code 33 = .ok (.areturn, 1) := by decide +kernel
theorem dO_34 : decode prog_16_method_4_code 34 = .ok (.iinc 3 1, 3) := by decide +kernel
theorem dO_37 : decode prog_16_method_4_code 37 = .ok (.goto (-28), 3) := by decide +kernel
theorem dO_40 : decode prog_16_method_4_code 40 = .ok (.aconst_null, 1) := by decide +kernel
theorem dO_41 : decode prog_16_method_4_code 41 = .ok (.areturn, 1) := by decide +kernel
theorem pd_O : parseMethodDescriptor "(Ljava/lang/String;)Lcom/example/tallymark/tallymark/Scoring;" = some ⟨[(.object "java/lang/String")], some (.object "com/example/tallymark/tallymark/Scoring")⟩ := by decide +kernel
theorem ef_O (m : MethodId) (y : Addr) : entryFrame m #[(.ref y)] 5 = mkF m 0 #[.val (.ref y), .unset, .unset, .unset, .unset] [] := by first | (simp [entryFrame, mkF, argsToLocals, Value.category]; done) | rfl
theorem ef_ON (m : MethodId)  : entryFrame m #[(.null)] 5 = mkF m 0 #[.val (.null), .unset, .unset, .unset, .unset] [] := by first | (simp [entryFrame, mkF, argsToLocals, Value.category]; done) | rfl
abbrev rO : Room := { frames := 2, cells := 1, slots := 3, locals := 40 }
set_option maxRecDepth 65536 in
set_option maxHeartbeats 4000000 in
theorem conO {l : Launch} {Z : State} {a0 : Array Value} {G1 : Int32} {h : Heap} {y : Addr} {cs : List Int32} {va c0 c1 c2 s0 s1 s2 : Addr} {kV : ClassId} (hw : ∀ d ∈ tables_1, d.before a0 Z = true) (O2 : Sta Z Z.heap "java/lang/String" "COMPACT_STRINGS" "Z" (.int G1)) (P5 : ¬ G1 = (0 : Int32)) (E0 : Ext Z.heap h) (KV : Sta Z Z.heap "com/example/tallymark/tallymark/Scoring" "$VALUES" "[Lcom/example/tallymark/tallymark/Scoring;" (.ref va)) (AV : Arv Z Z.heap va kV (.object "com/example/tallymark/tallymark/Scoring") 3 [.ref c0, .ref c1, .ref c2] .null) (EV : Exa Z Z.heap va "[Lcom/example/tallymark/tallymark/Scoring;") (F0 : Fld Z Z.heap c0 "com/example/tallymark/tallymark/Scoring" "code" "Ljava/lang/String;" (.ref s0)) (F1 : Fld Z Z.heap c1 "com/example/tallymark/tallymark/Scoring" "code" "Ljava/lang/String;" (.ref s1)) (F2 : Fld Z Z.heap c2 "com/example/tallymark/tallymark/Scoring" "code" "Ljava/lang/String;" (.ref s2)) (S0 : OStr Z Z.heap s0 tx0) (S1 : OStr Z Z.heap s1 tx1) (S2 : OStr Z Z.heap s2 tx2) (S : OStr Z h y cs) : Con l false Z [] (⟨"com/example/tallymark/tallymark/Scoring", "of", "(Ljava/lang/String;)Lcom/example/tallymark/tallymark/Scoring;"⟩ : MethodName) prog_16_method_4_code 5 (some (.object "com/example/tallymark/tallymark/Scoring")) [] rO #[.ref y] h [] (fun v h' out => v = some (selC c0 c1 c2 cs) ∧ out = [] ∧ Ext h h') := by
  refine con_of_go pn_Scoring (fun m => ef_O m y) E0 EW.none ?_
  refine go_callS (q := 3) (y := (⟨"com/example/tallymark/tallymark/Scoring", "values", "()[Lcom/example/tallymark/tallymark/Scoring;"⟩ : MethodName)) (W := 0) (argsL := []) (rest := []) (ws := []) (P := fun v h' L => ∃ out, (out = [] ∧ ∃ b, v = some (.ref b) ∧ Ext h h' ∧ Arv Z h' b kV (.object "com/example/tallymark/tallymark/Scoring") 3 [.ref c0, .ref c1, .ref c2] .null) ∧ Fr Z.heap.size L ∧ Ext Z.heap h' ∧ ∀ x ∈ out, Z.heap.size ≤ x ∧ x < h'.size) dO_0 rfl (hw _ (List.mem_of_getElem? (i := 77) rfl)) (hw _ (List.mem_of_getElem? (i := 78) rfl)) (hw _ (List.mem_of_getElem? (i := 75) rfl)) (hw _ (List.mem_of_getElem? (i := 79) rfl)) (by decide) (con_pay (conV hw E0 KV AV EV) all0 (hw _ (List.mem_of_getElem? (i := 79) rfl)) (hw _ (List.mem_of_getElem? (i := 75) rfl)) (by decide) (by decide)) rfl rfl (lenOf pd_V rfl) (Nat.le_refl _) (by decide) (by decide) (fun v h' L hP => ?_) all0 (fun v h1 L hP => ?_)
  · obtain ⟨out, ⟨-, b, -, E, -⟩, N, -⟩ := hP; exact ⟨N, keep_ext E _⟩
  obtain ⟨out, ⟨-, b, rfl, E1, A1⟩, -, X1, -⟩ := hP
  refine ⟨[], all0, ?_⟩
  show Go l false Z [] _ _ _ _ _ _ _ h1 [] _ _ 3 #[.val (.ref y), .unset, .unset, .unset, .unset] [(.ref b)]
  refine go_astoreN (q := 4) (l' := #[.val (.ref y), .val (.ref b), .unset, .unset, .unset]) dO_3 rfl rfl rfl ?_
  refine go_aloadN (q := 5) dO_4 rfl rfl rfl ?_
  refine go_arraylength (q := 6) dO_5 rfl A1 ?_
  have S' := S.ext E1
  have G0 := F0.ext X1
  have T0 := S0.ext X1
  have G1 := F1.ext X1
  have T1 := S1.ext X1
  have G2 := F2.ext X1
  have T2 := S2.ext X1
  refine go_istoreN (q := 7) (l' := #[.val (.ref y), .val (.ref b), .val (.int (3 : Int32)), .unset, .unset]) dO_6 rfl rfl ?_
  refine go_iconst (q := 8) (z := (0 : Int32)) dO_7 rfl rfl ?_
  refine go_istoreN (q := 9) (l' := #[.val (.ref y), .val (.ref b), .val (.int (3 : Int32)), .val (.int (0 : Int32)), .unset]) dO_8 rfl rfl ?_
  refine go_iloadN (q := 10) dO_9 rfl rfl ?_
  refine go_iloadN (q := 11) dO_10 rfl rfl ?_
  refine go_icmp (q := 40) (q2 := 14) dO_11 (by decide) (by decide) rfl (fun hc => absurd hc (by decide)) (fun _ => ?_)
  refine go_aloadN (q := 15) dO_14 rfl rfl rfl ?_
  refine go_iloadN (q := 16) dO_15 rfl rfl ?_
  refine go_aaload (q := 17) dO_16 rfl A1 rfl (by decide) (v := .ref c0) rfl ?_
  refine go_astore (q := 19) (l' := #[.val (.ref y), .val (.ref b), .val (.int (3 : Int32)), .val (.int (0 : Int32)), .val (.ref c0)]) dO_17 rfl rfl rfl ?_
  refine go_aload (q := 21) dO_19 rfl rfl rfl ?_
  refine go_getfield (q := 24) dO_21 rfl (hw _ (List.mem_of_getElem? (i := 92) rfl)) Via.refl G0 ?_
  refine go_aloadN (q := 25) dO_24 rfl rfl rfl ?_
  refine go_eq (q := 28) (W := 0) dO_25 rfl (hw _ (List.mem_of_getElem? (i := 94) rfl)) hw O2 P5 T0 S' rfl (by decide) (Nat.le_refl _) (by decide) (by decide) (by decide) (fun e0 => ?_) (fun n0 => ?_)
  · refine go_if (q := 34) (q2 := 31) dO_28 (by decide) (by decide) rfl (fun hc => absurd hc (by decide)) (fun _ => ?_)
    refine go_aload (q := 33) dO_31 rfl rfl rfl ?_
    exact go_areturn (out := []) rfl rfl rfl rfl dO_33 ⟨congrArg some (sel0  e0).symm, rfl, E1⟩ all0 (by decide) (by decide)
  refine go_if (q := 34) (q2 := 31) dO_28 (by decide) (by decide) rfl (fun _ => ?_) (fun hc => absurd hc (by decide))
  refine go_iinc (q := 37) (l' := #[.val (.ref y), .val (.ref b), .val (.int (3 : Int32)), .val (.int (1 : Int32)), .val (.ref c0)]) dO_34 rfl rfl rfl ?_
  refine go_goto (q := 9) dO_37 (by decide) (by decide) ?_
  refine go_iloadN (q := 10) dO_9 rfl rfl ?_
  refine go_iloadN (q := 11) dO_10 rfl rfl ?_
  refine go_icmp (q := 40) (q2 := 14) dO_11 (by decide) (by decide) rfl (fun hc => absurd hc (by decide)) (fun _ => ?_)
  refine go_aloadN (q := 15) dO_14 rfl rfl rfl ?_
  refine go_iloadN (q := 16) dO_15 rfl rfl ?_
  refine go_aaload (q := 17) dO_16 rfl A1 rfl (by decide) (v := .ref c1) rfl ?_
  refine go_astore (q := 19) (l' := #[.val (.ref y), .val (.ref b), .val (.int (3 : Int32)), .val (.int (1 : Int32)), .val (.ref c1)]) dO_17 rfl rfl rfl ?_
  refine go_aload (q := 21) dO_19 rfl rfl rfl ?_
  refine go_getfield (q := 24) dO_21 rfl (hw _ (List.mem_of_getElem? (i := 92) rfl)) Via.refl G1 ?_
  refine go_aloadN (q := 25) dO_24 rfl rfl rfl ?_
  refine go_eq (q := 28) (W := 0) dO_25 rfl (hw _ (List.mem_of_getElem? (i := 94) rfl)) hw O2 P5 T1 S' rfl (by decide) (Nat.le_refl _) (by decide) (by decide) (by decide) (fun e1 => ?_) (fun n1 => ?_)
  · refine go_if (q := 34) (q2 := 31) dO_28 (by decide) (by decide) rfl (fun hc => absurd hc (by decide)) (fun _ => ?_)
    refine go_aload (q := 33) dO_31 rfl rfl rfl ?_
    exact go_areturn (out := []) rfl rfl rfl rfl dO_33 ⟨congrArg some (sel1 n0 e1).symm, rfl, E1⟩ all0 (by decide) (by decide)
  refine go_if (q := 34) (q2 := 31) dO_28 (by decide) (by decide) rfl (fun _ => ?_) (fun hc => absurd hc (by decide))
  refine go_iinc (q := 37) (l' := #[.val (.ref y), .val (.ref b), .val (.int (3 : Int32)), .val (.int (2 : Int32)), .val (.ref c1)]) dO_34 rfl rfl rfl ?_
  refine go_goto (q := 9) dO_37 (by decide) (by decide) ?_
  refine go_iloadN (q := 10) dO_9 rfl rfl ?_
  refine go_iloadN (q := 11) dO_10 rfl rfl ?_
  refine go_icmp (q := 40) (q2 := 14) dO_11 (by decide) (by decide) rfl (fun hc => absurd hc (by decide)) (fun _ => ?_)
  refine go_aloadN (q := 15) dO_14 rfl rfl rfl ?_
  refine go_iloadN (q := 16) dO_15 rfl rfl ?_
  refine go_aaload (q := 17) dO_16 rfl A1 rfl (by decide) (v := .ref c2) rfl ?_
  refine go_astore (q := 19) (l' := #[.val (.ref y), .val (.ref b), .val (.int (3 : Int32)), .val (.int (2 : Int32)), .val (.ref c2)]) dO_17 rfl rfl rfl ?_
  refine go_aload (q := 21) dO_19 rfl rfl rfl ?_
  refine go_getfield (q := 24) dO_21 rfl (hw _ (List.mem_of_getElem? (i := 92) rfl)) Via.refl G2 ?_
  refine go_aloadN (q := 25) dO_24 rfl rfl rfl ?_
  refine go_eq (q := 28) (W := 0) dO_25 rfl (hw _ (List.mem_of_getElem? (i := 94) rfl)) hw O2 P5 T2 S' rfl (by decide) (Nat.le_refl _) (by decide) (by decide) (by decide) (fun e2 => ?_) (fun n2 => ?_)
  · refine go_if (q := 34) (q2 := 31) dO_28 (by decide) (by decide) rfl (fun hc => absurd hc (by decide)) (fun _ => ?_)
    refine go_aload (q := 33) dO_31 rfl rfl rfl ?_
    exact go_areturn (out := []) rfl rfl rfl rfl dO_33 ⟨congrArg some (sel2 n0 n1 e2).symm, rfl, E1⟩ all0 (by decide) (by decide)
  refine go_if (q := 34) (q2 := 31) dO_28 (by decide) (by decide) rfl (fun _ => ?_) (fun hc => absurd hc (by decide))
  refine go_iinc (q := 37) (l' := #[.val (.ref y), .val (.ref b), .val (.int (3 : Int32)), .val (.int (3 : Int32)), .val (.ref c2)]) dO_34 rfl rfl rfl ?_
  refine go_goto (q := 9) dO_37 (by decide) (by decide) ?_
  refine go_iloadN (q := 10) dO_9 rfl rfl ?_
  refine go_iloadN (q := 11) dO_10 rfl rfl ?_
  refine go_icmp (q := 40) (q2 := 14) dO_11 (by decide) (by decide) rfl (fun _ => ?_) (fun hc => absurd hc (by decide))
  refine go_null (q := 41) dO_40 rfl ?_
  exact go_areturn (out := []) rfl rfl rfl rfl dO_41 ⟨congrArg some (sel3 n0 n1 n2).symm, rfl, E1⟩ all0 (by decide) (by decide)
set_option maxRecDepth 65536 in
set_option maxHeartbeats 4000000 in
theorem conON {l : Launch} {Z : State} {a0 : Array Value} {G1 : Int32} {h : Heap}  {va c0 c1 c2 s0 s1 s2 : Addr} {kV : ClassId} (hw : ∀ d ∈ tables_1, d.before a0 Z = true) (O2 : Sta Z Z.heap "java/lang/String" "COMPACT_STRINGS" "Z" (.int G1)) (P5 : ¬ G1 = (0 : Int32)) (E0 : Ext Z.heap h) (KV : Sta Z Z.heap "com/example/tallymark/tallymark/Scoring" "$VALUES" "[Lcom/example/tallymark/tallymark/Scoring;" (.ref va)) (AV : Arv Z Z.heap va kV (.object "com/example/tallymark/tallymark/Scoring") 3 [.ref c0, .ref c1, .ref c2] .null) (EV : Exa Z Z.heap va "[Lcom/example/tallymark/tallymark/Scoring;") (F0 : Fld Z Z.heap c0 "com/example/tallymark/tallymark/Scoring" "code" "Ljava/lang/String;" (.ref s0)) (F1 : Fld Z Z.heap c1 "com/example/tallymark/tallymark/Scoring" "code" "Ljava/lang/String;" (.ref s1)) (F2 : Fld Z Z.heap c2 "com/example/tallymark/tallymark/Scoring" "code" "Ljava/lang/String;" (.ref s2)) (S0 : OStr Z Z.heap s0 tx0) (S1 : OStr Z Z.heap s1 tx1) (S2 : OStr Z Z.heap s2 tx2)  : Con l false Z [] (⟨"com/example/tallymark/tallymark/Scoring", "of", "(Ljava/lang/String;)Lcom/example/tallymark/tallymark/Scoring;"⟩ : MethodName) prog_16_method_4_code 5 (some (.object "com/example/tallymark/tallymark/Scoring")) [] rO #[.null] h [] (fun v h' out => v = some .null ∧ out = [] ∧ Ext h h') := by
  refine con_of_go pn_Scoring (fun m => ef_ON m) E0 EW.none ?_
  refine go_callS (q := 3) (y := (⟨"com/example/tallymark/tallymark/Scoring", "values", "()[Lcom/example/tallymark/tallymark/Scoring;"⟩ : MethodName)) (W := 0) (argsL := []) (rest := []) (ws := []) (P := fun v h' L => ∃ out, (out = [] ∧ ∃ b, v = some (.ref b) ∧ Ext h h' ∧ Arv Z h' b kV (.object "com/example/tallymark/tallymark/Scoring") 3 [.ref c0, .ref c1, .ref c2] .null) ∧ Fr Z.heap.size L ∧ Ext Z.heap h' ∧ ∀ x ∈ out, Z.heap.size ≤ x ∧ x < h'.size) dO_0 rfl (hw _ (List.mem_of_getElem? (i := 77) rfl)) (hw _ (List.mem_of_getElem? (i := 78) rfl)) (hw _ (List.mem_of_getElem? (i := 75) rfl)) (hw _ (List.mem_of_getElem? (i := 79) rfl)) (by decide) (con_pay (conV hw E0 KV AV EV) all0 (hw _ (List.mem_of_getElem? (i := 79) rfl)) (hw _ (List.mem_of_getElem? (i := 75) rfl)) (by decide) (by decide)) rfl rfl (lenOf pd_V rfl) (Nat.le_refl _) (by decide) (by decide) (fun v h' L hP => ?_) all0 (fun v h1 L hP => ?_)
  · obtain ⟨out, ⟨-, b, -, E, -⟩, N, -⟩ := hP; exact ⟨N, keep_ext E _⟩
  obtain ⟨out, ⟨-, b, rfl, E1, A1⟩, -, X1, -⟩ := hP
  refine ⟨[], all0, ?_⟩
  show Go l false Z [] _ _ _ _ _ _ _ h1 [] _ _ 3 #[.val (.null), .unset, .unset, .unset, .unset] [(.ref b)]
  refine go_astoreN (q := 4) (l' := #[.val (.null), .val (.ref b), .unset, .unset, .unset]) dO_3 rfl rfl rfl ?_
  refine go_aloadN (q := 5) dO_4 rfl rfl rfl ?_
  refine go_arraylength (q := 6) dO_5 rfl A1 ?_
  have G0 := F0.ext X1
  have T0 := S0.ext X1
  have G1 := F1.ext X1
  have T1 := S1.ext X1
  have G2 := F2.ext X1
  have T2 := S2.ext X1
  refine go_istoreN (q := 7) (l' := #[.val (.null), .val (.ref b), .val (.int (3 : Int32)), .unset, .unset]) dO_6 rfl rfl ?_
  refine go_iconst (q := 8) (z := (0 : Int32)) dO_7 rfl rfl ?_
  refine go_istoreN (q := 9) (l' := #[.val (.null), .val (.ref b), .val (.int (3 : Int32)), .val (.int (0 : Int32)), .unset]) dO_8 rfl rfl ?_
  refine go_iloadN (q := 10) dO_9 rfl rfl ?_
  refine go_iloadN (q := 11) dO_10 rfl rfl ?_
  refine go_icmp (q := 40) (q2 := 14) dO_11 (by decide) (by decide) rfl (fun hc => absurd hc (by decide)) (fun _ => ?_)
  refine go_aloadN (q := 15) dO_14 rfl rfl rfl ?_
  refine go_iloadN (q := 16) dO_15 rfl rfl ?_
  refine go_aaload (q := 17) dO_16 rfl A1 rfl (by decide) (v := .ref c0) rfl ?_
  refine go_astore (q := 19) (l' := #[.val (.null), .val (.ref b), .val (.int (3 : Int32)), .val (.int (0 : Int32)), .val (.ref c0)]) dO_17 rfl rfl rfl ?_
  refine go_aload (q := 21) dO_19 rfl rfl rfl ?_
  refine go_getfield (q := 24) dO_21 rfl (hw _ (List.mem_of_getElem? (i := 92) rfl)) Via.refl G0 ?_
  refine go_aloadN (q := 25) dO_24 rfl rfl rfl ?_
  refine go_eqN (q := 28) (W := 0) dO_25 rfl (hw _ (List.mem_of_getElem? (i := 94) rfl)) hw T0.exa rfl (by decide) (Nat.le_refl _) (by decide) (by decide) (by decide) ?_
  refine go_if (q := 34) (q2 := 31) dO_28 (by decide) (by decide) rfl (fun _ => ?_) (fun hc => absurd hc (by decide))
  refine go_iinc (q := 37) (l' := #[.val (.null), .val (.ref b), .val (.int (3 : Int32)), .val (.int (1 : Int32)), .val (.ref c0)]) dO_34 rfl rfl rfl ?_
  refine go_goto (q := 9) dO_37 (by decide) (by decide) ?_
  refine go_iloadN (q := 10) dO_9 rfl rfl ?_
  refine go_iloadN (q := 11) dO_10 rfl rfl ?_
  refine go_icmp (q := 40) (q2 := 14) dO_11 (by decide) (by decide) rfl (fun hc => absurd hc (by decide)) (fun _ => ?_)
  refine go_aloadN (q := 15) dO_14 rfl rfl rfl ?_
  refine go_iloadN (q := 16) dO_15 rfl rfl ?_
  refine go_aaload (q := 17) dO_16 rfl A1 rfl (by decide) (v := .ref c1) rfl ?_
  refine go_astore (q := 19) (l' := #[.val (.null), .val (.ref b), .val (.int (3 : Int32)), .val (.int (1 : Int32)), .val (.ref c1)]) dO_17 rfl rfl rfl ?_
  refine go_aload (q := 21) dO_19 rfl rfl rfl ?_
  refine go_getfield (q := 24) dO_21 rfl (hw _ (List.mem_of_getElem? (i := 92) rfl)) Via.refl G1 ?_
  refine go_aloadN (q := 25) dO_24 rfl rfl rfl ?_
  refine go_eqN (q := 28) (W := 0) dO_25 rfl (hw _ (List.mem_of_getElem? (i := 94) rfl)) hw T1.exa rfl (by decide) (Nat.le_refl _) (by decide) (by decide) (by decide) ?_
  refine go_if (q := 34) (q2 := 31) dO_28 (by decide) (by decide) rfl (fun _ => ?_) (fun hc => absurd hc (by decide))
  refine go_iinc (q := 37) (l' := #[.val (.null), .val (.ref b), .val (.int (3 : Int32)), .val (.int (2 : Int32)), .val (.ref c1)]) dO_34 rfl rfl rfl ?_
  refine go_goto (q := 9) dO_37 (by decide) (by decide) ?_
  refine go_iloadN (q := 10) dO_9 rfl rfl ?_
  refine go_iloadN (q := 11) dO_10 rfl rfl ?_
  refine go_icmp (q := 40) (q2 := 14) dO_11 (by decide) (by decide) rfl (fun hc => absurd hc (by decide)) (fun _ => ?_)
  refine go_aloadN (q := 15) dO_14 rfl rfl rfl ?_
  refine go_iloadN (q := 16) dO_15 rfl rfl ?_
  refine go_aaload (q := 17) dO_16 rfl A1 rfl (by decide) (v := .ref c2) rfl ?_
  refine go_astore (q := 19) (l' := #[.val (.null), .val (.ref b), .val (.int (3 : Int32)), .val (.int (2 : Int32)), .val (.ref c2)]) dO_17 rfl rfl rfl ?_
  refine go_aload (q := 21) dO_19 rfl rfl rfl ?_
  refine go_getfield (q := 24) dO_21 rfl (hw _ (List.mem_of_getElem? (i := 92) rfl)) Via.refl G2 ?_
  refine go_aloadN (q := 25) dO_24 rfl rfl rfl ?_
  refine go_eqN (q := 28) (W := 0) dO_25 rfl (hw _ (List.mem_of_getElem? (i := 94) rfl)) hw T2.exa rfl (by decide) (Nat.le_refl _) (by decide) (by decide) (by decide) ?_
  refine go_if (q := 34) (q2 := 31) dO_28 (by decide) (by decide) rfl (fun _ => ?_) (fun hc => absurd hc (by decide))
  refine go_iinc (q := 37) (l' := #[.val (.null), .val (.ref b), .val (.int (3 : Int32)), .val (.int (3 : Int32)), .val (.ref c2)]) dO_34 rfl rfl rfl ?_
  refine go_goto (q := 9) dO_37 (by decide) (by decide) ?_
  refine go_iloadN (q := 10) dO_9 rfl rfl ?_
  refine go_iloadN (q := 11) dO_10 rfl rfl ?_
  refine go_icmp (q := 40) (q2 := 14) dO_11 (by decide) (by decide) rfl (fun _ => ?_) (fun hc => absurd hc (by decide))
  refine go_null (q := 41) dO_40 rfl ?_
  exact go_areturn (out := []) rfl rfl rfl rfl dO_41 ⟨rfl, rfl, E1⟩ all0 (by decide) (by decide)
theorem pn_ScoringOfPinLaw : plainName "com/example/tallymark/tallymark/ScoringOfPinLaw" = true := by first | (simp [plainName, overriddenIn]; done) | decide +kernel
theorem dX_0 : decode method_5_code 0 = .ok (.aload_n 0, 1) := by decide +kernel
theorem dX_1 : decode method_5_code 1 = .ok (.ifnonnull 5, 3) := by decide +kernel
theorem dX_4 : decode method_5_code 4 = .ok (.aconst_null, 1) := by decide +kernel
theorem dX_5 : decode method_5_code 5 = .ok (.areturn, 1) := by decide +kernel
theorem dX_6 : decode method_5_code 6 = .ok (.aload_n 0, 1) := by decide +kernel
theorem dX_7 : decode method_5_code 7 = .ok (.ldc 9, 2) := by decide +kernel
theorem dX_9 : decode method_5_code 9 = .ok (.invokevirtual 48, 3) := by decide +kernel
theorem dX_12 : decode method_5_code 12 = .ok (.ifCond .eq 7, 3) := by decide +kernel
theorem dX_15 : decode method_5_code 15 = .ok (.getstatic 52, 3) := by decide +kernel
theorem dX_18 : decode method_5_code 18 = .ok (.areturn, 1) := by decide +kernel
theorem dX_19 : decode method_5_code 19 = .ok (.aload_n 0, 1) := by decide +kernel
theorem dX_20 : decode method_5_code 20 = .ok (.ldc 11, 2) := by decide +kernel
theorem dX_22 : decode method_5_code 22 = .ok (.invokevirtual 48, 3) := by decide +kernel
theorem dX_25 : decode method_5_code 25 = .ok (.ifCond .eq 7, 3) := by decide +kernel
theorem dX_28 : decode method_5_code 28 = .ok (.getstatic 56, 3) := by decide +kernel
theorem dX_31 : decode method_5_code 31 = .ok (.areturn, 1) := by decide +kernel
theorem dX_32 : decode method_5_code 32 = .ok (.aload_n 0, 1) := by decide +kernel
theorem dX_33 : decode method_5_code 33 = .ok (.ldc 13, 2) := by decide +kernel
theorem dX_35 : decode method_5_code 35 = .ok (.invokevirtual 48, 3) := by decide +kernel
theorem dX_38 : decode method_5_code 38 = .ok (.ifCond .eq 7, 3) := by decide +kernel
theorem dX_41 : decode method_5_code 41 = .ok (.getstatic 59, 3) := by decide +kernel
theorem dX_44 : decode method_5_code 44 = .ok (.areturn, 1) := by decide +kernel
theorem dX_45 : decode method_5_code 45 = .ok (.aconst_null, 1) := by decide +kernel
theorem dX_46 : decode method_5_code 46 = .ok (.areturn, 1) := by decide +kernel
theorem pd_X : parseMethodDescriptor "(Ljava/lang/String;)Lcom/example/tallymark/tallymark/Scoring;" = some ⟨[(.object "java/lang/String")], some (.object "com/example/tallymark/tallymark/Scoring")⟩ := by decide +kernel
theorem ef_X (m : MethodId) (y : Addr) : entryFrame m #[(.ref y)] 1 = mkF m 0 #[.val (.ref y)] [] := by first | (simp [entryFrame, mkF, argsToLocals, Value.category]; done) | rfl
theorem ef_XN (m : MethodId)  : entryFrame m #[(.null)] 1 = mkF m 0 #[.val (.null)] [] := by first | (simp [entryFrame, mkF, argsToLocals, Value.category]; done) | rfl
abbrev rX : Room := { frames := 2, cells := 6, slots := 96, locals := 40 }
set_option maxRecDepth 65536 in
set_option maxHeartbeats 4000000 in
theorem conXN {l : Launch} {Z : State} {a0 : Array Value} {h : Heap} (E0 : Ext Z.heap h) (hEL : EW Z a0 consts_1) : Con l true Z consts_1 (⟨"com/example/tallymark/tallymark/ScoringOfPinLaw", "expected", "(Ljava/lang/String;)Lcom/example/tallymark/tallymark/Scoring;"⟩ : MethodName) method_5_code 1 (some (.object "com/example/tallymark/tallymark/Scoring")) [] rX #[.null] h [] (fun v h' out => v = some .null ∧ out = []) := by
  refine con_of_go pn_ScoringOfPinLaw (fun m => ef_XN m) E0 ⟨a0, hEL⟩ ?_
  refine go_aloadN (q := 1) dX_0 rfl rfl rfl ?_
  refine go_ifnonnullN (q := 4) dX_1 rfl ?_
  refine go_null (q := 5) dX_4 rfl ?_
  exact go_areturn (out := []) rfl rfl rfl rfl dX_5 ⟨rfl, rfl⟩ all0 (by decide) (by decide)
set_option maxRecDepth 65536 in
set_option maxHeartbeats 4000000 in
theorem conX {l : Launch} {Z : State} {a0 : Array Value} {G1 : Int32} {h : Heap} {y : Addr} {cs : List Int32} {c0 c1 c2 : Addr} (hw : ∀ d ∈ tables_1, d.before a0 Z = true) (hEL : EW Z a0 consts_1) (O2 : Sta Z Z.heap "java/lang/String" "COMPACT_STRINGS" "Z" (.int G1)) (P5 : ¬ G1 = (0 : Int32)) (E0 : Ext Z.heap h) (K0 : Sta Z Z.heap "com/example/tallymark/tallymark/Scoring" "PROPORTION" "Lcom/example/tallymark/tallymark/Scoring;" (.ref c0)) (K1 : Sta Z Z.heap "com/example/tallymark/tallymark/Scoring" "COHORT" "Lcom/example/tallymark/tallymark/Scoring;" (.ref c1)) (K2 : Sta Z Z.heap "com/example/tallymark/tallymark/Scoring" "RATIO" "Lcom/example/tallymark/tallymark/Scoring;" (.ref c2)) (S : OStr Z h y cs) : Con l true Z consts_1 (⟨"com/example/tallymark/tallymark/ScoringOfPinLaw", "expected", "(Ljava/lang/String;)Lcom/example/tallymark/tallymark/Scoring;"⟩ : MethodName) method_5_code 1 (some (.object "com/example/tallymark/tallymark/Scoring")) [] rX #[.ref y] h [] (fun v h' out => v = some (selC c0 c1 c2 cs) ∧ out = []) := by
  refine con_of_go pn_ScoringOfPinLaw (fun m => ef_X m y) E0 ⟨a0, hEL⟩ ?_
  refine go_aloadN (q := 1) dX_0 rfl rfl rfl ?_
  refine go_ifnonnullY (q := 6) dX_1 (by decide) (by decide) ?_
  refine go_aloadN (q := 7) dX_6 rfl rfl rfl ?_
  refine go_lit (q := 9) (cs := tx0) (n := 40) dX_7 rfl rfl (hw _ (List.mem_of_getElem? (i := 0) rfl)) hw hEL (List.mem_of_getElem? (i := 1) rfl) ⟨by decide, by first | rfl | decide +kernel⟩ (by decide) (by decide) (by decide) (by decide) (by decide) (by decide) fun g0 a0 E0 L0 _ => ?_
  refine go_eq (q := 12) (W := 0) dX_9 rfl (hw _ (List.mem_of_getElem? (i := 108) rfl)) hw O2 P5 (S.ext E0) L0 rfl (by decide) (Nat.le_refl _) (by decide) (by decide) (by decide) (fun e0 => ?_) (fun n0 => ?_)
  · refine go_if (q := 19) (q2 := 15) dX_12 (by decide) (by decide) rfl (fun hc => absurd hc (by decide)) (fun _ => ?_)
    refine go_getstatic (q := 18) dX_15 rfl (hw _ (List.mem_of_getElem? (i := 116) rfl)) Via.refl K0 ?_
    exact go_areturn (out := []) rfl rfl rfl rfl dX_18 ⟨congrArg some (sel0  e0.symm).symm, rfl⟩ all0 (by decide) (by decide)
  refine go_if (q := 19) (q2 := 15) dX_12 (by decide) (by decide) rfl (fun _ => ?_) (fun hc => absurd hc (by decide))
  refine go_aloadN (q := 20) dX_19 rfl rfl rfl ?_
  refine go_lit (q := 22) (cs := tx1) (n := 24) dX_20 rfl rfl (hw _ (List.mem_of_getElem? (i := 109) rfl)) hw hEL (List.mem_of_getElem? (i := 2) rfl) ⟨by decide, by first | rfl | decide +kernel⟩ (by decide) (by decide) (by decide) (by decide) (by decide) (by decide) fun g1 a1 E1 L1 _ => ?_
  refine go_eq (q := 25) (W := 0) dX_22 rfl (hw _ (List.mem_of_getElem? (i := 108) rfl)) hw O2 P5 ((S.ext E0).ext E1) L1 rfl (by decide) (Nat.le_refl _) (by decide) (by decide) (by decide) (fun e1 => ?_) (fun n1 => ?_)
  · refine go_if (q := 32) (q2 := 28) dX_25 (by decide) (by decide) rfl (fun hc => absurd hc (by decide)) (fun _ => ?_)
    refine go_getstatic (q := 31) dX_28 rfl (hw _ (List.mem_of_getElem? (i := 112) rfl)) Via.refl K1 ?_
    exact go_areturn (out := []) rfl rfl rfl rfl dX_31 ⟨congrArg some (sel1 (Ne.symm n0) e1.symm).symm, rfl⟩ all0 (by decide) (by decide)
  refine go_if (q := 32) (q2 := 28) dX_25 (by decide) (by decide) rfl (fun _ => ?_) (fun hc => absurd hc (by decide))
  refine go_aloadN (q := 33) dX_32 rfl rfl rfl ?_
  refine go_lit (q := 35) (cs := tx2) (n := 20) dX_33 rfl rfl (hw _ (List.mem_of_getElem? (i := 110) rfl)) hw hEL (List.mem_of_getElem? (i := 3) rfl) ⟨by decide, by first | rfl | decide +kernel⟩ (by decide) (by decide) (by decide) (by decide) (by decide) (by decide) fun g2 a2 E2 L2 _ => ?_
  refine go_eq (q := 38) (W := 0) dX_35 rfl (hw _ (List.mem_of_getElem? (i := 108) rfl)) hw O2 P5 (((S.ext E0).ext E1).ext E2) L2 rfl (by decide) (Nat.le_refl _) (by decide) (by decide) (by decide) (fun e2 => ?_) (fun n2 => ?_)
  · refine go_if (q := 45) (q2 := 41) dX_38 (by decide) (by decide) rfl (fun hc => absurd hc (by decide)) (fun _ => ?_)
    refine go_getstatic (q := 44) dX_41 rfl (hw _ (List.mem_of_getElem? (i := 114) rfl)) Via.refl K2 ?_
    exact go_areturn (out := []) rfl rfl rfl rfl dX_44 ⟨congrArg some (sel2 (Ne.symm n0) (Ne.symm n1) e2.symm).symm, rfl⟩ all0 (by decide) (by decide)
  refine go_if (q := 45) (q2 := 41) dX_38 (by decide) (by decide) rfl (fun _ => ?_) (fun hc => absurd hc (by decide))
  refine go_null (q := 46) dX_45 rfl ?_
  exact go_areturn (out := []) rfl rfl rfl rfl dX_46 ⟨congrArg some (sel3 (Ne.symm n0) (Ne.symm n1) (Ne.symm n2)).symm, rfl⟩ all0 (by decide) (by decide)
theorem dA_0 : decode method_3_code 0 = .ok (.iload_n 1, 1) := by decide +kernel
theorem dA_1 : decode method_3_code 1 = .ok (.iload_n 2, 1) := by decide +kernel
theorem dA_2 : decode method_3_code 2 = .ok (.if_icmp .ne 5, 3) := by decide +kernel
theorem dA_5 : decode method_3_code 5 = .ok (.iload_n 3, 1) := by decide +kernel
theorem dA_6 : decode method_3_code 6 = .ok (.ireturn, 1) := by decide +kernel
theorem dA_7 : decode method_3_code 7 = .ok (.iload_n 1, 1) := by decide +kernel
theorem dA_8 : decode method_3_code 8 = .ok (.aload_n 0, 1) := by decide +kernel
theorem dA_9 : decode method_3_code 9 = .ok (.invokevirtual 15, 3) := by decide +kernel
theorem dA_12 : decode method_3_code 12 = .ok (.if_icmp .ge 9, 3) := by decide +kernel
theorem dA_15 : decode method_3_code 15 = .ok (.aload_n 0, 1) := by decide +kernel
theorem dA_16 : decode method_3_code 16 = .ok (.iload_n 1, 1) := by decide +kernel
theorem dA_17 : decode method_3_code 17 = .ok (.invokevirtual 41, 3) := by decide +kernel
theorem dA_20 : decode method_3_code 20 = .ok (.ireturn, 1) := by decide +kernel
theorem dA_21 : decode method_3_code 21 = .ok (.iload 4, 2) := by decide +kernel
theorem dA_23 : decode method_3_code 23 = .ok (.ireturn, 1) := by decide +kernel
theorem pd_A : parseMethodDescriptor "(Ljava/lang/String;IICC)C" = some ⟨[(.object "java/lang/String"), .int, .int, .char, .char], some .char⟩ := by decide +kernel
theorem ef_A (m : MethodId) (y : Addr) (i n c e : Int32) : entryFrame m #[(.ref y), (.int i), (.int n), (.int c), (.int e)] 5 = mkF m 0 #[.val (.ref y), .val (.int i), .val (.int n), .val (.int c), .val (.int e)] [] := by first | (simp [entryFrame, mkF, argsToLocals, Value.category]; done) | rfl
abbrev rA : Room := { frames := 4, cells := 0, slots := 0, locals := 54 }
theorem own_lt {k n : Nat} (hk : k ≤ 4000) (hn : n ≤ 4000) (h : if_icmp.holds .ge (Int32.ofNat k) (Int32.ofNat n) = false) : k < n := by
  have e1 : (Int32.ofNat k).toInt = k := Int32.toInt_ofNat_small (by omega)
  have e2 : (Int32.ofNat n).toInt = n := Int32.toInt_ofNat_small (by omega)
  simp only [if_icmp.holds, ge_iff_le, decide_eq_false_iff_not, Int32.le_iff_toInt_le, e1, e2] at h
  omega
set_option maxRecDepth 65536 in
set_option maxHeartbeats 4000000 in
theorem conA {l : Launch} {Z : State} {a0 : Array Value} {G1 : Int32} {G3 : Value} {h : Heap} {y : Addr} {cs : List Int32} (hw : ∀ d ∈ tables_1, d.before a0 Z = true) (O2 : Sta Z Z.heap "java/lang/String" "COMPACT_STRINGS" "Z" (.int G1)) (P5 : ¬ G1 = (0 : Int32)) (O4 : Sta Z Z.heap "jdk/internal/util/Preconditions" "SIOOBE_FORMATTER" "Ljava/util/function/BiFunction;" G3) (rG3 : G3.isRef = true) (E0 : Ext Z.heap h) (S : OStr Z h y cs) (k : Nat) (hk : k ≤ 4000) (n : Int32) {c e : Int32} (hc : ¬ c < 0 ∧ ¬ (255 : Int32) < c) (he : ¬ e < 0 ∧ ¬ (255 : Int32) < e) : Con l false Z [] (⟨"com/example/tallymark/tallymark/ScoringOfPinLaw", "at", "(Ljava/lang/String;IICC)C"⟩ : MethodName) method_3_code 5 (some .char) [] rA #[.ref y, .int (Int32.ofNat k), .int n, .int c, .int e] h [] (fun v h' out => (∃ r : Int32, v = some (.int r) ∧ ¬ r < 0 ∧ ¬ (255 : Int32) < r) ∧ out = [] ∧ h' = h) := by
  refine con_of_go pn_ScoringOfPinLaw (fun m => ef_A m y (Int32.ofNat k) n c e) E0 EW.none ?_
  refine go_iloadN (q := 1) dA_0 rfl rfl ?_
  refine go_iloadN (q := 2) dA_1 rfl rfl ?_
  refine go_icmp (q := 7) (q2 := 5) dA_2 (by decide) (by decide) rfl (fun _ => ?_) (fun _ => ?_)
  rotate_left
  · refine go_iloadN (q := 6) dA_5 rfl rfl ?_
    exact go_ireturn (out := []) rfl (by simp) (narrow_chr hc) dA_6 ⟨⟨_, rfl, hc⟩, rfl, rfl⟩ all0 (by decide) (by decide)
  refine go_iloadN (q := 8) dA_7 rfl rfl ?_
  refine go_aloadN (q := 9) dA_8 rfl rfl rfl ?_
  refine go_len (q := 12) (W := 1) dA_9 rfl (hw _ (List.mem_of_getElem? (i := 8) rfl)) hw O2 P5 S rfl (by decide) (Nat.le_of_ble_eq_true rfl) (by decide) (by decide) (by decide) ?_
  refine go_icmp (q := 21) (q2 := 15) dA_12 (by decide) (by decide) rfl (fun _ => ?_) (fun hlt => ?_)
  · refine go_iload (q := 23) dA_21 rfl rfl ?_
    exact go_ireturn (out := []) rfl (by simp) (narrow_chr he) dA_23 ⟨⟨_, rfl, he⟩, rfl, rfl⟩ all0 (by decide) (by decide)
  refine go_aloadN (q := 16) dA_15 rfl rfl rfl ?_
  refine go_iloadN (q := 17) dA_16 rfl rfl ?_
  have hlen : cs.length ≤ 4000 := by obtain ⟨_, _, _, _, _, _, _, q⟩ := S; exact q
  have hki : k < cs.length := own_lt hk hlen hlt
  refine go_ch (q := 20) (W := 0) (i := k) dA_17 rfl (hw _ (List.mem_of_getElem? (i := 27) rfl)) hw O2 P5 O4 rG3 S hki rfl rfl (by decide) (Nat.le_refl _) (by decide) (by decide) (by decide) ?_
  have hr : ¬ cs.getD k 0 < 0 ∧ ¬ (255 : Int32) < cs.getD k 0 := by obtain ⟨_, _, _, _, _, _, hp, _⟩ := S; exact hp _ (by rw [List.getD_eq_getElem?_getD, List.getElem?_eq_getElem hki]; exact List.getElem_mem hki)
  exact go_ireturn (out := []) rfl (by simp) (narrow_chr hr) dA_20 ⟨⟨_, rfl, hr⟩, rfl, rfl⟩ all0 (by decide) (by decide)
theorem dM_0 : decode method_4_code 0 = .ok (.iload_n 0, 1) := by decide +kernel
theorem dM_1 : decode method_4_code 1 = .ok (.iconst 4, 1) := by decide +kernel
theorem dM_2 : decode method_4_code 2 = .ok (.if_icmp .ne 38, 3) := by decide +kernel
theorem dM_5 : decode method_4_code 5 = .ok (.new 16, 3) := by decide +kernel
theorem dM_8 : decode method_4_code 8 = .ok (.dup, 1) := by decide +kernel
theorem dM_9 : decode method_4_code 9 = .ok (.iconst 4, 1) := by decide +kernel
theorem dM_10 : decode method_4_code 10 = .ok (.newarray .char, 2) := by decide +kernel
theorem dM_12 : decode method_4_code 12 = .ok (.dup, 1) := by decide +kernel
theorem dM_13 : decode method_4_code 13 = .ok (.iconst 0, 1) := by decide +kernel
theorem dM_14 : decode method_4_code 14 = .ok (.aload_n 1, 1) := by decide +kernel
theorem dM_15 : decode method_4_code 15 = .ok (.iconst 0, 1) := by decide +kernel
theorem dM_16 : decode method_4_code 16 = .ok (.caload, 1) := by decide +kernel
theorem dM_17 : decode method_4_code 17 = .ok (.castore, 1) := by decide +kernel
theorem dM_18 : decode method_4_code 18 = .ok (.dup, 1) := by decide +kernel
theorem dM_19 : decode method_4_code 19 = .ok (.iconst 1, 1) := by decide +kernel
theorem dM_20 : decode method_4_code 20 = .ok (.aload_n 1, 1) := by decide +kernel
theorem dM_21 : decode method_4_code 21 = .ok (.iconst 1, 1) := by decide +kernel
theorem dM_22 : decode method_4_code 22 = .ok (.caload, 1) := by decide +kernel
theorem dM_23 : decode method_4_code 23 = .ok (.castore, 1) := by decide +kernel
theorem dM_24 : decode method_4_code 24 = .ok (.dup, 1) := by decide +kernel
theorem dM_25 : decode method_4_code 25 = .ok (.iconst 2, 1) := by decide +kernel
theorem dM_26 : decode method_4_code 26 = .ok (.aload_n 1, 1) := by decide +kernel
theorem dM_27 : decode method_4_code 27 = .ok (.iconst 2, 1) := by decide +kernel
theorem dM_28 : decode method_4_code 28 = .ok (.caload, 1) := by decide +kernel
theorem dM_29 : decode method_4_code 29 = .ok (.castore, 1) := by decide +kernel
theorem dM_30 : decode method_4_code 30 = .ok (.dup, 1) := by decide +kernel
theorem dM_31 : decode method_4_code 31 = .ok (.iconst 3, 1) := by decide +kernel
theorem dM_32 : decode method_4_code 32 = .ok (.aload_n 1, 1) := by decide +kernel
theorem dM_33 : decode method_4_code 33 = .ok (.iconst 3, 1) := by decide +kernel
theorem dM_34 : decode method_4_code 34 = .ok (.caload, 1) := by decide +kernel
theorem dM_35 : decode method_4_code 35 = .ok (.castore, 1) := by decide +kernel
theorem dM_36 : decode method_4_code 36 = .ok (.invokespecial 45, 3) := by decide +kernel
theorem dM_39 : decode method_4_code 39 = .ok (.areturn, 1) := by decide +kernel
theorem dM_40 : decode method_4_code 40 = .ok (.iload_n 0, 1) := by decide +kernel
theorem dM_41 : decode method_4_code 41 = .ok (.iconst 5, 1) := by decide +kernel
theorem dM_42 : decode method_4_code 42 = .ok (.if_icmp .ne 44, 3) := by decide +kernel
theorem dM_45 : decode method_4_code 45 = .ok (.new 16, 3) := by decide +kernel
theorem dM_48 : decode method_4_code 48 = .ok (.dup, 1) := by decide +kernel
theorem dM_49 : decode method_4_code 49 = .ok (.iconst 5, 1) := by decide +kernel
theorem dM_50 : decode method_4_code 50 = .ok (.newarray .char, 2) := by decide +kernel
theorem dM_52 : decode method_4_code 52 = .ok (.dup, 1) := by decide +kernel
theorem dM_53 : decode method_4_code 53 = .ok (.iconst 0, 1) := by decide +kernel
theorem dM_54 : decode method_4_code 54 = .ok (.aload_n 1, 1) := by decide +kernel
theorem dM_55 : decode method_4_code 55 = .ok (.iconst 0, 1) := by decide +kernel
theorem dM_56 : decode method_4_code 56 = .ok (.caload, 1) := by decide +kernel
theorem dM_57 : decode method_4_code 57 = .ok (.castore, 1) := by decide +kernel
theorem dM_58 : decode method_4_code 58 = .ok (.dup, 1) := by decide +kernel
theorem dM_59 : decode method_4_code 59 = .ok (.iconst 1, 1) := by decide +kernel
theorem dM_60 : decode method_4_code 60 = .ok (.aload_n 1, 1) := by decide +kernel
theorem dM_61 : decode method_4_code 61 = .ok (.iconst 1, 1) := by decide +kernel
theorem dM_62 : decode method_4_code 62 = .ok (.caload, 1) := by decide +kernel
theorem dM_63 : decode method_4_code 63 = .ok (.castore, 1) := by decide +kernel
theorem dM_64 : decode method_4_code 64 = .ok (.dup, 1) := by decide +kernel
theorem dM_65 : decode method_4_code 65 = .ok (.iconst 2, 1) := by decide +kernel
theorem dM_66 : decode method_4_code 66 = .ok (.aload_n 1, 1) := by decide +kernel
theorem dM_67 : decode method_4_code 67 = .ok (.iconst 2, 1) := by decide +kernel
theorem dM_68 : decode method_4_code 68 = .ok (.caload, 1) := by decide +kernel
theorem dM_69 : decode method_4_code 69 = .ok (.castore, 1) := by decide +kernel
theorem dM_70 : decode method_4_code 70 = .ok (.dup, 1) := by decide +kernel
theorem dM_71 : decode method_4_code 71 = .ok (.iconst 3, 1) := by decide +kernel
theorem dM_72 : decode method_4_code 72 = .ok (.aload_n 1, 1) := by decide +kernel
theorem dM_73 : decode method_4_code 73 = .ok (.iconst 3, 1) := by decide +kernel
theorem dM_74 : decode method_4_code 74 = .ok (.caload, 1) := by decide +kernel
theorem dM_75 : decode method_4_code 75 = .ok (.castore, 1) := by decide +kernel
theorem dM_76 : decode method_4_code 76 = .ok (.dup, 1) := by decide +kernel
theorem dM_77 : decode method_4_code 77 = .ok (.iconst 4, 1) := by decide +kernel
theorem dM_78 : decode method_4_code 78 = .ok (.aload_n 1, 1) := by decide +kernel
theorem dM_79 : decode method_4_code 79 = .ok (.iconst 4, 1) := by decide +kernel
theorem dM_80 : decode method_4_code 80 = .ok (.caload, 1) := by decide +kernel
theorem dM_81 : decode method_4_code 81 = .ok (.castore, 1) := by decide +kernel
theorem dM_82 : decode method_4_code 82 = .ok (.invokespecial 45, 3) := by decide +kernel
theorem dM_85 : decode method_4_code 85 = .ok (.areturn, 1) := by decide +kernel
theorem dM_86 : decode method_4_code 86 = .ok (.iload_n 0, 1) := by decide +kernel
theorem dM_87 : decode method_4_code 87 = .ok (.bipush 6, 2) := by decide +kernel
theorem dM_89 : decode method_4_code 89 = .ok (.if_icmp .ne 51, 3) := by decide +kernel
theorem dM_92 : decode method_4_code 92 = .ok (.new 16, 3) := by decide +kernel
theorem dM_95 : decode method_4_code 95 = .ok (.dup, 1) := by decide +kernel
theorem dM_96 : decode method_4_code 96 = .ok (.bipush 6, 2) := by decide +kernel
theorem dM_98 : decode method_4_code 98 = .ok (.newarray .char, 2) := by decide +kernel
theorem dM_100 : decode method_4_code 100 = .ok (.dup, 1) := by decide +kernel
theorem dM_101 : decode method_4_code 101 = .ok (.iconst 0, 1) := by decide +kernel
theorem dM_102 : decode method_4_code 102 = .ok (.aload_n 1, 1) := by decide +kernel
theorem dM_103 : decode method_4_code 103 = .ok (.iconst 0, 1) := by decide +kernel
theorem dM_104 : decode method_4_code 104 = .ok (.caload, 1) := by decide +kernel
theorem dM_105 : decode method_4_code 105 = .ok (.castore, 1) := by decide +kernel
theorem dM_106 : decode method_4_code 106 = .ok (.dup, 1) := by decide +kernel
theorem dM_107 : decode method_4_code 107 = .ok (.iconst 1, 1) := by decide +kernel
theorem dM_108 : decode method_4_code 108 = .ok (.aload_n 1, 1) := by decide +kernel
theorem dM_109 : decode method_4_code 109 = .ok (.iconst 1, 1) := by decide +kernel
theorem dM_110 : decode method_4_code 110 = .ok (.caload, 1) := by decide +kernel
theorem dM_111 : decode method_4_code 111 = .ok (.castore, 1) := by decide +kernel
theorem dM_112 : decode method_4_code 112 = .ok (.dup, 1) := by decide +kernel
theorem dM_113 : decode method_4_code 113 = .ok (.iconst 2, 1) := by decide +kernel
theorem dM_114 : decode method_4_code 114 = .ok (.aload_n 1, 1) := by decide +kernel
theorem dM_115 : decode method_4_code 115 = .ok (.iconst 2, 1) := by decide +kernel
theorem dM_116 : decode method_4_code 116 = .ok (.caload, 1) := by decide +kernel
theorem dM_117 : decode method_4_code 117 = .ok (.castore, 1) := by decide +kernel
theorem dM_118 : decode method_4_code 118 = .ok (.dup, 1) := by decide +kernel
theorem dM_119 : decode method_4_code 119 = .ok (.iconst 3, 1) := by decide +kernel
theorem dM_120 : decode method_4_code 120 = .ok (.aload_n 1, 1) := by decide +kernel
theorem dM_121 : decode method_4_code 121 = .ok (.iconst 3, 1) := by decide +kernel
theorem dM_122 : decode method_4_code 122 = .ok (.caload, 1) := by decide +kernel
theorem dM_123 : decode method_4_code 123 = .ok (.castore, 1) := by decide +kernel
theorem dM_124 : decode method_4_code 124 = .ok (.dup, 1) := by decide +kernel
theorem dM_125 : decode method_4_code 125 = .ok (.iconst 4, 1) := by decide +kernel
theorem dM_126 : decode method_4_code 126 = .ok (.aload_n 1, 1) := by decide +kernel
theorem dM_127 : decode method_4_code 127 = .ok (.iconst 4, 1) := by decide +kernel
theorem dM_128 : decode method_4_code 128 = .ok (.caload, 1) := by decide +kernel
theorem dM_129 : decode method_4_code 129 = .ok (.castore, 1) := by decide +kernel
theorem dM_130 : decode method_4_code 130 = .ok (.dup, 1) := by decide +kernel
theorem dM_131 : decode method_4_code 131 = .ok (.iconst 5, 1) := by decide +kernel
theorem dM_132 : decode method_4_code 132 = .ok (.aload_n 1, 1) := by decide +kernel
theorem dM_133 : decode method_4_code 133 = .ok (.iconst 5, 1) := by decide +kernel
theorem dM_134 : decode method_4_code 134 = .ok (.caload, 1) := by decide +kernel
theorem dM_135 : decode method_4_code 135 = .ok (.castore, 1) := by decide +kernel
theorem dM_136 : decode method_4_code 136 = .ok (.invokespecial 45, 3) := by decide +kernel
theorem dM_139 : decode method_4_code 139 = .ok (.areturn, 1) := by decide +kernel
theorem dM_140 : decode method_4_code 140 = .ok (.iload_n 0, 1) := by decide +kernel
theorem dM_141 : decode method_4_code 141 = .ok (.bipush 7, 2) := by decide +kernel
theorem dM_143 : decode method_4_code 143 = .ok (.if_icmp .ne 59, 3) := by decide +kernel
theorem dM_146 : decode method_4_code 146 = .ok (.new 16, 3) := by decide +kernel
theorem dM_149 : decode method_4_code 149 = .ok (.dup, 1) := by decide +kernel
theorem dM_150 : decode method_4_code 150 = .ok (.bipush 7, 2) := by decide +kernel
theorem dM_152 : decode method_4_code 152 = .ok (.newarray .char, 2) := by decide +kernel
theorem dM_154 : decode method_4_code 154 = .ok (.dup, 1) := by decide +kernel
theorem dM_155 : decode method_4_code 155 = .ok (.iconst 0, 1) := by decide +kernel
theorem dM_156 : decode method_4_code 156 = .ok (.aload_n 1, 1) := by decide +kernel
theorem dM_157 : decode method_4_code 157 = .ok (.iconst 0, 1) := by decide +kernel
theorem dM_158 : decode method_4_code 158 = .ok (.caload, 1) := by decide +kernel
theorem dM_159 : decode method_4_code 159 = .ok (.castore, 1) := by decide +kernel
theorem dM_160 : decode method_4_code 160 = .ok (.dup, 1) := by decide +kernel
theorem dM_161 : decode method_4_code 161 = .ok (.iconst 1, 1) := by decide +kernel
theorem dM_162 : decode method_4_code 162 = .ok (.aload_n 1, 1) := by decide +kernel
theorem dM_163 : decode method_4_code 163 = .ok (.iconst 1, 1) := by decide +kernel
theorem dM_164 : decode method_4_code 164 = .ok (.caload, 1) := by decide +kernel
theorem dM_165 : decode method_4_code 165 = .ok (.castore, 1) := by decide +kernel
theorem dM_166 : decode method_4_code 166 = .ok (.dup, 1) := by decide +kernel
theorem dM_167 : decode method_4_code 167 = .ok (.iconst 2, 1) := by decide +kernel
theorem dM_168 : decode method_4_code 168 = .ok (.aload_n 1, 1) := by decide +kernel
theorem dM_169 : decode method_4_code 169 = .ok (.iconst 2, 1) := by decide +kernel
theorem dM_170 : decode method_4_code 170 = .ok (.caload, 1) := by decide +kernel
theorem dM_171 : decode method_4_code 171 = .ok (.castore, 1) := by decide +kernel
theorem dM_172 : decode method_4_code 172 = .ok (.dup, 1) := by decide +kernel
theorem dM_173 : decode method_4_code 173 = .ok (.iconst 3, 1) := by decide +kernel
theorem dM_174 : decode method_4_code 174 = .ok (.aload_n 1, 1) := by decide +kernel
theorem dM_175 : decode method_4_code 175 = .ok (.iconst 3, 1) := by decide +kernel
theorem dM_176 : decode method_4_code 176 = .ok (.caload, 1) := by decide +kernel
theorem dM_177 : decode method_4_code 177 = .ok (.castore, 1) := by decide +kernel
theorem dM_178 : decode method_4_code 178 = .ok (.dup, 1) := by decide +kernel
theorem dM_179 : decode method_4_code 179 = .ok (.iconst 4, 1) := by decide +kernel
theorem dM_180 : decode method_4_code 180 = .ok (.aload_n 1, 1) := by decide +kernel
theorem dM_181 : decode method_4_code 181 = .ok (.iconst 4, 1) := by decide +kernel
theorem dM_182 : decode method_4_code 182 = .ok (.caload, 1) := by decide +kernel
theorem dM_183 : decode method_4_code 183 = .ok (.castore, 1) := by decide +kernel
theorem dM_184 : decode method_4_code 184 = .ok (.dup, 1) := by decide +kernel
theorem dM_185 : decode method_4_code 185 = .ok (.iconst 5, 1) := by decide +kernel
theorem dM_186 : decode method_4_code 186 = .ok (.aload_n 1, 1) := by decide +kernel
theorem dM_187 : decode method_4_code 187 = .ok (.iconst 5, 1) := by decide +kernel
theorem dM_188 : decode method_4_code 188 = .ok (.caload, 1) := by decide +kernel
theorem dM_189 : decode method_4_code 189 = .ok (.castore, 1) := by decide +kernel
theorem dM_190 : decode method_4_code 190 = .ok (.dup, 1) := by decide +kernel
theorem dM_191 : decode method_4_code 191 = .ok (.bipush 6, 2) := by decide +kernel
theorem dM_193 : decode method_4_code 193 = .ok (.aload_n 1, 1) := by decide +kernel
theorem dM_194 : decode method_4_code 194 = .ok (.bipush 6, 2) := by decide +kernel
theorem dM_196 : decode method_4_code 196 = .ok (.caload, 1) := by decide +kernel
theorem dM_197 : decode method_4_code 197 = .ok (.castore, 1) := by decide +kernel
theorem dM_198 : decode method_4_code 198 = .ok (.invokespecial 45, 3) := by decide +kernel
theorem dM_201 : decode method_4_code 201 = .ok (.areturn, 1) := by decide +kernel
theorem dM_202 : decode method_4_code 202 = .ok (.iload_n 0, 1) := by decide +kernel
theorem dM_203 : decode method_4_code 203 = .ok (.bipush 9, 2) := by decide +kernel
theorem dM_205 : decode method_4_code 205 = .ok (.if_icmp .ne 75, 3) := by decide +kernel
theorem dM_208 : decode method_4_code 208 = .ok (.new 16, 3) := by decide +kernel
theorem dM_211 : decode method_4_code 211 = .ok (.dup, 1) := by decide +kernel
theorem dM_212 : decode method_4_code 212 = .ok (.bipush 9, 2) := by decide +kernel
theorem dM_214 : decode method_4_code 214 = .ok (.newarray .char, 2) := by decide +kernel
theorem dM_216 : decode method_4_code 216 = .ok (.dup, 1) := by decide +kernel
theorem dM_217 : decode method_4_code 217 = .ok (.iconst 0, 1) := by decide +kernel
theorem dM_218 : decode method_4_code 218 = .ok (.aload_n 1, 1) := by decide +kernel
theorem dM_219 : decode method_4_code 219 = .ok (.iconst 0, 1) := by decide +kernel
theorem dM_220 : decode method_4_code 220 = .ok (.caload, 1) := by decide +kernel
theorem dM_221 : decode method_4_code 221 = .ok (.castore, 1) := by decide +kernel
theorem dM_222 : decode method_4_code 222 = .ok (.dup, 1) := by decide +kernel
theorem dM_223 : decode method_4_code 223 = .ok (.iconst 1, 1) := by decide +kernel
theorem dM_224 : decode method_4_code 224 = .ok (.aload_n 1, 1) := by decide +kernel
theorem dM_225 : decode method_4_code 225 = .ok (.iconst 1, 1) := by decide +kernel
theorem dM_226 : decode method_4_code 226 = .ok (.caload, 1) := by decide +kernel
theorem dM_227 : decode method_4_code 227 = .ok (.castore, 1) := by decide +kernel
theorem dM_228 : decode method_4_code 228 = .ok (.dup, 1) := by decide +kernel
theorem dM_229 : decode method_4_code 229 = .ok (.iconst 2, 1) := by decide +kernel
theorem dM_230 : decode method_4_code 230 = .ok (.aload_n 1, 1) := by decide +kernel
theorem dM_231 : decode method_4_code 231 = .ok (.iconst 2, 1) := by decide +kernel
theorem dM_232 : decode method_4_code 232 = .ok (.caload, 1) := by decide +kernel
theorem dM_233 : decode method_4_code 233 = .ok (.castore, 1) := by decide +kernel
theorem dM_234 : decode method_4_code 234 = .ok (.dup, 1) := by decide +kernel
theorem dM_235 : decode method_4_code 235 = .ok (.iconst 3, 1) := by decide +kernel
theorem dM_236 : decode method_4_code 236 = .ok (.aload_n 1, 1) := by decide +kernel
theorem dM_237 : decode method_4_code 237 = .ok (.iconst 3, 1) := by decide +kernel
theorem dM_238 : decode method_4_code 238 = .ok (.caload, 1) := by decide +kernel
theorem dM_239 : decode method_4_code 239 = .ok (.castore, 1) := by decide +kernel
theorem dM_240 : decode method_4_code 240 = .ok (.dup, 1) := by decide +kernel
theorem dM_241 : decode method_4_code 241 = .ok (.iconst 4, 1) := by decide +kernel
theorem dM_242 : decode method_4_code 242 = .ok (.aload_n 1, 1) := by decide +kernel
theorem dM_243 : decode method_4_code 243 = .ok (.iconst 4, 1) := by decide +kernel
theorem dM_244 : decode method_4_code 244 = .ok (.caload, 1) := by decide +kernel
theorem dM_245 : decode method_4_code 245 = .ok (.castore, 1) := by decide +kernel
theorem dM_246 : decode method_4_code 246 = .ok (.dup, 1) := by decide +kernel
theorem dM_247 : decode method_4_code 247 = .ok (.iconst 5, 1) := by decide +kernel
theorem dM_248 : decode method_4_code 248 = .ok (.aload_n 1, 1) := by decide +kernel
theorem dM_249 : decode method_4_code 249 = .ok (.iconst 5, 1) := by decide +kernel
theorem dM_250 : decode method_4_code 250 = .ok (.caload, 1) := by decide +kernel
theorem dM_251 : decode method_4_code 251 = .ok (.castore, 1) := by decide +kernel
theorem dM_252 : decode method_4_code 252 = .ok (.dup, 1) := by decide +kernel
theorem dM_253 : decode method_4_code 253 = .ok (.bipush 6, 2) := by decide +kernel
theorem dM_255 : decode method_4_code 255 = .ok (.aload_n 1, 1) := by decide +kernel
theorem dM_256 : decode method_4_code 256 = .ok (.bipush 6, 2) := by decide +kernel
theorem dM_258 : decode method_4_code 258 = .ok (.caload, 1) := by decide +kernel
theorem dM_259 : decode method_4_code 259 = .ok (.castore, 1) := by decide +kernel
theorem dM_260 : decode method_4_code 260 = .ok (.dup, 1) := by decide +kernel
theorem dM_261 : decode method_4_code 261 = .ok (.bipush 7, 2) := by decide +kernel
theorem dM_263 : decode method_4_code 263 = .ok (.aload_n 1, 1) := by decide +kernel
theorem dM_264 : decode method_4_code 264 = .ok (.bipush 7, 2) := by decide +kernel
theorem dM_266 : decode method_4_code 266 = .ok (.caload, 1) := by decide +kernel
theorem dM_267 : decode method_4_code 267 = .ok (.castore, 1) := by decide +kernel
theorem dM_268 : decode method_4_code 268 = .ok (.dup, 1) := by decide +kernel
theorem dM_269 : decode method_4_code 269 = .ok (.bipush 8, 2) := by decide +kernel
theorem dM_271 : decode method_4_code 271 = .ok (.aload_n 1, 1) := by decide +kernel
theorem dM_272 : decode method_4_code 272 = .ok (.bipush 8, 2) := by decide +kernel
theorem dM_274 : decode method_4_code 274 = .ok (.caload, 1) := by decide +kernel
theorem dM_275 : decode method_4_code 275 = .ok (.castore, 1) := by decide +kernel
theorem dM_276 : decode method_4_code 276 = .ok (.invokespecial 45, 3) := by decide +kernel
theorem dM_279 : decode method_4_code 279 = .ok (.areturn, 1) := by decide +kernel
theorem dM_280 : decode method_4_code 280 = .ok (.iload_n 0, 1) := by decide +kernel
theorem dM_281 : decode method_4_code 281 = .ok (.bipush 10, 2) := by decide +kernel
theorem dM_283 : decode method_4_code 283 = .ok (.if_icmp .ne 83, 3) := by decide +kernel
theorem dM_286 : decode method_4_code 286 = .ok (.new 16, 3) := by decide +kernel
theorem dM_289 : decode method_4_code 289 = .ok (.dup, 1) := by decide +kernel
theorem dM_290 : decode method_4_code 290 = .ok (.bipush 10, 2) := by decide +kernel
theorem dM_292 : decode method_4_code 292 = .ok (.newarray .char, 2) := by decide +kernel
theorem dM_294 : decode method_4_code 294 = .ok (.dup, 1) := by decide +kernel
theorem dM_295 : decode method_4_code 295 = .ok (.iconst 0, 1) := by decide +kernel
theorem dM_296 : decode method_4_code 296 = .ok (.aload_n 1, 1) := by decide +kernel
theorem dM_297 : decode method_4_code 297 = .ok (.iconst 0, 1) := by decide +kernel
theorem dM_298 : decode method_4_code 298 = .ok (.caload, 1) := by decide +kernel
theorem dM_299 : decode method_4_code 299 = .ok (.castore, 1) := by decide +kernel
theorem dM_300 : decode method_4_code 300 = .ok (.dup, 1) := by decide +kernel
theorem dM_301 : decode method_4_code 301 = .ok (.iconst 1, 1) := by decide +kernel
theorem dM_302 : decode method_4_code 302 = .ok (.aload_n 1, 1) := by decide +kernel
theorem dM_303 : decode method_4_code 303 = .ok (.iconst 1, 1) := by decide +kernel
theorem dM_304 : decode method_4_code 304 = .ok (.caload, 1) := by decide +kernel
theorem dM_305 : decode method_4_code 305 = .ok (.castore, 1) := by decide +kernel
theorem dM_306 : decode method_4_code 306 = .ok (.dup, 1) := by decide +kernel
theorem dM_307 : decode method_4_code 307 = .ok (.iconst 2, 1) := by decide +kernel
theorem dM_308 : decode method_4_code 308 = .ok (.aload_n 1, 1) := by decide +kernel
theorem dM_309 : decode method_4_code 309 = .ok (.iconst 2, 1) := by decide +kernel
theorem dM_310 : decode method_4_code 310 = .ok (.caload, 1) := by decide +kernel
theorem dM_311 : decode method_4_code 311 = .ok (.castore, 1) := by decide +kernel
theorem dM_312 : decode method_4_code 312 = .ok (.dup, 1) := by decide +kernel
theorem dM_313 : decode method_4_code 313 = .ok (.iconst 3, 1) := by decide +kernel
theorem dM_314 : decode method_4_code 314 = .ok (.aload_n 1, 1) := by decide +kernel
theorem dM_315 : decode method_4_code 315 = .ok (.iconst 3, 1) := by decide +kernel
theorem dM_316 : decode method_4_code 316 = .ok (.caload, 1) := by decide +kernel
theorem dM_317 : decode method_4_code 317 = .ok (.castore, 1) := by decide +kernel
theorem dM_318 : decode method_4_code 318 = .ok (.dup, 1) := by decide +kernel
theorem dM_319 : decode method_4_code 319 = .ok (.iconst 4, 1) := by decide +kernel
theorem dM_320 : decode method_4_code 320 = .ok (.aload_n 1, 1) := by decide +kernel
theorem dM_321 : decode method_4_code 321 = .ok (.iconst 4, 1) := by decide +kernel
theorem dM_322 : decode method_4_code 322 = .ok (.caload, 1) := by decide +kernel
theorem dM_323 : decode method_4_code 323 = .ok (.castore, 1) := by decide +kernel
theorem dM_324 : decode method_4_code 324 = .ok (.dup, 1) := by decide +kernel
theorem dM_325 : decode method_4_code 325 = .ok (.iconst 5, 1) := by decide +kernel
theorem dM_326 : decode method_4_code 326 = .ok (.aload_n 1, 1) := by decide +kernel
theorem dM_327 : decode method_4_code 327 = .ok (.iconst 5, 1) := by decide +kernel
theorem dM_328 : decode method_4_code 328 = .ok (.caload, 1) := by decide +kernel
theorem dM_329 : decode method_4_code 329 = .ok (.castore, 1) := by decide +kernel
theorem dM_330 : decode method_4_code 330 = .ok (.dup, 1) := by decide +kernel
theorem dM_331 : decode method_4_code 331 = .ok (.bipush 6, 2) := by decide +kernel
theorem dM_333 : decode method_4_code 333 = .ok (.aload_n 1, 1) := by decide +kernel
theorem dM_334 : decode method_4_code 334 = .ok (.bipush 6, 2) := by decide +kernel
theorem dM_336 : decode method_4_code 336 = .ok (.caload, 1) := by decide +kernel
theorem dM_337 : decode method_4_code 337 = .ok (.castore, 1) := by decide +kernel
theorem dM_338 : decode method_4_code 338 = .ok (.dup, 1) := by decide +kernel
theorem dM_339 : decode method_4_code 339 = .ok (.bipush 7, 2) := by decide +kernel
theorem dM_341 : decode method_4_code 341 = .ok (.aload_n 1, 1) := by decide +kernel
theorem dM_342 : decode method_4_code 342 = .ok (.bipush 7, 2) := by decide +kernel
theorem dM_344 : decode method_4_code 344 = .ok (.caload, 1) := by decide +kernel
theorem dM_345 : decode method_4_code 345 = .ok (.castore, 1) := by decide +kernel
theorem dM_346 : decode method_4_code 346 = .ok (.dup, 1) := by decide +kernel
theorem dM_347 : decode method_4_code 347 = .ok (.bipush 8, 2) := by decide +kernel
theorem dM_349 : decode method_4_code 349 = .ok (.aload_n 1, 1) := by decide +kernel
theorem dM_350 : decode method_4_code 350 = .ok (.bipush 8, 2) := by decide +kernel
theorem dM_352 : decode method_4_code 352 = .ok (.caload, 1) := by decide +kernel
theorem dM_353 : decode method_4_code 353 = .ok (.castore, 1) := by decide +kernel
theorem dM_354 : decode method_4_code 354 = .ok (.dup, 1) := by decide +kernel
theorem dM_355 : decode method_4_code 355 = .ok (.bipush 9, 2) := by decide +kernel
theorem dM_357 : decode method_4_code 357 = .ok (.aload_n 1, 1) := by decide +kernel
theorem dM_358 : decode method_4_code 358 = .ok (.bipush 9, 2) := by decide +kernel
theorem dM_360 : decode method_4_code 360 = .ok (.caload, 1) := by decide +kernel
theorem dM_361 : decode method_4_code 361 = .ok (.castore, 1) := by decide +kernel
theorem dM_362 : decode method_4_code 362 = .ok (.invokespecial 45, 3) := by decide +kernel
theorem dM_365 : decode method_4_code 365 = .ok (.areturn, 1) := by decide +kernel
theorem dM_366 : decode method_4_code 366 = .ok (.new 16, 3) := by decide +kernel
theorem dM_369 : decode method_4_code 369 = .ok (.dup, 1) := by decide +kernel
theorem dM_370 : decode method_4_code 370 = .ok (.bipush 11, 2) := by decide +kernel
theorem dM_372 : decode method_4_code 372 = .ok (.newarray .char, 2) := by decide +kernel
theorem dM_374 : decode method_4_code 374 = .ok (.dup, 1) := by decide +kernel
theorem dM_375 : decode method_4_code 375 = .ok (.iconst 0, 1) := by decide +kernel
theorem dM_376 : decode method_4_code 376 = .ok (.aload_n 1, 1) := by decide +kernel
theorem dM_377 : decode method_4_code 377 = .ok (.iconst 0, 1) := by decide +kernel
theorem dM_378 : decode method_4_code 378 = .ok (.caload, 1) := by decide +kernel
theorem dM_379 : decode method_4_code 379 = .ok (.castore, 1) := by decide +kernel
theorem dM_380 : decode method_4_code 380 = .ok (.dup, 1) := by decide +kernel
theorem dM_381 : decode method_4_code 381 = .ok (.iconst 1, 1) := by decide +kernel
theorem dM_382 : decode method_4_code 382 = .ok (.aload_n 1, 1) := by decide +kernel
theorem dM_383 : decode method_4_code 383 = .ok (.iconst 1, 1) := by decide +kernel
theorem dM_384 : decode method_4_code 384 = .ok (.caload, 1) := by decide +kernel
theorem dM_385 : decode method_4_code 385 = .ok (.castore, 1) := by decide +kernel
theorem dM_386 : decode method_4_code 386 = .ok (.dup, 1) := by decide +kernel
theorem dM_387 : decode method_4_code 387 = .ok (.iconst 2, 1) := by decide +kernel
theorem dM_388 : decode method_4_code 388 = .ok (.aload_n 1, 1) := by decide +kernel
theorem dM_389 : decode method_4_code 389 = .ok (.iconst 2, 1) := by decide +kernel
theorem dM_390 : decode method_4_code 390 = .ok (.caload, 1) := by decide +kernel
theorem dM_391 : decode method_4_code 391 = .ok (.castore, 1) := by decide +kernel
theorem dM_392 : decode method_4_code 392 = .ok (.dup, 1) := by decide +kernel
theorem dM_393 : decode method_4_code 393 = .ok (.iconst 3, 1) := by decide +kernel
theorem dM_394 : decode method_4_code 394 = .ok (.aload_n 1, 1) := by decide +kernel
theorem dM_395 : decode method_4_code 395 = .ok (.iconst 3, 1) := by decide +kernel
theorem dM_396 : decode method_4_code 396 = .ok (.caload, 1) := by decide +kernel
theorem dM_397 : decode method_4_code 397 = .ok (.castore, 1) := by decide +kernel
theorem dM_398 : decode method_4_code 398 = .ok (.dup, 1) := by decide +kernel
theorem dM_399 : decode method_4_code 399 = .ok (.iconst 4, 1) := by decide +kernel
theorem dM_400 : decode method_4_code 400 = .ok (.aload_n 1, 1) := by decide +kernel
theorem dM_401 : decode method_4_code 401 = .ok (.iconst 4, 1) := by decide +kernel
theorem dM_402 : decode method_4_code 402 = .ok (.caload, 1) := by decide +kernel
theorem dM_403 : decode method_4_code 403 = .ok (.castore, 1) := by decide +kernel
theorem dM_404 : decode method_4_code 404 = .ok (.dup, 1) := by decide +kernel
theorem dM_405 : decode method_4_code 405 = .ok (.iconst 5, 1) := by decide +kernel
theorem dM_406 : decode method_4_code 406 = .ok (.aload_n 1, 1) := by decide +kernel
theorem dM_407 : decode method_4_code 407 = .ok (.iconst 5, 1) := by decide +kernel
theorem dM_408 : decode method_4_code 408 = .ok (.caload, 1) := by decide +kernel
theorem dM_409 : decode method_4_code 409 = .ok (.castore, 1) := by decide +kernel
theorem dM_410 : decode method_4_code 410 = .ok (.dup, 1) := by decide +kernel
theorem dM_411 : decode method_4_code 411 = .ok (.bipush 6, 2) := by decide +kernel
theorem dM_413 : decode method_4_code 413 = .ok (.aload_n 1, 1) := by decide +kernel
theorem dM_414 : decode method_4_code 414 = .ok (.bipush 6, 2) := by decide +kernel
theorem dM_416 : decode method_4_code 416 = .ok (.caload, 1) := by decide +kernel
theorem dM_417 : decode method_4_code 417 = .ok (.castore, 1) := by decide +kernel
theorem dM_418 : decode method_4_code 418 = .ok (.dup, 1) := by decide +kernel
theorem dM_419 : decode method_4_code 419 = .ok (.bipush 7, 2) := by decide +kernel
theorem dM_421 : decode method_4_code 421 = .ok (.aload_n 1, 1) := by decide +kernel
theorem dM_422 : decode method_4_code 422 = .ok (.bipush 7, 2) := by decide +kernel
theorem dM_424 : decode method_4_code 424 = .ok (.caload, 1) := by decide +kernel
theorem dM_425 : decode method_4_code 425 = .ok (.castore, 1) := by decide +kernel
theorem dM_426 : decode method_4_code 426 = .ok (.dup, 1) := by decide +kernel
theorem dM_427 : decode method_4_code 427 = .ok (.bipush 8, 2) := by decide +kernel
theorem dM_429 : decode method_4_code 429 = .ok (.aload_n 1, 1) := by decide +kernel
theorem dM_430 : decode method_4_code 430 = .ok (.bipush 8, 2) := by decide +kernel
theorem dM_432 : decode method_4_code 432 = .ok (.caload, 1) := by decide +kernel
theorem dM_433 : decode method_4_code 433 = .ok (.castore, 1) := by decide +kernel
theorem dM_434 : decode method_4_code 434 = .ok (.dup, 1) := by decide +kernel
theorem dM_435 : decode method_4_code 435 = .ok (.bipush 9, 2) := by decide +kernel
theorem dM_437 : decode method_4_code 437 = .ok (.aload_n 1, 1) := by decide +kernel
theorem dM_438 : decode method_4_code 438 = .ok (.bipush 9, 2) := by decide +kernel
theorem dM_440 : decode method_4_code 440 = .ok (.caload, 1) := by decide +kernel
theorem dM_441 : decode method_4_code 441 = .ok (.castore, 1) := by decide +kernel
theorem dM_442 : decode method_4_code 442 = .ok (.dup, 1) := by decide +kernel
theorem dM_443 : decode method_4_code 443 = .ok (.bipush 10, 2) := by decide +kernel
theorem dM_445 : decode method_4_code 445 = .ok (.aload_n 1, 1) := by decide +kernel
theorem dM_446 : decode method_4_code 446 = .ok (.bipush 10, 2) := by decide +kernel
theorem dM_448 : decode method_4_code 448 = .ok (.caload, 1) := by decide +kernel
theorem dM_449 : decode method_4_code 449 = .ok (.castore, 1) := by decide +kernel
theorem dM_450 : decode method_4_code 450 = .ok (.invokespecial 45, 3) := by decide +kernel
theorem dM_453 : decode method_4_code 453 = .ok (.areturn, 1) := by decide +kernel
theorem pd_M : parseMethodDescriptor "(I[C)Ljava/lang/String;" = some ⟨[.int, (.array .char)], some (.object "java/lang/String")⟩ := by decide +kernel
theorem ef_M (m : MethodId) (n : Int32) (y : Addr) : entryFrame m #[(.int n), (.ref y)] 2 = mkF m 0 #[.val (.int n), .val (.ref y)] [] := by first | (simp [entryFrame, mkF, argsToLocals, Value.category]; done) | rfl
abbrev rM : Room := { frames := 4, cells := 3, slots := 26, locals := 66 }
def QM (Z : State) (h : Heap) (v : Option Value) (h' : Heap) (out : List Addr) : Prop := out = [] ∧ ∃ (s : Addr) (cs : List Int32), v = some (.ref s) ∧ OStr Z h' s cs ∧ Ext h h'
set_option maxRecDepth 65536 in
set_option maxHeartbeats 4000000 in
theorem conM {l : Launch} {Z : State} {a0 : Array Value} {G1 : Int32} {h : Heap} {y : Addr} {kY : ClassId} {n r0 r1 r2 r3 r4 r5 r6 r7 r8 r9 r10 : Int32} (hw : ∀ d ∈ tables_1, d.before a0 Z = true) (O2 : Sta Z Z.heap "java/lang/String" "COMPACT_STRINGS" "Z" (.int G1)) (P5 : ¬ G1 = (0 : Int32)) (E0 : Ext Z.heap h) (K : Arv Z h y kY .char 11 [.int r0, .int r1, .int r2, .int r3, .int r4, .int r5, .int r6, .int r7, .int r8, .int r9, .int r10] (.int 0)) (q0 : ¬ r0 < 0 ∧ ¬ (255 : Int32) < r0) (q1 : ¬ r1 < 0 ∧ ¬ (255 : Int32) < r1) (q2 : ¬ r2 < 0 ∧ ¬ (255 : Int32) < r2) (q3 : ¬ r3 < 0 ∧ ¬ (255 : Int32) < r3) (q4 : ¬ r4 < 0 ∧ ¬ (255 : Int32) < r4) (q5 : ¬ r5 < 0 ∧ ¬ (255 : Int32) < r5) (q6 : ¬ r6 < 0 ∧ ¬ (255 : Int32) < r6) (q7 : ¬ r7 < 0 ∧ ¬ (255 : Int32) < r7) (q8 : ¬ r8 < 0 ∧ ¬ (255 : Int32) < r8) (q9 : ¬ r9 < 0 ∧ ¬ (255 : Int32) < r9) (q10 : ¬ r10 < 0 ∧ ¬ (255 : Int32) < r10) : Con l false Z [] (⟨"com/example/tallymark/tallymark/ScoringOfPinLaw", "make", "(I[C)Ljava/lang/String;"⟩ : MethodName) method_4_code 2 (some (.object "java/lang/String")) [] rM #[.int n, .ref y] h [] (QM Z h) := by
  refine con_of_go pn_ScoringOfPinLaw (fun m => ef_M m n y) E0 EW.none ?_
  refine go_iloadN (q := 1) dM_0 rfl rfl ?_
  refine go_iconst (q := 2) (z := (4 : Int32)) dM_1 rfl rfl ?_
  refine go_icmp (q := 40) (q2 := 5) dM_2 (by decide) (by decide) rfl (fun _ => ?_) (fun _ => ?_)
  rotate_left
  · refine go_new (q := 8) dM_5 rfl (hw _ (List.mem_of_getElem? (i := 52) rfl)) (hw _ (List.mem_of_getElem? (i := 2) rfl)) (hw _ (List.mem_of_getElem? (i := 1) rfl)) (by decide) (by decide) fun h1 s1 es1 E1 A1 D1 => ?_
    refine go_dup (q := 9) dM_8 rfl rfl ?_
    refine go_iconst (q := 10) (z := (4 : Int32)) dM_9 rfl rfl ?_
    refine go_newarray (q := 12) (cap := 11) (ad := "[C") dM_10 rfl (hw _ (List.mem_of_getElem? (i := 22) rfl)) (by decide) (by decide) (by decide) (by decide) (by decide) rfl fun h2 b kC eb E2 R0 B2 => ?_
    have R1 : Arv Z h2 b kC .char (4 : Int32) [.int 0, .int 0, .int 0, .int 0] (.int 0) := R0.pad (pad_rep [] (.int 0) 4)
    have nb : y ≠ b := Nat.ne_of_lt (Nat.lt_of_lt_of_le (Nat.lt_of_lt_of_le K.lt E1.1) (Nat.le_of_eq eb.symm))
    have Y := (K.ext E1).ext E2
    refine go_dup (q := 13) dM_12 rfl rfl ?_
    refine go_iconst (q := 14) (z := (0 : Int32)) dM_13 rfl rfl ?_
    refine go_aloadN (q := 15) dM_14 rfl rfl rfl ?_
    refine go_iconst (q := 16) (z := (0 : Int32)) dM_15 rfl rfl ?_
    refine go_caload (q := 17) dM_16 rfl Y (by decide) (v := .int r0) rfl ?_
    refine go_castore (q := 18) (i := 0) dM_17 rfl R1 (by decide) rfl (Nat.le_of_ble_eq_true rfl) (List.mem_cons_self ..) fun g0 J0 Q0 => ?_
    have Y0 := Y.keep J0 (ninS nb nin0)
    refine go_dup (q := 19) dM_18 rfl rfl ?_
    refine go_iconst (q := 20) (z := (1 : Int32)) dM_19 rfl rfl ?_
    refine go_aloadN (q := 21) dM_20 rfl rfl rfl ?_
    refine go_iconst (q := 22) (z := (1 : Int32)) dM_21 rfl rfl ?_
    refine go_caload (q := 23) dM_22 rfl Y0 (by decide) (v := .int r1) rfl ?_
    refine go_castore (q := 24) (i := 1) dM_23 rfl Q0 (by decide) rfl (Nat.le_of_ble_eq_true rfl) (List.mem_cons_self ..) fun g1 J1 Q1 => ?_
    have Y1 := Y0.keep J1 (ninS nb nin0)
    refine go_dup (q := 25) dM_24 rfl rfl ?_
    refine go_iconst (q := 26) (z := (2 : Int32)) dM_25 rfl rfl ?_
    refine go_aloadN (q := 27) dM_26 rfl rfl rfl ?_
    refine go_iconst (q := 28) (z := (2 : Int32)) dM_27 rfl rfl ?_
    refine go_caload (q := 29) dM_28 rfl Y1 (by decide) (v := .int r2) rfl ?_
    refine go_castore (q := 30) (i := 2) dM_29 rfl Q1 (by decide) rfl (Nat.le_of_ble_eq_true rfl) (List.mem_cons_self ..) fun g2 J2 Q2 => ?_
    have Y2 := Y1.keep J2 (ninS nb nin0)
    refine go_dup (q := 31) dM_30 rfl rfl ?_
    refine go_iconst (q := 32) (z := (3 : Int32)) dM_31 rfl rfl ?_
    refine go_aloadN (q := 33) dM_32 rfl rfl rfl ?_
    refine go_iconst (q := 34) (z := (3 : Int32)) dM_33 rfl rfl ?_
    refine go_caload (q := 35) dM_34 rfl Y2 (by decide) (v := .int r3) rfl ?_
    refine go_castore (q := 36) (i := 3) dM_35 rfl Q2 (by decide) rfl (Nat.le_of_ble_eq_true rfl) (List.mem_cons_self ..) fun g3 J3 Q3 => ?_
    have Y3 := Y2.keep J3 (ninS nb nin0)
    have KK := (((((Keep.refl h2 [b]).trans J0 (fun x hx => Or.inl hx)).trans J1 (fun x hx => Or.inl hx)).trans J2 (fun x hx => Or.inl hx)).trans J3 (fun x hx => Or.inl hx))
    have ns : s1 ≠ b := Nat.ne_of_lt (Nat.lt_of_lt_of_le A1.lt (Nat.le_of_eq eb.symm))
    refine go_strInit1 (q := 39) (W := 1) dM_36 rfl (hw _ (List.mem_of_getElem? (i := 53) rfl)) hw O2 P5 (cs := [nar .char r0, nar .char r1, nar .char r2, nar .char r3]) ((A1.ext E2).keep KK) (((D1 (Or.inr (hw _ (List.mem_of_getElem? (i := 4) rfl))) (ty := .array .byte) (by decide)).ext E2).keep KK (ninS ns nin0)) (((D1 (Or.inr (hw _ (List.mem_of_getElem? (i := 5) rfl))) (ty := .byte) (by decide)).ext E2).keep KK (ninS ns nin0)) Q3 (Nat.le_of_ble_eq_true rfl) (Nat.le_of_ble_eq_true rfl) (fun c hc => by simp only [List.mem_cons, List.not_mem_nil, or_false] at hc; rcases hc with rfl | rfl | rfl | rfl <;> (rw [nar_ch (by assumption)]; assumption)) (List.mem_cons_of_mem _ (List.mem_cons_self ..)) rfl (by decide) (Nat.le_of_ble_eq_true rfl) (by decide) (by decide) (Nat.le_of_ble_eq_true rfl) fun h4 K4 S4 => ?_
    have X : Ext h h4 := ext_keep (ext_keep (ext_tr E1 E2) KK (allS (by rw [eb]; exact E1.1) all0)) K4 (allS (Nat.le_of_eq es1.symm) all0)
    exact go_areturn (out := []) rfl rfl rfl rfl dM_39 ⟨rfl, s1, _, rfl, S4, X⟩ all0 (by decide) (Nat.le_of_ble_eq_true rfl)
  refine go_iloadN (q := 41) dM_40 rfl rfl ?_
  refine go_iconst (q := 42) (z := (5 : Int32)) dM_41 rfl rfl ?_
  refine go_icmp (q := 86) (q2 := 45) dM_42 (by decide) (by decide) rfl (fun _ => ?_) (fun _ => ?_)
  rotate_left
  · refine go_new (q := 48) dM_45 rfl (hw _ (List.mem_of_getElem? (i := 52) rfl)) (hw _ (List.mem_of_getElem? (i := 2) rfl)) (hw _ (List.mem_of_getElem? (i := 1) rfl)) (by decide) (by decide) fun h1 s1 es1 E1 A1 D1 => ?_
    refine go_dup (q := 49) dM_48 rfl rfl ?_
    refine go_iconst (q := 50) (z := (5 : Int32)) dM_49 rfl rfl ?_
    refine go_newarray (q := 52) (cap := 11) (ad := "[C") dM_50 rfl (hw _ (List.mem_of_getElem? (i := 22) rfl)) (by decide) (by decide) (by decide) (by decide) (by decide) rfl fun h2 b kC eb E2 R0 B2 => ?_
    have R1 : Arv Z h2 b kC .char (5 : Int32) [.int 0, .int 0, .int 0, .int 0, .int 0] (.int 0) := R0.pad (pad_rep [] (.int 0) 5)
    have nb : y ≠ b := Nat.ne_of_lt (Nat.lt_of_lt_of_le (Nat.lt_of_lt_of_le K.lt E1.1) (Nat.le_of_eq eb.symm))
    have Y := (K.ext E1).ext E2
    refine go_dup (q := 53) dM_52 rfl rfl ?_
    refine go_iconst (q := 54) (z := (0 : Int32)) dM_53 rfl rfl ?_
    refine go_aloadN (q := 55) dM_54 rfl rfl rfl ?_
    refine go_iconst (q := 56) (z := (0 : Int32)) dM_55 rfl rfl ?_
    refine go_caload (q := 57) dM_56 rfl Y (by decide) (v := .int r0) rfl ?_
    refine go_castore (q := 58) (i := 0) dM_57 rfl R1 (by decide) rfl (Nat.le_of_ble_eq_true rfl) (List.mem_cons_self ..) fun g0 J0 Q0 => ?_
    have Y0 := Y.keep J0 (ninS nb nin0)
    refine go_dup (q := 59) dM_58 rfl rfl ?_
    refine go_iconst (q := 60) (z := (1 : Int32)) dM_59 rfl rfl ?_
    refine go_aloadN (q := 61) dM_60 rfl rfl rfl ?_
    refine go_iconst (q := 62) (z := (1 : Int32)) dM_61 rfl rfl ?_
    refine go_caload (q := 63) dM_62 rfl Y0 (by decide) (v := .int r1) rfl ?_
    refine go_castore (q := 64) (i := 1) dM_63 rfl Q0 (by decide) rfl (Nat.le_of_ble_eq_true rfl) (List.mem_cons_self ..) fun g1 J1 Q1 => ?_
    have Y1 := Y0.keep J1 (ninS nb nin0)
    refine go_dup (q := 65) dM_64 rfl rfl ?_
    refine go_iconst (q := 66) (z := (2 : Int32)) dM_65 rfl rfl ?_
    refine go_aloadN (q := 67) dM_66 rfl rfl rfl ?_
    refine go_iconst (q := 68) (z := (2 : Int32)) dM_67 rfl rfl ?_
    refine go_caload (q := 69) dM_68 rfl Y1 (by decide) (v := .int r2) rfl ?_
    refine go_castore (q := 70) (i := 2) dM_69 rfl Q1 (by decide) rfl (Nat.le_of_ble_eq_true rfl) (List.mem_cons_self ..) fun g2 J2 Q2 => ?_
    have Y2 := Y1.keep J2 (ninS nb nin0)
    refine go_dup (q := 71) dM_70 rfl rfl ?_
    refine go_iconst (q := 72) (z := (3 : Int32)) dM_71 rfl rfl ?_
    refine go_aloadN (q := 73) dM_72 rfl rfl rfl ?_
    refine go_iconst (q := 74) (z := (3 : Int32)) dM_73 rfl rfl ?_
    refine go_caload (q := 75) dM_74 rfl Y2 (by decide) (v := .int r3) rfl ?_
    refine go_castore (q := 76) (i := 3) dM_75 rfl Q2 (by decide) rfl (Nat.le_of_ble_eq_true rfl) (List.mem_cons_self ..) fun g3 J3 Q3 => ?_
    have Y3 := Y2.keep J3 (ninS nb nin0)
    refine go_dup (q := 77) dM_76 rfl rfl ?_
    refine go_iconst (q := 78) (z := (4 : Int32)) dM_77 rfl rfl ?_
    refine go_aloadN (q := 79) dM_78 rfl rfl rfl ?_
    refine go_iconst (q := 80) (z := (4 : Int32)) dM_79 rfl rfl ?_
    refine go_caload (q := 81) dM_80 rfl Y3 (by decide) (v := .int r4) rfl ?_
    refine go_castore (q := 82) (i := 4) dM_81 rfl Q3 (by decide) rfl (Nat.le_of_ble_eq_true rfl) (List.mem_cons_self ..) fun g4 J4 Q4 => ?_
    have Y4 := Y3.keep J4 (ninS nb nin0)
    have KK := ((((((Keep.refl h2 [b]).trans J0 (fun x hx => Or.inl hx)).trans J1 (fun x hx => Or.inl hx)).trans J2 (fun x hx => Or.inl hx)).trans J3 (fun x hx => Or.inl hx)).trans J4 (fun x hx => Or.inl hx))
    have ns : s1 ≠ b := Nat.ne_of_lt (Nat.lt_of_lt_of_le A1.lt (Nat.le_of_eq eb.symm))
    refine go_strInit1 (q := 85) (W := 1) dM_82 rfl (hw _ (List.mem_of_getElem? (i := 53) rfl)) hw O2 P5 (cs := [nar .char r0, nar .char r1, nar .char r2, nar .char r3, nar .char r4]) ((A1.ext E2).keep KK) (((D1 (Or.inr (hw _ (List.mem_of_getElem? (i := 4) rfl))) (ty := .array .byte) (by decide)).ext E2).keep KK (ninS ns nin0)) (((D1 (Or.inr (hw _ (List.mem_of_getElem? (i := 5) rfl))) (ty := .byte) (by decide)).ext E2).keep KK (ninS ns nin0)) Q4 (Nat.le_of_ble_eq_true rfl) (Nat.le_of_ble_eq_true rfl) (fun c hc => by simp only [List.mem_cons, List.not_mem_nil, or_false] at hc; rcases hc with rfl | rfl | rfl | rfl | rfl <;> (rw [nar_ch (by assumption)]; assumption)) (List.mem_cons_of_mem _ (List.mem_cons_self ..)) rfl (by decide) (Nat.le_of_ble_eq_true rfl) (by decide) (by decide) (Nat.le_of_ble_eq_true rfl) fun h4 K4 S4 => ?_
    have X : Ext h h4 := ext_keep (ext_keep (ext_tr E1 E2) KK (allS (by rw [eb]; exact E1.1) all0)) K4 (allS (Nat.le_of_eq es1.symm) all0)
    exact go_areturn (out := []) rfl rfl rfl rfl dM_85 ⟨rfl, s1, _, rfl, S4, X⟩ all0 (by decide) (Nat.le_of_ble_eq_true rfl)
  refine go_iloadN (q := 87) dM_86 rfl rfl ?_
  refine go_bipush (q := 89) (z := (6 : Int32)) dM_87 rfl rfl ?_
  refine go_icmp (q := 140) (q2 := 92) dM_89 (by decide) (by decide) rfl (fun _ => ?_) (fun _ => ?_)
  rotate_left
  · refine go_new (q := 95) dM_92 rfl (hw _ (List.mem_of_getElem? (i := 52) rfl)) (hw _ (List.mem_of_getElem? (i := 2) rfl)) (hw _ (List.mem_of_getElem? (i := 1) rfl)) (by decide) (by decide) fun h1 s1 es1 E1 A1 D1 => ?_
    refine go_dup (q := 96) dM_95 rfl rfl ?_
    refine go_bipush (q := 98) (z := (6 : Int32)) dM_96 rfl rfl ?_
    refine go_newarray (q := 100) (cap := 11) (ad := "[C") dM_98 rfl (hw _ (List.mem_of_getElem? (i := 22) rfl)) (by decide) (by decide) (by decide) (by decide) (by decide) rfl fun h2 b kC eb E2 R0 B2 => ?_
    have R1 : Arv Z h2 b kC .char (6 : Int32) [.int 0, .int 0, .int 0, .int 0, .int 0, .int 0] (.int 0) := R0.pad (pad_rep [] (.int 0) 6)
    have nb : y ≠ b := Nat.ne_of_lt (Nat.lt_of_lt_of_le (Nat.lt_of_lt_of_le K.lt E1.1) (Nat.le_of_eq eb.symm))
    have Y := (K.ext E1).ext E2
    refine go_dup (q := 101) dM_100 rfl rfl ?_
    refine go_iconst (q := 102) (z := (0 : Int32)) dM_101 rfl rfl ?_
    refine go_aloadN (q := 103) dM_102 rfl rfl rfl ?_
    refine go_iconst (q := 104) (z := (0 : Int32)) dM_103 rfl rfl ?_
    refine go_caload (q := 105) dM_104 rfl Y (by decide) (v := .int r0) rfl ?_
    refine go_castore (q := 106) (i := 0) dM_105 rfl R1 (by decide) rfl (Nat.le_of_ble_eq_true rfl) (List.mem_cons_self ..) fun g0 J0 Q0 => ?_
    have Y0 := Y.keep J0 (ninS nb nin0)
    refine go_dup (q := 107) dM_106 rfl rfl ?_
    refine go_iconst (q := 108) (z := (1 : Int32)) dM_107 rfl rfl ?_
    refine go_aloadN (q := 109) dM_108 rfl rfl rfl ?_
    refine go_iconst (q := 110) (z := (1 : Int32)) dM_109 rfl rfl ?_
    refine go_caload (q := 111) dM_110 rfl Y0 (by decide) (v := .int r1) rfl ?_
    refine go_castore (q := 112) (i := 1) dM_111 rfl Q0 (by decide) rfl (Nat.le_of_ble_eq_true rfl) (List.mem_cons_self ..) fun g1 J1 Q1 => ?_
    have Y1 := Y0.keep J1 (ninS nb nin0)
    refine go_dup (q := 113) dM_112 rfl rfl ?_
    refine go_iconst (q := 114) (z := (2 : Int32)) dM_113 rfl rfl ?_
    refine go_aloadN (q := 115) dM_114 rfl rfl rfl ?_
    refine go_iconst (q := 116) (z := (2 : Int32)) dM_115 rfl rfl ?_
    refine go_caload (q := 117) dM_116 rfl Y1 (by decide) (v := .int r2) rfl ?_
    refine go_castore (q := 118) (i := 2) dM_117 rfl Q1 (by decide) rfl (Nat.le_of_ble_eq_true rfl) (List.mem_cons_self ..) fun g2 J2 Q2 => ?_
    have Y2 := Y1.keep J2 (ninS nb nin0)
    refine go_dup (q := 119) dM_118 rfl rfl ?_
    refine go_iconst (q := 120) (z := (3 : Int32)) dM_119 rfl rfl ?_
    refine go_aloadN (q := 121) dM_120 rfl rfl rfl ?_
    refine go_iconst (q := 122) (z := (3 : Int32)) dM_121 rfl rfl ?_
    refine go_caload (q := 123) dM_122 rfl Y2 (by decide) (v := .int r3) rfl ?_
    refine go_castore (q := 124) (i := 3) dM_123 rfl Q2 (by decide) rfl (Nat.le_of_ble_eq_true rfl) (List.mem_cons_self ..) fun g3 J3 Q3 => ?_
    have Y3 := Y2.keep J3 (ninS nb nin0)
    refine go_dup (q := 125) dM_124 rfl rfl ?_
    refine go_iconst (q := 126) (z := (4 : Int32)) dM_125 rfl rfl ?_
    refine go_aloadN (q := 127) dM_126 rfl rfl rfl ?_
    refine go_iconst (q := 128) (z := (4 : Int32)) dM_127 rfl rfl ?_
    refine go_caload (q := 129) dM_128 rfl Y3 (by decide) (v := .int r4) rfl ?_
    refine go_castore (q := 130) (i := 4) dM_129 rfl Q3 (by decide) rfl (Nat.le_of_ble_eq_true rfl) (List.mem_cons_self ..) fun g4 J4 Q4 => ?_
    have Y4 := Y3.keep J4 (ninS nb nin0)
    refine go_dup (q := 131) dM_130 rfl rfl ?_
    refine go_iconst (q := 132) (z := (5 : Int32)) dM_131 rfl rfl ?_
    refine go_aloadN (q := 133) dM_132 rfl rfl rfl ?_
    refine go_iconst (q := 134) (z := (5 : Int32)) dM_133 rfl rfl ?_
    refine go_caload (q := 135) dM_134 rfl Y4 (by decide) (v := .int r5) rfl ?_
    refine go_castore (q := 136) (i := 5) dM_135 rfl Q4 (by decide) rfl (Nat.le_of_ble_eq_true rfl) (List.mem_cons_self ..) fun g5 J5 Q5 => ?_
    have Y5 := Y4.keep J5 (ninS nb nin0)
    have KK := (((((((Keep.refl h2 [b]).trans J0 (fun x hx => Or.inl hx)).trans J1 (fun x hx => Or.inl hx)).trans J2 (fun x hx => Or.inl hx)).trans J3 (fun x hx => Or.inl hx)).trans J4 (fun x hx => Or.inl hx)).trans J5 (fun x hx => Or.inl hx))
    have ns : s1 ≠ b := Nat.ne_of_lt (Nat.lt_of_lt_of_le A1.lt (Nat.le_of_eq eb.symm))
    refine go_strInit1 (q := 139) (W := 1) dM_136 rfl (hw _ (List.mem_of_getElem? (i := 53) rfl)) hw O2 P5 (cs := [nar .char r0, nar .char r1, nar .char r2, nar .char r3, nar .char r4, nar .char r5]) ((A1.ext E2).keep KK) (((D1 (Or.inr (hw _ (List.mem_of_getElem? (i := 4) rfl))) (ty := .array .byte) (by decide)).ext E2).keep KK (ninS ns nin0)) (((D1 (Or.inr (hw _ (List.mem_of_getElem? (i := 5) rfl))) (ty := .byte) (by decide)).ext E2).keep KK (ninS ns nin0)) Q5 (Nat.le_of_ble_eq_true rfl) (Nat.le_of_ble_eq_true rfl) (fun c hc => by simp only [List.mem_cons, List.not_mem_nil, or_false] at hc; rcases hc with rfl | rfl | rfl | rfl | rfl | rfl <;> (rw [nar_ch (by assumption)]; assumption)) (List.mem_cons_of_mem _ (List.mem_cons_self ..)) rfl (by decide) (Nat.le_of_ble_eq_true rfl) (by decide) (by decide) (Nat.le_of_ble_eq_true rfl) fun h4 K4 S4 => ?_
    have X : Ext h h4 := ext_keep (ext_keep (ext_tr E1 E2) KK (allS (by rw [eb]; exact E1.1) all0)) K4 (allS (Nat.le_of_eq es1.symm) all0)
    exact go_areturn (out := []) rfl rfl rfl rfl dM_139 ⟨rfl, s1, _, rfl, S4, X⟩ all0 (by decide) (Nat.le_of_ble_eq_true rfl)
  refine go_iloadN (q := 141) dM_140 rfl rfl ?_
  refine go_bipush (q := 143) (z := (7 : Int32)) dM_141 rfl rfl ?_
  refine go_icmp (q := 202) (q2 := 146) dM_143 (by decide) (by decide) rfl (fun _ => ?_) (fun _ => ?_)
  rotate_left
  · refine go_new (q := 149) dM_146 rfl (hw _ (List.mem_of_getElem? (i := 52) rfl)) (hw _ (List.mem_of_getElem? (i := 2) rfl)) (hw _ (List.mem_of_getElem? (i := 1) rfl)) (by decide) (by decide) fun h1 s1 es1 E1 A1 D1 => ?_
    refine go_dup (q := 150) dM_149 rfl rfl ?_
    refine go_bipush (q := 152) (z := (7 : Int32)) dM_150 rfl rfl ?_
    refine go_newarray (q := 154) (cap := 11) (ad := "[C") dM_152 rfl (hw _ (List.mem_of_getElem? (i := 22) rfl)) (by decide) (by decide) (by decide) (by decide) (by decide) rfl fun h2 b kC eb E2 R0 B2 => ?_
    have R1 : Arv Z h2 b kC .char (7 : Int32) [.int 0, .int 0, .int 0, .int 0, .int 0, .int 0, .int 0] (.int 0) := R0.pad (pad_rep [] (.int 0) 7)
    have nb : y ≠ b := Nat.ne_of_lt (Nat.lt_of_lt_of_le (Nat.lt_of_lt_of_le K.lt E1.1) (Nat.le_of_eq eb.symm))
    have Y := (K.ext E1).ext E2
    refine go_dup (q := 155) dM_154 rfl rfl ?_
    refine go_iconst (q := 156) (z := (0 : Int32)) dM_155 rfl rfl ?_
    refine go_aloadN (q := 157) dM_156 rfl rfl rfl ?_
    refine go_iconst (q := 158) (z := (0 : Int32)) dM_157 rfl rfl ?_
    refine go_caload (q := 159) dM_158 rfl Y (by decide) (v := .int r0) rfl ?_
    refine go_castore (q := 160) (i := 0) dM_159 rfl R1 (by decide) rfl (Nat.le_of_ble_eq_true rfl) (List.mem_cons_self ..) fun g0 J0 Q0 => ?_
    have Y0 := Y.keep J0 (ninS nb nin0)
    refine go_dup (q := 161) dM_160 rfl rfl ?_
    refine go_iconst (q := 162) (z := (1 : Int32)) dM_161 rfl rfl ?_
    refine go_aloadN (q := 163) dM_162 rfl rfl rfl ?_
    refine go_iconst (q := 164) (z := (1 : Int32)) dM_163 rfl rfl ?_
    refine go_caload (q := 165) dM_164 rfl Y0 (by decide) (v := .int r1) rfl ?_
    refine go_castore (q := 166) (i := 1) dM_165 rfl Q0 (by decide) rfl (Nat.le_of_ble_eq_true rfl) (List.mem_cons_self ..) fun g1 J1 Q1 => ?_
    have Y1 := Y0.keep J1 (ninS nb nin0)
    refine go_dup (q := 167) dM_166 rfl rfl ?_
    refine go_iconst (q := 168) (z := (2 : Int32)) dM_167 rfl rfl ?_
    refine go_aloadN (q := 169) dM_168 rfl rfl rfl ?_
    refine go_iconst (q := 170) (z := (2 : Int32)) dM_169 rfl rfl ?_
    refine go_caload (q := 171) dM_170 rfl Y1 (by decide) (v := .int r2) rfl ?_
    refine go_castore (q := 172) (i := 2) dM_171 rfl Q1 (by decide) rfl (Nat.le_of_ble_eq_true rfl) (List.mem_cons_self ..) fun g2 J2 Q2 => ?_
    have Y2 := Y1.keep J2 (ninS nb nin0)
    refine go_dup (q := 173) dM_172 rfl rfl ?_
    refine go_iconst (q := 174) (z := (3 : Int32)) dM_173 rfl rfl ?_
    refine go_aloadN (q := 175) dM_174 rfl rfl rfl ?_
    refine go_iconst (q := 176) (z := (3 : Int32)) dM_175 rfl rfl ?_
    refine go_caload (q := 177) dM_176 rfl Y2 (by decide) (v := .int r3) rfl ?_
    refine go_castore (q := 178) (i := 3) dM_177 rfl Q2 (by decide) rfl (Nat.le_of_ble_eq_true rfl) (List.mem_cons_self ..) fun g3 J3 Q3 => ?_
    have Y3 := Y2.keep J3 (ninS nb nin0)
    refine go_dup (q := 179) dM_178 rfl rfl ?_
    refine go_iconst (q := 180) (z := (4 : Int32)) dM_179 rfl rfl ?_
    refine go_aloadN (q := 181) dM_180 rfl rfl rfl ?_
    refine go_iconst (q := 182) (z := (4 : Int32)) dM_181 rfl rfl ?_
    refine go_caload (q := 183) dM_182 rfl Y3 (by decide) (v := .int r4) rfl ?_
    refine go_castore (q := 184) (i := 4) dM_183 rfl Q3 (by decide) rfl (Nat.le_of_ble_eq_true rfl) (List.mem_cons_self ..) fun g4 J4 Q4 => ?_
    have Y4 := Y3.keep J4 (ninS nb nin0)
    refine go_dup (q := 185) dM_184 rfl rfl ?_
    refine go_iconst (q := 186) (z := (5 : Int32)) dM_185 rfl rfl ?_
    refine go_aloadN (q := 187) dM_186 rfl rfl rfl ?_
    refine go_iconst (q := 188) (z := (5 : Int32)) dM_187 rfl rfl ?_
    refine go_caload (q := 189) dM_188 rfl Y4 (by decide) (v := .int r5) rfl ?_
    refine go_castore (q := 190) (i := 5) dM_189 rfl Q4 (by decide) rfl (Nat.le_of_ble_eq_true rfl) (List.mem_cons_self ..) fun g5 J5 Q5 => ?_
    have Y5 := Y4.keep J5 (ninS nb nin0)
    refine go_dup (q := 191) dM_190 rfl rfl ?_
    refine go_bipush (q := 193) (z := (6 : Int32)) dM_191 rfl rfl ?_
    refine go_aloadN (q := 194) dM_193 rfl rfl rfl ?_
    refine go_bipush (q := 196) (z := (6 : Int32)) dM_194 rfl rfl ?_
    refine go_caload (q := 197) dM_196 rfl Y5 (by decide) (v := .int r6) rfl ?_
    refine go_castore (q := 198) (i := 6) dM_197 rfl Q5 (by decide) rfl (Nat.le_of_ble_eq_true rfl) (List.mem_cons_self ..) fun g6 J6 Q6 => ?_
    have Y6 := Y5.keep J6 (ninS nb nin0)
    have KK := ((((((((Keep.refl h2 [b]).trans J0 (fun x hx => Or.inl hx)).trans J1 (fun x hx => Or.inl hx)).trans J2 (fun x hx => Or.inl hx)).trans J3 (fun x hx => Or.inl hx)).trans J4 (fun x hx => Or.inl hx)).trans J5 (fun x hx => Or.inl hx)).trans J6 (fun x hx => Or.inl hx))
    have ns : s1 ≠ b := Nat.ne_of_lt (Nat.lt_of_lt_of_le A1.lt (Nat.le_of_eq eb.symm))
    refine go_strInit1 (q := 201) (W := 1) dM_198 rfl (hw _ (List.mem_of_getElem? (i := 53) rfl)) hw O2 P5 (cs := [nar .char r0, nar .char r1, nar .char r2, nar .char r3, nar .char r4, nar .char r5, nar .char r6]) ((A1.ext E2).keep KK) (((D1 (Or.inr (hw _ (List.mem_of_getElem? (i := 4) rfl))) (ty := .array .byte) (by decide)).ext E2).keep KK (ninS ns nin0)) (((D1 (Or.inr (hw _ (List.mem_of_getElem? (i := 5) rfl))) (ty := .byte) (by decide)).ext E2).keep KK (ninS ns nin0)) Q6 (Nat.le_of_ble_eq_true rfl) (Nat.le_of_ble_eq_true rfl) (fun c hc => by simp only [List.mem_cons, List.not_mem_nil, or_false] at hc; rcases hc with rfl | rfl | rfl | rfl | rfl | rfl | rfl <;> (rw [nar_ch (by assumption)]; assumption)) (List.mem_cons_of_mem _ (List.mem_cons_self ..)) rfl (by decide) (Nat.le_of_ble_eq_true rfl) (by decide) (by decide) (Nat.le_of_ble_eq_true rfl) fun h4 K4 S4 => ?_
    have X : Ext h h4 := ext_keep (ext_keep (ext_tr E1 E2) KK (allS (by rw [eb]; exact E1.1) all0)) K4 (allS (Nat.le_of_eq es1.symm) all0)
    exact go_areturn (out := []) rfl rfl rfl rfl dM_201 ⟨rfl, s1, _, rfl, S4, X⟩ all0 (by decide) (Nat.le_of_ble_eq_true rfl)
  refine go_iloadN (q := 203) dM_202 rfl rfl ?_
  refine go_bipush (q := 205) (z := (9 : Int32)) dM_203 rfl rfl ?_
  refine go_icmp (q := 280) (q2 := 208) dM_205 (by decide) (by decide) rfl (fun _ => ?_) (fun _ => ?_)
  rotate_left
  · refine go_new (q := 211) dM_208 rfl (hw _ (List.mem_of_getElem? (i := 52) rfl)) (hw _ (List.mem_of_getElem? (i := 2) rfl)) (hw _ (List.mem_of_getElem? (i := 1) rfl)) (by decide) (by decide) fun h1 s1 es1 E1 A1 D1 => ?_
    refine go_dup (q := 212) dM_211 rfl rfl ?_
    refine go_bipush (q := 214) (z := (9 : Int32)) dM_212 rfl rfl ?_
    refine go_newarray (q := 216) (cap := 11) (ad := "[C") dM_214 rfl (hw _ (List.mem_of_getElem? (i := 22) rfl)) (by decide) (by decide) (by decide) (by decide) (by decide) rfl fun h2 b kC eb E2 R0 B2 => ?_
    have R1 : Arv Z h2 b kC .char (9 : Int32) [.int 0, .int 0, .int 0, .int 0, .int 0, .int 0, .int 0, .int 0, .int 0] (.int 0) := R0.pad (pad_rep [] (.int 0) 9)
    have nb : y ≠ b := Nat.ne_of_lt (Nat.lt_of_lt_of_le (Nat.lt_of_lt_of_le K.lt E1.1) (Nat.le_of_eq eb.symm))
    have Y := (K.ext E1).ext E2
    refine go_dup (q := 217) dM_216 rfl rfl ?_
    refine go_iconst (q := 218) (z := (0 : Int32)) dM_217 rfl rfl ?_
    refine go_aloadN (q := 219) dM_218 rfl rfl rfl ?_
    refine go_iconst (q := 220) (z := (0 : Int32)) dM_219 rfl rfl ?_
    refine go_caload (q := 221) dM_220 rfl Y (by decide) (v := .int r0) rfl ?_
    refine go_castore (q := 222) (i := 0) dM_221 rfl R1 (by decide) rfl (Nat.le_of_ble_eq_true rfl) (List.mem_cons_self ..) fun g0 J0 Q0 => ?_
    have Y0 := Y.keep J0 (ninS nb nin0)
    refine go_dup (q := 223) dM_222 rfl rfl ?_
    refine go_iconst (q := 224) (z := (1 : Int32)) dM_223 rfl rfl ?_
    refine go_aloadN (q := 225) dM_224 rfl rfl rfl ?_
    refine go_iconst (q := 226) (z := (1 : Int32)) dM_225 rfl rfl ?_
    refine go_caload (q := 227) dM_226 rfl Y0 (by decide) (v := .int r1) rfl ?_
    refine go_castore (q := 228) (i := 1) dM_227 rfl Q0 (by decide) rfl (Nat.le_of_ble_eq_true rfl) (List.mem_cons_self ..) fun g1 J1 Q1 => ?_
    have Y1 := Y0.keep J1 (ninS nb nin0)
    refine go_dup (q := 229) dM_228 rfl rfl ?_
    refine go_iconst (q := 230) (z := (2 : Int32)) dM_229 rfl rfl ?_
    refine go_aloadN (q := 231) dM_230 rfl rfl rfl ?_
    refine go_iconst (q := 232) (z := (2 : Int32)) dM_231 rfl rfl ?_
    refine go_caload (q := 233) dM_232 rfl Y1 (by decide) (v := .int r2) rfl ?_
    refine go_castore (q := 234) (i := 2) dM_233 rfl Q1 (by decide) rfl (Nat.le_of_ble_eq_true rfl) (List.mem_cons_self ..) fun g2 J2 Q2 => ?_
    have Y2 := Y1.keep J2 (ninS nb nin0)
    refine go_dup (q := 235) dM_234 rfl rfl ?_
    refine go_iconst (q := 236) (z := (3 : Int32)) dM_235 rfl rfl ?_
    refine go_aloadN (q := 237) dM_236 rfl rfl rfl ?_
    refine go_iconst (q := 238) (z := (3 : Int32)) dM_237 rfl rfl ?_
    refine go_caload (q := 239) dM_238 rfl Y2 (by decide) (v := .int r3) rfl ?_
    refine go_castore (q := 240) (i := 3) dM_239 rfl Q2 (by decide) rfl (Nat.le_of_ble_eq_true rfl) (List.mem_cons_self ..) fun g3 J3 Q3 => ?_
    have Y3 := Y2.keep J3 (ninS nb nin0)
    refine go_dup (q := 241) dM_240 rfl rfl ?_
    refine go_iconst (q := 242) (z := (4 : Int32)) dM_241 rfl rfl ?_
    refine go_aloadN (q := 243) dM_242 rfl rfl rfl ?_
    refine go_iconst (q := 244) (z := (4 : Int32)) dM_243 rfl rfl ?_
    refine go_caload (q := 245) dM_244 rfl Y3 (by decide) (v := .int r4) rfl ?_
    refine go_castore (q := 246) (i := 4) dM_245 rfl Q3 (by decide) rfl (Nat.le_of_ble_eq_true rfl) (List.mem_cons_self ..) fun g4 J4 Q4 => ?_
    have Y4 := Y3.keep J4 (ninS nb nin0)
    refine go_dup (q := 247) dM_246 rfl rfl ?_
    refine go_iconst (q := 248) (z := (5 : Int32)) dM_247 rfl rfl ?_
    refine go_aloadN (q := 249) dM_248 rfl rfl rfl ?_
    refine go_iconst (q := 250) (z := (5 : Int32)) dM_249 rfl rfl ?_
    refine go_caload (q := 251) dM_250 rfl Y4 (by decide) (v := .int r5) rfl ?_
    refine go_castore (q := 252) (i := 5) dM_251 rfl Q4 (by decide) rfl (Nat.le_of_ble_eq_true rfl) (List.mem_cons_self ..) fun g5 J5 Q5 => ?_
    have Y5 := Y4.keep J5 (ninS nb nin0)
    refine go_dup (q := 253) dM_252 rfl rfl ?_
    refine go_bipush (q := 255) (z := (6 : Int32)) dM_253 rfl rfl ?_
    refine go_aloadN (q := 256) dM_255 rfl rfl rfl ?_
    refine go_bipush (q := 258) (z := (6 : Int32)) dM_256 rfl rfl ?_
    refine go_caload (q := 259) dM_258 rfl Y5 (by decide) (v := .int r6) rfl ?_
    refine go_castore (q := 260) (i := 6) dM_259 rfl Q5 (by decide) rfl (Nat.le_of_ble_eq_true rfl) (List.mem_cons_self ..) fun g6 J6 Q6 => ?_
    have Y6 := Y5.keep J6 (ninS nb nin0)
    refine go_dup (q := 261) dM_260 rfl rfl ?_
    refine go_bipush (q := 263) (z := (7 : Int32)) dM_261 rfl rfl ?_
    refine go_aloadN (q := 264) dM_263 rfl rfl rfl ?_
    refine go_bipush (q := 266) (z := (7 : Int32)) dM_264 rfl rfl ?_
    refine go_caload (q := 267) dM_266 rfl Y6 (by decide) (v := .int r7) rfl ?_
    refine go_castore (q := 268) (i := 7) dM_267 rfl Q6 (by decide) rfl (Nat.le_of_ble_eq_true rfl) (List.mem_cons_self ..) fun g7 J7 Q7 => ?_
    have Y7 := Y6.keep J7 (ninS nb nin0)
    refine go_dup (q := 269) dM_268 rfl rfl ?_
    refine go_bipush (q := 271) (z := (8 : Int32)) dM_269 rfl rfl ?_
    refine go_aloadN (q := 272) dM_271 rfl rfl rfl ?_
    refine go_bipush (q := 274) (z := (8 : Int32)) dM_272 rfl rfl ?_
    refine go_caload (q := 275) dM_274 rfl Y7 (by decide) (v := .int r8) rfl ?_
    refine go_castore (q := 276) (i := 8) dM_275 rfl Q7 (by decide) rfl (Nat.le_of_ble_eq_true rfl) (List.mem_cons_self ..) fun g8 J8 Q8 => ?_
    have Y8 := Y7.keep J8 (ninS nb nin0)
    have KK := ((((((((((Keep.refl h2 [b]).trans J0 (fun x hx => Or.inl hx)).trans J1 (fun x hx => Or.inl hx)).trans J2 (fun x hx => Or.inl hx)).trans J3 (fun x hx => Or.inl hx)).trans J4 (fun x hx => Or.inl hx)).trans J5 (fun x hx => Or.inl hx)).trans J6 (fun x hx => Or.inl hx)).trans J7 (fun x hx => Or.inl hx)).trans J8 (fun x hx => Or.inl hx))
    have ns : s1 ≠ b := Nat.ne_of_lt (Nat.lt_of_lt_of_le A1.lt (Nat.le_of_eq eb.symm))
    refine go_strInit1 (q := 279) (W := 1) dM_276 rfl (hw _ (List.mem_of_getElem? (i := 53) rfl)) hw O2 P5 (cs := [nar .char r0, nar .char r1, nar .char r2, nar .char r3, nar .char r4, nar .char r5, nar .char r6, nar .char r7, nar .char r8]) ((A1.ext E2).keep KK) (((D1 (Or.inr (hw _ (List.mem_of_getElem? (i := 4) rfl))) (ty := .array .byte) (by decide)).ext E2).keep KK (ninS ns nin0)) (((D1 (Or.inr (hw _ (List.mem_of_getElem? (i := 5) rfl))) (ty := .byte) (by decide)).ext E2).keep KK (ninS ns nin0)) Q8 (Nat.le_of_ble_eq_true rfl) (Nat.le_of_ble_eq_true rfl) (fun c hc => by simp only [List.mem_cons, List.not_mem_nil, or_false] at hc; rcases hc with rfl | rfl | rfl | rfl | rfl | rfl | rfl | rfl | rfl <;> (rw [nar_ch (by assumption)]; assumption)) (List.mem_cons_of_mem _ (List.mem_cons_self ..)) rfl (by decide) (Nat.le_of_ble_eq_true rfl) (by decide) (by decide) (Nat.le_of_ble_eq_true rfl) fun h4 K4 S4 => ?_
    have X : Ext h h4 := ext_keep (ext_keep (ext_tr E1 E2) KK (allS (by rw [eb]; exact E1.1) all0)) K4 (allS (Nat.le_of_eq es1.symm) all0)
    exact go_areturn (out := []) rfl rfl rfl rfl dM_279 ⟨rfl, s1, _, rfl, S4, X⟩ all0 (by decide) (Nat.le_of_ble_eq_true rfl)
  refine go_iloadN (q := 281) dM_280 rfl rfl ?_
  refine go_bipush (q := 283) (z := (10 : Int32)) dM_281 rfl rfl ?_
  refine go_icmp (q := 366) (q2 := 286) dM_283 (by decide) (by decide) rfl (fun _ => ?_) (fun _ => ?_)
  rotate_left
  · refine go_new (q := 289) dM_286 rfl (hw _ (List.mem_of_getElem? (i := 52) rfl)) (hw _ (List.mem_of_getElem? (i := 2) rfl)) (hw _ (List.mem_of_getElem? (i := 1) rfl)) (by decide) (by decide) fun h1 s1 es1 E1 A1 D1 => ?_
    refine go_dup (q := 290) dM_289 rfl rfl ?_
    refine go_bipush (q := 292) (z := (10 : Int32)) dM_290 rfl rfl ?_
    refine go_newarray (q := 294) (cap := 11) (ad := "[C") dM_292 rfl (hw _ (List.mem_of_getElem? (i := 22) rfl)) (by decide) (by decide) (by decide) (by decide) (by decide) rfl fun h2 b kC eb E2 R0 B2 => ?_
    have R1 : Arv Z h2 b kC .char (10 : Int32) [.int 0, .int 0, .int 0, .int 0, .int 0, .int 0, .int 0, .int 0, .int 0, .int 0] (.int 0) := R0.pad (pad_rep [] (.int 0) 10)
    have nb : y ≠ b := Nat.ne_of_lt (Nat.lt_of_lt_of_le (Nat.lt_of_lt_of_le K.lt E1.1) (Nat.le_of_eq eb.symm))
    have Y := (K.ext E1).ext E2
    refine go_dup (q := 295) dM_294 rfl rfl ?_
    refine go_iconst (q := 296) (z := (0 : Int32)) dM_295 rfl rfl ?_
    refine go_aloadN (q := 297) dM_296 rfl rfl rfl ?_
    refine go_iconst (q := 298) (z := (0 : Int32)) dM_297 rfl rfl ?_
    refine go_caload (q := 299) dM_298 rfl Y (by decide) (v := .int r0) rfl ?_
    refine go_castore (q := 300) (i := 0) dM_299 rfl R1 (by decide) rfl (Nat.le_of_ble_eq_true rfl) (List.mem_cons_self ..) fun g0 J0 Q0 => ?_
    have Y0 := Y.keep J0 (ninS nb nin0)
    refine go_dup (q := 301) dM_300 rfl rfl ?_
    refine go_iconst (q := 302) (z := (1 : Int32)) dM_301 rfl rfl ?_
    refine go_aloadN (q := 303) dM_302 rfl rfl rfl ?_
    refine go_iconst (q := 304) (z := (1 : Int32)) dM_303 rfl rfl ?_
    refine go_caload (q := 305) dM_304 rfl Y0 (by decide) (v := .int r1) rfl ?_
    refine go_castore (q := 306) (i := 1) dM_305 rfl Q0 (by decide) rfl (Nat.le_of_ble_eq_true rfl) (List.mem_cons_self ..) fun g1 J1 Q1 => ?_
    have Y1 := Y0.keep J1 (ninS nb nin0)
    refine go_dup (q := 307) dM_306 rfl rfl ?_
    refine go_iconst (q := 308) (z := (2 : Int32)) dM_307 rfl rfl ?_
    refine go_aloadN (q := 309) dM_308 rfl rfl rfl ?_
    refine go_iconst (q := 310) (z := (2 : Int32)) dM_309 rfl rfl ?_
    refine go_caload (q := 311) dM_310 rfl Y1 (by decide) (v := .int r2) rfl ?_
    refine go_castore (q := 312) (i := 2) dM_311 rfl Q1 (by decide) rfl (Nat.le_of_ble_eq_true rfl) (List.mem_cons_self ..) fun g2 J2 Q2 => ?_
    have Y2 := Y1.keep J2 (ninS nb nin0)
    refine go_dup (q := 313) dM_312 rfl rfl ?_
    refine go_iconst (q := 314) (z := (3 : Int32)) dM_313 rfl rfl ?_
    refine go_aloadN (q := 315) dM_314 rfl rfl rfl ?_
    refine go_iconst (q := 316) (z := (3 : Int32)) dM_315 rfl rfl ?_
    refine go_caload (q := 317) dM_316 rfl Y2 (by decide) (v := .int r3) rfl ?_
    refine go_castore (q := 318) (i := 3) dM_317 rfl Q2 (by decide) rfl (Nat.le_of_ble_eq_true rfl) (List.mem_cons_self ..) fun g3 J3 Q3 => ?_
    have Y3 := Y2.keep J3 (ninS nb nin0)
    refine go_dup (q := 319) dM_318 rfl rfl ?_
    refine go_iconst (q := 320) (z := (4 : Int32)) dM_319 rfl rfl ?_
    refine go_aloadN (q := 321) dM_320 rfl rfl rfl ?_
    refine go_iconst (q := 322) (z := (4 : Int32)) dM_321 rfl rfl ?_
    refine go_caload (q := 323) dM_322 rfl Y3 (by decide) (v := .int r4) rfl ?_
    refine go_castore (q := 324) (i := 4) dM_323 rfl Q3 (by decide) rfl (Nat.le_of_ble_eq_true rfl) (List.mem_cons_self ..) fun g4 J4 Q4 => ?_
    have Y4 := Y3.keep J4 (ninS nb nin0)
    refine go_dup (q := 325) dM_324 rfl rfl ?_
    refine go_iconst (q := 326) (z := (5 : Int32)) dM_325 rfl rfl ?_
    refine go_aloadN (q := 327) dM_326 rfl rfl rfl ?_
    refine go_iconst (q := 328) (z := (5 : Int32)) dM_327 rfl rfl ?_
    refine go_caload (q := 329) dM_328 rfl Y4 (by decide) (v := .int r5) rfl ?_
    refine go_castore (q := 330) (i := 5) dM_329 rfl Q4 (by decide) rfl (Nat.le_of_ble_eq_true rfl) (List.mem_cons_self ..) fun g5 J5 Q5 => ?_
    have Y5 := Y4.keep J5 (ninS nb nin0)
    refine go_dup (q := 331) dM_330 rfl rfl ?_
    refine go_bipush (q := 333) (z := (6 : Int32)) dM_331 rfl rfl ?_
    refine go_aloadN (q := 334) dM_333 rfl rfl rfl ?_
    refine go_bipush (q := 336) (z := (6 : Int32)) dM_334 rfl rfl ?_
    refine go_caload (q := 337) dM_336 rfl Y5 (by decide) (v := .int r6) rfl ?_
    refine go_castore (q := 338) (i := 6) dM_337 rfl Q5 (by decide) rfl (Nat.le_of_ble_eq_true rfl) (List.mem_cons_self ..) fun g6 J6 Q6 => ?_
    have Y6 := Y5.keep J6 (ninS nb nin0)
    refine go_dup (q := 339) dM_338 rfl rfl ?_
    refine go_bipush (q := 341) (z := (7 : Int32)) dM_339 rfl rfl ?_
    refine go_aloadN (q := 342) dM_341 rfl rfl rfl ?_
    refine go_bipush (q := 344) (z := (7 : Int32)) dM_342 rfl rfl ?_
    refine go_caload (q := 345) dM_344 rfl Y6 (by decide) (v := .int r7) rfl ?_
    refine go_castore (q := 346) (i := 7) dM_345 rfl Q6 (by decide) rfl (Nat.le_of_ble_eq_true rfl) (List.mem_cons_self ..) fun g7 J7 Q7 => ?_
    have Y7 := Y6.keep J7 (ninS nb nin0)
    refine go_dup (q := 347) dM_346 rfl rfl ?_
    refine go_bipush (q := 349) (z := (8 : Int32)) dM_347 rfl rfl ?_
    refine go_aloadN (q := 350) dM_349 rfl rfl rfl ?_
    refine go_bipush (q := 352) (z := (8 : Int32)) dM_350 rfl rfl ?_
    refine go_caload (q := 353) dM_352 rfl Y7 (by decide) (v := .int r8) rfl ?_
    refine go_castore (q := 354) (i := 8) dM_353 rfl Q7 (by decide) rfl (Nat.le_of_ble_eq_true rfl) (List.mem_cons_self ..) fun g8 J8 Q8 => ?_
    have Y8 := Y7.keep J8 (ninS nb nin0)
    refine go_dup (q := 355) dM_354 rfl rfl ?_
    refine go_bipush (q := 357) (z := (9 : Int32)) dM_355 rfl rfl ?_
    refine go_aloadN (q := 358) dM_357 rfl rfl rfl ?_
    refine go_bipush (q := 360) (z := (9 : Int32)) dM_358 rfl rfl ?_
    refine go_caload (q := 361) dM_360 rfl Y8 (by decide) (v := .int r9) rfl ?_
    refine go_castore (q := 362) (i := 9) dM_361 rfl Q8 (by decide) rfl (Nat.le_of_ble_eq_true rfl) (List.mem_cons_self ..) fun g9 J9 Q9 => ?_
    have Y9 := Y8.keep J9 (ninS nb nin0)
    have KK := (((((((((((Keep.refl h2 [b]).trans J0 (fun x hx => Or.inl hx)).trans J1 (fun x hx => Or.inl hx)).trans J2 (fun x hx => Or.inl hx)).trans J3 (fun x hx => Or.inl hx)).trans J4 (fun x hx => Or.inl hx)).trans J5 (fun x hx => Or.inl hx)).trans J6 (fun x hx => Or.inl hx)).trans J7 (fun x hx => Or.inl hx)).trans J8 (fun x hx => Or.inl hx)).trans J9 (fun x hx => Or.inl hx))
    have ns : s1 ≠ b := Nat.ne_of_lt (Nat.lt_of_lt_of_le A1.lt (Nat.le_of_eq eb.symm))
    refine go_strInit1 (q := 365) (W := 1) dM_362 rfl (hw _ (List.mem_of_getElem? (i := 53) rfl)) hw O2 P5 (cs := [nar .char r0, nar .char r1, nar .char r2, nar .char r3, nar .char r4, nar .char r5, nar .char r6, nar .char r7, nar .char r8, nar .char r9]) ((A1.ext E2).keep KK) (((D1 (Or.inr (hw _ (List.mem_of_getElem? (i := 4) rfl))) (ty := .array .byte) (by decide)).ext E2).keep KK (ninS ns nin0)) (((D1 (Or.inr (hw _ (List.mem_of_getElem? (i := 5) rfl))) (ty := .byte) (by decide)).ext E2).keep KK (ninS ns nin0)) Q9 (Nat.le_of_ble_eq_true rfl) (Nat.le_of_ble_eq_true rfl) (fun c hc => by simp only [List.mem_cons, List.not_mem_nil, or_false] at hc; rcases hc with rfl | rfl | rfl | rfl | rfl | rfl | rfl | rfl | rfl | rfl <;> (rw [nar_ch (by assumption)]; assumption)) (List.mem_cons_of_mem _ (List.mem_cons_self ..)) rfl (by decide) (Nat.le_of_ble_eq_true rfl) (by decide) (by decide) (Nat.le_of_ble_eq_true rfl) fun h4 K4 S4 => ?_
    have X : Ext h h4 := ext_keep (ext_keep (ext_tr E1 E2) KK (allS (by rw [eb]; exact E1.1) all0)) K4 (allS (Nat.le_of_eq es1.symm) all0)
    exact go_areturn (out := []) rfl rfl rfl rfl dM_365 ⟨rfl, s1, _, rfl, S4, X⟩ all0 (by decide) (Nat.le_of_ble_eq_true rfl)
  refine go_new (q := 369) dM_366 rfl (hw _ (List.mem_of_getElem? (i := 52) rfl)) (hw _ (List.mem_of_getElem? (i := 2) rfl)) (hw _ (List.mem_of_getElem? (i := 1) rfl)) (by decide) (by decide) fun h1 s1 es1 E1 A1 D1 => ?_
  refine go_dup (q := 370) dM_369 rfl rfl ?_
  refine go_bipush (q := 372) (z := (11 : Int32)) dM_370 rfl rfl ?_
  refine go_newarray (q := 374) (cap := 11) (ad := "[C") dM_372 rfl (hw _ (List.mem_of_getElem? (i := 22) rfl)) (by decide) (by decide) (by decide) (by decide) (by decide) rfl fun h2 b kC eb E2 R0 B2 => ?_
  have R1 : Arv Z h2 b kC .char (11 : Int32) [.int 0, .int 0, .int 0, .int 0, .int 0, .int 0, .int 0, .int 0, .int 0, .int 0, .int 0] (.int 0) := R0.pad (pad_rep [] (.int 0) 11)
  have nb : y ≠ b := Nat.ne_of_lt (Nat.lt_of_lt_of_le (Nat.lt_of_lt_of_le K.lt E1.1) (Nat.le_of_eq eb.symm))
  have Y := (K.ext E1).ext E2
  refine go_dup (q := 375) dM_374 rfl rfl ?_
  refine go_iconst (q := 376) (z := (0 : Int32)) dM_375 rfl rfl ?_
  refine go_aloadN (q := 377) dM_376 rfl rfl rfl ?_
  refine go_iconst (q := 378) (z := (0 : Int32)) dM_377 rfl rfl ?_
  refine go_caload (q := 379) dM_378 rfl Y (by decide) (v := .int r0) rfl ?_
  refine go_castore (q := 380) (i := 0) dM_379 rfl R1 (by decide) rfl (Nat.le_of_ble_eq_true rfl) (List.mem_cons_self ..) fun g0 J0 Q0 => ?_
  have Y0 := Y.keep J0 (ninS nb nin0)
  refine go_dup (q := 381) dM_380 rfl rfl ?_
  refine go_iconst (q := 382) (z := (1 : Int32)) dM_381 rfl rfl ?_
  refine go_aloadN (q := 383) dM_382 rfl rfl rfl ?_
  refine go_iconst (q := 384) (z := (1 : Int32)) dM_383 rfl rfl ?_
  refine go_caload (q := 385) dM_384 rfl Y0 (by decide) (v := .int r1) rfl ?_
  refine go_castore (q := 386) (i := 1) dM_385 rfl Q0 (by decide) rfl (Nat.le_of_ble_eq_true rfl) (List.mem_cons_self ..) fun g1 J1 Q1 => ?_
  have Y1 := Y0.keep J1 (ninS nb nin0)
  refine go_dup (q := 387) dM_386 rfl rfl ?_
  refine go_iconst (q := 388) (z := (2 : Int32)) dM_387 rfl rfl ?_
  refine go_aloadN (q := 389) dM_388 rfl rfl rfl ?_
  refine go_iconst (q := 390) (z := (2 : Int32)) dM_389 rfl rfl ?_
  refine go_caload (q := 391) dM_390 rfl Y1 (by decide) (v := .int r2) rfl ?_
  refine go_castore (q := 392) (i := 2) dM_391 rfl Q1 (by decide) rfl (Nat.le_of_ble_eq_true rfl) (List.mem_cons_self ..) fun g2 J2 Q2 => ?_
  have Y2 := Y1.keep J2 (ninS nb nin0)
  refine go_dup (q := 393) dM_392 rfl rfl ?_
  refine go_iconst (q := 394) (z := (3 : Int32)) dM_393 rfl rfl ?_
  refine go_aloadN (q := 395) dM_394 rfl rfl rfl ?_
  refine go_iconst (q := 396) (z := (3 : Int32)) dM_395 rfl rfl ?_
  refine go_caload (q := 397) dM_396 rfl Y2 (by decide) (v := .int r3) rfl ?_
  refine go_castore (q := 398) (i := 3) dM_397 rfl Q2 (by decide) rfl (Nat.le_of_ble_eq_true rfl) (List.mem_cons_self ..) fun g3 J3 Q3 => ?_
  have Y3 := Y2.keep J3 (ninS nb nin0)
  refine go_dup (q := 399) dM_398 rfl rfl ?_
  refine go_iconst (q := 400) (z := (4 : Int32)) dM_399 rfl rfl ?_
  refine go_aloadN (q := 401) dM_400 rfl rfl rfl ?_
  refine go_iconst (q := 402) (z := (4 : Int32)) dM_401 rfl rfl ?_
  refine go_caload (q := 403) dM_402 rfl Y3 (by decide) (v := .int r4) rfl ?_
  refine go_castore (q := 404) (i := 4) dM_403 rfl Q3 (by decide) rfl (Nat.le_of_ble_eq_true rfl) (List.mem_cons_self ..) fun g4 J4 Q4 => ?_
  have Y4 := Y3.keep J4 (ninS nb nin0)
  refine go_dup (q := 405) dM_404 rfl rfl ?_
  refine go_iconst (q := 406) (z := (5 : Int32)) dM_405 rfl rfl ?_
  refine go_aloadN (q := 407) dM_406 rfl rfl rfl ?_
  refine go_iconst (q := 408) (z := (5 : Int32)) dM_407 rfl rfl ?_
  refine go_caload (q := 409) dM_408 rfl Y4 (by decide) (v := .int r5) rfl ?_
  refine go_castore (q := 410) (i := 5) dM_409 rfl Q4 (by decide) rfl (Nat.le_of_ble_eq_true rfl) (List.mem_cons_self ..) fun g5 J5 Q5 => ?_
  have Y5 := Y4.keep J5 (ninS nb nin0)
  refine go_dup (q := 411) dM_410 rfl rfl ?_
  refine go_bipush (q := 413) (z := (6 : Int32)) dM_411 rfl rfl ?_
  refine go_aloadN (q := 414) dM_413 rfl rfl rfl ?_
  refine go_bipush (q := 416) (z := (6 : Int32)) dM_414 rfl rfl ?_
  refine go_caload (q := 417) dM_416 rfl Y5 (by decide) (v := .int r6) rfl ?_
  refine go_castore (q := 418) (i := 6) dM_417 rfl Q5 (by decide) rfl (Nat.le_of_ble_eq_true rfl) (List.mem_cons_self ..) fun g6 J6 Q6 => ?_
  have Y6 := Y5.keep J6 (ninS nb nin0)
  refine go_dup (q := 419) dM_418 rfl rfl ?_
  refine go_bipush (q := 421) (z := (7 : Int32)) dM_419 rfl rfl ?_
  refine go_aloadN (q := 422) dM_421 rfl rfl rfl ?_
  refine go_bipush (q := 424) (z := (7 : Int32)) dM_422 rfl rfl ?_
  refine go_caload (q := 425) dM_424 rfl Y6 (by decide) (v := .int r7) rfl ?_
  refine go_castore (q := 426) (i := 7) dM_425 rfl Q6 (by decide) rfl (Nat.le_of_ble_eq_true rfl) (List.mem_cons_self ..) fun g7 J7 Q7 => ?_
  have Y7 := Y6.keep J7 (ninS nb nin0)
  refine go_dup (q := 427) dM_426 rfl rfl ?_
  refine go_bipush (q := 429) (z := (8 : Int32)) dM_427 rfl rfl ?_
  refine go_aloadN (q := 430) dM_429 rfl rfl rfl ?_
  refine go_bipush (q := 432) (z := (8 : Int32)) dM_430 rfl rfl ?_
  refine go_caload (q := 433) dM_432 rfl Y7 (by decide) (v := .int r8) rfl ?_
  refine go_castore (q := 434) (i := 8) dM_433 rfl Q7 (by decide) rfl (Nat.le_of_ble_eq_true rfl) (List.mem_cons_self ..) fun g8 J8 Q8 => ?_
  have Y8 := Y7.keep J8 (ninS nb nin0)
  refine go_dup (q := 435) dM_434 rfl rfl ?_
  refine go_bipush (q := 437) (z := (9 : Int32)) dM_435 rfl rfl ?_
  refine go_aloadN (q := 438) dM_437 rfl rfl rfl ?_
  refine go_bipush (q := 440) (z := (9 : Int32)) dM_438 rfl rfl ?_
  refine go_caload (q := 441) dM_440 rfl Y8 (by decide) (v := .int r9) rfl ?_
  refine go_castore (q := 442) (i := 9) dM_441 rfl Q8 (by decide) rfl (Nat.le_of_ble_eq_true rfl) (List.mem_cons_self ..) fun g9 J9 Q9 => ?_
  have Y9 := Y8.keep J9 (ninS nb nin0)
  refine go_dup (q := 443) dM_442 rfl rfl ?_
  refine go_bipush (q := 445) (z := (10 : Int32)) dM_443 rfl rfl ?_
  refine go_aloadN (q := 446) dM_445 rfl rfl rfl ?_
  refine go_bipush (q := 448) (z := (10 : Int32)) dM_446 rfl rfl ?_
  refine go_caload (q := 449) dM_448 rfl Y9 (by decide) (v := .int r10) rfl ?_
  refine go_castore (q := 450) (i := 10) dM_449 rfl Q9 (by decide) rfl (Nat.le_of_ble_eq_true rfl) (List.mem_cons_self ..) fun g10 J10 Q10 => ?_
  have Y10 := Y9.keep J10 (ninS nb nin0)
  have KK := ((((((((((((Keep.refl h2 [b]).trans J0 (fun x hx => Or.inl hx)).trans J1 (fun x hx => Or.inl hx)).trans J2 (fun x hx => Or.inl hx)).trans J3 (fun x hx => Or.inl hx)).trans J4 (fun x hx => Or.inl hx)).trans J5 (fun x hx => Or.inl hx)).trans J6 (fun x hx => Or.inl hx)).trans J7 (fun x hx => Or.inl hx)).trans J8 (fun x hx => Or.inl hx)).trans J9 (fun x hx => Or.inl hx)).trans J10 (fun x hx => Or.inl hx))
  have ns : s1 ≠ b := Nat.ne_of_lt (Nat.lt_of_lt_of_le A1.lt (Nat.le_of_eq eb.symm))
  refine go_strInit1 (q := 453) (W := 1) dM_450 rfl (hw _ (List.mem_of_getElem? (i := 53) rfl)) hw O2 P5 (cs := [nar .char r0, nar .char r1, nar .char r2, nar .char r3, nar .char r4, nar .char r5, nar .char r6, nar .char r7, nar .char r8, nar .char r9, nar .char r10]) ((A1.ext E2).keep KK) (((D1 (Or.inr (hw _ (List.mem_of_getElem? (i := 4) rfl))) (ty := .array .byte) (by decide)).ext E2).keep KK (ninS ns nin0)) (((D1 (Or.inr (hw _ (List.mem_of_getElem? (i := 5) rfl))) (ty := .byte) (by decide)).ext E2).keep KK (ninS ns nin0)) Q10 (Nat.le_of_ble_eq_true rfl) (Nat.le_of_ble_eq_true rfl) (fun c hc => by simp only [List.mem_cons, List.not_mem_nil, or_false] at hc; rcases hc with rfl | rfl | rfl | rfl | rfl | rfl | rfl | rfl | rfl | rfl | rfl <;> (rw [nar_ch (by assumption)]; assumption)) (List.mem_cons_of_mem _ (List.mem_cons_self ..)) rfl (by decide) (Nat.le_of_ble_eq_true rfl) (by decide) (by decide) (Nat.le_of_ble_eq_true rfl) fun h4 K4 S4 => ?_
  have X : Ext h h4 := ext_keep (ext_keep (ext_tr E1 E2) KK (allS (by rw [eb]; exact E1.1) all0)) K4 (allS (Nat.le_of_eq es1.symm) all0)
  exact go_areturn (out := []) rfl rfl rfl rfl dM_453 ⟨rfl, s1, _, rfl, S4, X⟩ all0 (by decide) (Nat.le_of_ble_eq_true rfl)
set_option maxRecDepth 65536 in
set_option maxHeartbeats 4000000 in
theorem own_316N {l : Launch} {Z : State} {a0 : Array Value} {G1 : Int32} {G3 : Value} {va c0 c1 c2 s0 s1 s2 : Addr} {kV : ClassId} (hw : ∀ d ∈ tables_1, d.before a0 Z = true) (hEL : EW Z a0 consts_1) (O2 : Sta Z Z.heap "java/lang/String" "COMPACT_STRINGS" "Z" (.int G1)) (P5 : ¬ G1 = (0 : Int32)) (O4 : Sta Z Z.heap "jdk/internal/util/Preconditions" "SIOOBE_FORMATTER" "Ljava/util/function/BiFunction;" G3) (rG3 : G3.isRef = true) (K0 : Sta Z Z.heap "com/example/tallymark/tallymark/Scoring" "PROPORTION" "Lcom/example/tallymark/tallymark/Scoring;" (.ref c0)) (K1 : Sta Z Z.heap "com/example/tallymark/tallymark/Scoring" "COHORT" "Lcom/example/tallymark/tallymark/Scoring;" (.ref c1)) (K2 : Sta Z Z.heap "com/example/tallymark/tallymark/Scoring" "RATIO" "Lcom/example/tallymark/tallymark/Scoring;" (.ref c2)) (KV : Sta Z Z.heap "com/example/tallymark/tallymark/Scoring" "$VALUES" "[Lcom/example/tallymark/tallymark/Scoring;" (.ref va)) (AV : Arv Z Z.heap va kV (.object "com/example/tallymark/tallymark/Scoring") 3 [.ref c0, .ref c1, .ref c2] .null) (EV : Exa Z Z.heap va "[Lcom/example/tallymark/tallymark/Scoring;") (F0 : Fld Z Z.heap c0 "com/example/tallymark/tallymark/Scoring" "code" "Ljava/lang/String;" (.ref s0)) (F1 : Fld Z Z.heap c1 "com/example/tallymark/tallymark/Scoring" "code" "Ljava/lang/String;" (.ref s1)) (F2 : Fld Z Z.heap c2 "com/example/tallymark/tallymark/Scoring" "code" "Ljava/lang/String;" (.ref s2)) (S0 : OStr Z Z.heap s0 tx0) (S1 : OStr Z Z.heap s1 tx1) (S2 : OStr Z Z.heap s2 tx2) (p0 p1 p2 p3 b d : Int32) {h : Heap} {mine : List Addr}  : Go l true Z consts_1 x.cls x.name code maxLocals ret room_1 (fun v _ _ => v = some (.int 1)) h mine 0 0 316 #[.val (.int p0), .val (.int p1), .val (.int p2), .val (.int p3), .val (.int b), .val (.int d), .val (.null), .unset, .unset, .unset, .unset, .unset, .unset] [] := by
  refine go_aload (q := 318) at_316 rfl rfl rfl ?_
  refine go_old fun E0 => ?_
  refine go_callS (q := 321) (y := (⟨"com/example/tallymark/tallymark/Scoring", "of", "(Ljava/lang/String;)Lcom/example/tallymark/tallymark/Scoring;"⟩ : MethodName)) (W := 0) (argsL := [.null]) (rest := []) (ws := []) (P := fun v h' L => ∃ out, (v = some .null ∧ out = [] ∧ Ext h h') ∧ Fr Z.heap.size L ∧ Ext Z.heap h' ∧ ∀ x ∈ out, Z.heap.size ≤ x ∧ x < h'.size) at_318 rfl (hw _ (List.mem_of_getElem? (i := 73) rfl)) (hw _ (List.mem_of_getElem? (i := 74) rfl)) (hw _ (List.mem_of_getElem? (i := 75) rfl)) (hw _ (List.mem_of_getElem? (i := 76) rfl)) (by decide) (con_pay (conON hw O2 P5 E0 KV AV EV F0 F1 F2 S0 S1 S2) all0 (hw _ (List.mem_of_getElem? (i := 76) rfl)) (hw _ (List.mem_of_getElem? (i := 75) rfl)) (by decide) (by decide)) rfl rfl (lenOf pd_O rfl) (Nat.le_refl _) (by decide) (by decide) (fun v h' L hP => ?_) all0 (fun v h1 L hP => ?_)
  · obtain ⟨out, ⟨-, -, E⟩, N, -⟩ := hP; exact ⟨N, keep_ext E _⟩
  obtain ⟨out, ⟨rfl, -, E1⟩, -, X1, -⟩ := hP
  refine ⟨[], all0, ?_⟩
  show Go l true Z consts_1 x.cls x.name code maxLocals ret room_1 (fun v _ _ => v = some (.int 1)) h1 _ _ _ 321 #[.val (.int p0), .val (.int p1), .val (.int p2), .val (.int p3), .val (.int b), .val (.int d), .val (.null), .unset, .unset, .unset, .unset, .unset, .unset] [(.null)]
  refine go_astore (q := 323) (l' := #[.val (.int p0), .val (.int p1), .val (.int p2), .val (.int p3), .val (.int b), .val (.int d), .val (.null), .val (.null), .unset, .unset, .unset, .unset, .unset]) at_321 rfl rfl rfl ?_
  refine go_aload (q := 325) at_323 rfl rfl rfl ?_
  refine go_callSW (q := 328) (y := (⟨"com/example/tallymark/tallymark/ScoringOfPinLaw", "expected", "(Ljava/lang/String;)Lcom/example/tallymark/tallymark/Scoring;"⟩ : MethodName)) (W := 0) (argsL := [.null]) (rest := []) at_325 rfl rfl (hw _ (List.mem_of_getElem? (i := 105) rfl)) (hw _ (List.mem_of_getElem? (i := 106) rfl)) (hw _ (List.mem_of_getElem? (i := 25) rfl)) (hw _ (List.mem_of_getElem? (i := 107) rfl)) (by decide) (conXN X1 hEL) (fun _ z => nomatch z) rfl rfl (lenOf pd_X rfl) (Nat.le_refl _) (by decide) (by decide) (by decide) (by decide) fun v h2 out hQ hsz => ?_
  obtain ⟨rfl, rfl⟩ := hQ
  show Go l true Z consts_1 x.cls x.name code maxLocals ret room_1 (fun v _ _ => v = some (.int 1)) h2 _ _ _ 328 #[.val (.int p0), .val (.int p1), .val (.int p2), .val (.int p3), .val (.int b), .val (.int d), .val (.null), .val (.null), .unset, .unset, .unset, .unset, .unset] [(.null)]
  refine go_astore (q := 330) (l' := #[.val (.int p0), .val (.int p1), .val (.int p2), .val (.int p3), .val (.int b), .val (.int d), .val (.null), .val (.null), .val (.null), .unset, .unset, .unset, .unset]) at_328 rfl rfl rfl ?_
  refine go_aload (q := 332) at_330 rfl rfl rfl ?_
  refine go_aload (q := 334) at_332 rfl rfl rfl ?_
  refine go_acmp (q := 341) (q2 := 337) at_334 (by decide) (by decide) rfl rfl rfl (fun hc => absurd hc (by simp [XT.acmp])) (fun _ => ?_)
  refine go_iconst (q := 338) (z := (1 : Int32)) at_337 rfl rfl ?_
  refine go_goto (q := 342) at_338 (by decide) (by decide) ?_
  exact go_ireturn (out := []) rfl (by simp) rfl at_342 rfl all0 (by decide) (by decide)
set_option maxRecDepth 65536 in
set_option maxHeartbeats 4000000 in
theorem own_316A {l : Launch} {Z : State} {a0 : Array Value} {G1 : Int32} {G3 : Value} {va c0 c1 c2 s0 s1 s2 : Addr} {kV : ClassId} (hw : ∀ d ∈ tables_1, d.before a0 Z = true) (hEL : EW Z a0 consts_1) (O2 : Sta Z Z.heap "java/lang/String" "COMPACT_STRINGS" "Z" (.int G1)) (P5 : ¬ G1 = (0 : Int32)) (O4 : Sta Z Z.heap "jdk/internal/util/Preconditions" "SIOOBE_FORMATTER" "Ljava/util/function/BiFunction;" G3) (rG3 : G3.isRef = true) (K0 : Sta Z Z.heap "com/example/tallymark/tallymark/Scoring" "PROPORTION" "Lcom/example/tallymark/tallymark/Scoring;" (.ref c0)) (K1 : Sta Z Z.heap "com/example/tallymark/tallymark/Scoring" "COHORT" "Lcom/example/tallymark/tallymark/Scoring;" (.ref c1)) (K2 : Sta Z Z.heap "com/example/tallymark/tallymark/Scoring" "RATIO" "Lcom/example/tallymark/tallymark/Scoring;" (.ref c2)) (KV : Sta Z Z.heap "com/example/tallymark/tallymark/Scoring" "$VALUES" "[Lcom/example/tallymark/tallymark/Scoring;" (.ref va)) (AV : Arv Z Z.heap va kV (.object "com/example/tallymark/tallymark/Scoring") 3 [.ref c0, .ref c1, .ref c2] .null) (EV : Exa Z Z.heap va "[Lcom/example/tallymark/tallymark/Scoring;") (F0 : Fld Z Z.heap c0 "com/example/tallymark/tallymark/Scoring" "code" "Ljava/lang/String;" (.ref s0)) (F1 : Fld Z Z.heap c1 "com/example/tallymark/tallymark/Scoring" "code" "Ljava/lang/String;" (.ref s1)) (F2 : Fld Z Z.heap c2 "com/example/tallymark/tallymark/Scoring" "code" "Ljava/lang/String;" (.ref s2)) (S0 : OStr Z Z.heap s0 tx0) (S1 : OStr Z Z.heap s1 tx1) (S2 : OStr Z Z.heap s2 tx2) (p0 p1 p2 p3 b d : Int32) {h : Heap} {mine : List Addr} {y : Addr} {cs : List Int32} (S : OStr Z h y cs) : Go l true Z consts_1 x.cls x.name code maxLocals ret room_1 (fun v _ _ => v = some (.int 1)) h mine 2 4 316 #[.val (.int p0), .val (.int p1), .val (.int p2), .val (.int p3), .val (.int b), .val (.int d), .val (.ref y), .unset, .unset, .unset, .unset, .unset, .unset] [] := by
  refine go_aload (q := 318) at_316 rfl rfl rfl ?_
  refine go_old fun E0 => ?_
  refine go_callS (q := 321) (y := (⟨"com/example/tallymark/tallymark/Scoring", "of", "(Ljava/lang/String;)Lcom/example/tallymark/tallymark/Scoring;"⟩ : MethodName)) (W := 0) (argsL := [.ref y]) (rest := []) (ws := []) (P := fun v h' L => ∃ out, (v = some (selC c0 c1 c2 cs) ∧ out = [] ∧ Ext h h') ∧ Fr Z.heap.size L ∧ Ext Z.heap h' ∧ ∀ x ∈ out, Z.heap.size ≤ x ∧ x < h'.size) at_318 rfl (hw _ (List.mem_of_getElem? (i := 73) rfl)) (hw _ (List.mem_of_getElem? (i := 74) rfl)) (hw _ (List.mem_of_getElem? (i := 75) rfl)) (hw _ (List.mem_of_getElem? (i := 76) rfl)) (by decide) (con_pay (conO hw O2 P5 E0 KV AV EV F0 F1 F2 S0 S1 S2 S) all0 (hw _ (List.mem_of_getElem? (i := 76) rfl)) (hw _ (List.mem_of_getElem? (i := 75) rfl)) (by decide) (by decide)) rfl rfl (lenOf pd_O rfl) (Nat.le_refl _) (by decide) (by decide) (fun v h' L hP => ?_) all0 (fun v h1 L hP => ?_)
  · obtain ⟨out, ⟨-, -, E⟩, N, -⟩ := hP; exact ⟨N, keep_ext E _⟩
  obtain ⟨out, ⟨rfl, -, E1⟩, -, X1, -⟩ := hP
  refine ⟨[], all0, ?_⟩
  obtain ⟨u, ev⟩ : ∃ u, selC c0 c1 c2 cs = u := ⟨_, rfl⟩
  have hu : u.isRef = true := ev ▸ selR c0 c1 c2 cs
  rw [ev]
  rcases ref_cases hu with rfl | ⟨c, rfl⟩
  · show Go l true Z consts_1 x.cls x.name code maxLocals ret room_1 (fun v _ _ => v = some (.int 1)) h1 _ _ _ 321 #[.val (.int p0), .val (.int p1), .val (.int p2), .val (.int p3), .val (.int b), .val (.int d), .val (.ref y), .unset, .unset, .unset, .unset, .unset, .unset] [(.null)]
    refine go_astore (q := 323) (l' := #[.val (.int p0), .val (.int p1), .val (.int p2), .val (.int p3), .val (.int b), .val (.int d), .val (.ref y), .val (.null), .unset, .unset, .unset, .unset, .unset]) at_321 rfl rfl rfl ?_
    refine go_aload (q := 325) at_323 rfl rfl rfl ?_
    refine go_callSW (q := 328) (y := (⟨"com/example/tallymark/tallymark/ScoringOfPinLaw", "expected", "(Ljava/lang/String;)Lcom/example/tallymark/tallymark/Scoring;"⟩ : MethodName)) (W := 0) (argsL := [.ref y]) (rest := []) at_325 rfl rfl (hw _ (List.mem_of_getElem? (i := 105) rfl)) (hw _ (List.mem_of_getElem? (i := 106) rfl)) (hw _ (List.mem_of_getElem? (i := 25) rfl)) (hw _ (List.mem_of_getElem? (i := 107) rfl)) (by decide) (conX hw hEL O2 P5 X1 K0 K1 K2 (S.ext E1)) (fun _ z => nomatch z) rfl rfl (lenOf pd_X rfl) (Nat.le_refl _) (by decide) (by decide) (by decide) (by decide) fun v h2 out hQ hsz => ?_
    obtain ⟨rfl, rfl⟩ := hQ
    rw [ev]
    show Go l true Z consts_1 x.cls x.name code maxLocals ret room_1 (fun v _ _ => v = some (.int 1)) h2 _ _ _ 328 #[.val (.int p0), .val (.int p1), .val (.int p2), .val (.int p3), .val (.int b), .val (.int d), .val (.ref y), .val (.null), .unset, .unset, .unset, .unset, .unset] [(.null)]
    refine go_astore (q := 330) (l' := #[.val (.int p0), .val (.int p1), .val (.int p2), .val (.int p3), .val (.int b), .val (.int d), .val (.ref y), .val (.null), .val (.null), .unset, .unset, .unset, .unset]) at_328 rfl rfl rfl ?_
    refine go_aload (q := 332) at_330 rfl rfl rfl ?_
    refine go_aload (q := 334) at_332 rfl rfl rfl ?_
    refine go_acmp (q := 341) (q2 := 337) at_334 (by decide) (by decide) rfl rfl rfl (fun hc => absurd hc (by simp [XT.acmp])) (fun _ => ?_)
    refine go_iconst (q := 338) (z := (1 : Int32)) at_337 rfl rfl ?_
    refine go_goto (q := 342) at_338 (by decide) (by decide) ?_
    exact go_ireturn (out := []) rfl (by simp) rfl at_342 rfl all0 (by decide) (by decide)
  · show Go l true Z consts_1 x.cls x.name code maxLocals ret room_1 (fun v _ _ => v = some (.int 1)) h1 _ _ _ 321 #[.val (.int p0), .val (.int p1), .val (.int p2), .val (.int p3), .val (.int b), .val (.int d), .val (.ref y), .unset, .unset, .unset, .unset, .unset, .unset] [(.ref c)]
    refine go_astore (q := 323) (l' := #[.val (.int p0), .val (.int p1), .val (.int p2), .val (.int p3), .val (.int b), .val (.int d), .val (.ref y), .val (.ref c), .unset, .unset, .unset, .unset, .unset]) at_321 rfl rfl rfl ?_
    refine go_aload (q := 325) at_323 rfl rfl rfl ?_
    refine go_callSW (q := 328) (y := (⟨"com/example/tallymark/tallymark/ScoringOfPinLaw", "expected", "(Ljava/lang/String;)Lcom/example/tallymark/tallymark/Scoring;"⟩ : MethodName)) (W := 0) (argsL := [.ref y]) (rest := []) at_325 rfl rfl (hw _ (List.mem_of_getElem? (i := 105) rfl)) (hw _ (List.mem_of_getElem? (i := 106) rfl)) (hw _ (List.mem_of_getElem? (i := 25) rfl)) (hw _ (List.mem_of_getElem? (i := 107) rfl)) (by decide) (conX hw hEL O2 P5 X1 K0 K1 K2 (S.ext E1)) (fun _ z => nomatch z) rfl rfl (lenOf pd_X rfl) (Nat.le_refl _) (by decide) (by decide) (by decide) (by decide) fun v h2 out hQ hsz => ?_
    obtain ⟨rfl, rfl⟩ := hQ
    rw [ev]
    show Go l true Z consts_1 x.cls x.name code maxLocals ret room_1 (fun v _ _ => v = some (.int 1)) h2 _ _ _ 328 #[.val (.int p0), .val (.int p1), .val (.int p2), .val (.int p3), .val (.int b), .val (.int d), .val (.ref y), .val (.ref c), .unset, .unset, .unset, .unset, .unset] [(.ref c)]
    refine go_astore (q := 330) (l' := #[.val (.int p0), .val (.int p1), .val (.int p2), .val (.int p3), .val (.int b), .val (.int d), .val (.ref y), .val (.ref c), .val (.ref c), .unset, .unset, .unset, .unset]) at_328 rfl rfl rfl ?_
    refine go_aload (q := 332) at_330 rfl rfl rfl ?_
    refine go_aload (q := 334) at_332 rfl rfl rfl ?_
    refine go_acmp (q := 341) (q2 := 337) at_334 (by decide) (by decide) rfl rfl rfl (fun hc => absurd hc (by simp [XT.acmp])) (fun _ => ?_)
    refine go_iconst (q := 338) (z := (1 : Int32)) at_337 rfl rfl ?_
    refine go_goto (q := 342) at_338 (by decide) (by decide) ?_
    exact go_ireturn (out := []) rfl (by simp) rfl at_342 rfl all0 (by decide) (by decide)
set_option maxRecDepth 65536 in
set_option maxHeartbeats 4000000 in
theorem own_316B {l : Launch} {Z : State} {a0 : Array Value} {G1 : Int32} {G3 : Value} {va c0 c1 c2 s0 s1 s2 : Addr} {kV : ClassId} (hw : ∀ d ∈ tables_1, d.before a0 Z = true) (hEL : EW Z a0 consts_1) (O2 : Sta Z Z.heap "java/lang/String" "COMPACT_STRINGS" "Z" (.int G1)) (P5 : ¬ G1 = (0 : Int32)) (O4 : Sta Z Z.heap "jdk/internal/util/Preconditions" "SIOOBE_FORMATTER" "Ljava/util/function/BiFunction;" G3) (rG3 : G3.isRef = true) (K0 : Sta Z Z.heap "com/example/tallymark/tallymark/Scoring" "PROPORTION" "Lcom/example/tallymark/tallymark/Scoring;" (.ref c0)) (K1 : Sta Z Z.heap "com/example/tallymark/tallymark/Scoring" "COHORT" "Lcom/example/tallymark/tallymark/Scoring;" (.ref c1)) (K2 : Sta Z Z.heap "com/example/tallymark/tallymark/Scoring" "RATIO" "Lcom/example/tallymark/tallymark/Scoring;" (.ref c2)) (KV : Sta Z Z.heap "com/example/tallymark/tallymark/Scoring" "$VALUES" "[Lcom/example/tallymark/tallymark/Scoring;" (.ref va)) (AV : Arv Z Z.heap va kV (.object "com/example/tallymark/tallymark/Scoring") 3 [.ref c0, .ref c1, .ref c2] .null) (EV : Exa Z Z.heap va "[Lcom/example/tallymark/tallymark/Scoring;") (F0 : Fld Z Z.heap c0 "com/example/tallymark/tallymark/Scoring" "code" "Ljava/lang/String;" (.ref s0)) (F1 : Fld Z Z.heap c1 "com/example/tallymark/tallymark/Scoring" "code" "Ljava/lang/String;" (.ref s1)) (F2 : Fld Z Z.heap c2 "com/example/tallymark/tallymark/Scoring" "code" "Ljava/lang/String;" (.ref s2)) (S0 : OStr Z Z.heap s0 tx0) (S1 : OStr Z Z.heap s1 tx1) (S2 : OStr Z Z.heap s2 tx2) (p0 p1 p2 p3 b d z8 z9 z10 z11 : Int32) (t t12 : Addr) {h : Heap} {mine : List Addr} {y : Addr} {cs : List Int32} (S : OStr Z h y cs) : Go l true Z consts_1 x.cls x.name code maxLocals ret room_1 (fun v _ _ => v = some (.int 1)) h mine 6 100 316 #[.val (.int p0), .val (.int p1), .val (.int p2), .val (.int p3), .val (.int b), .val (.int d), .val (.ref y), .val (.ref t), .val (.int z8), .val (.int z9), .val (.int z10), .val (.int z11), .val (.ref t12)] [] := by
  refine go_aload (q := 318) at_316 rfl rfl rfl ?_
  refine go_old fun E0 => ?_
  refine go_callS (q := 321) (y := (⟨"com/example/tallymark/tallymark/Scoring", "of", "(Ljava/lang/String;)Lcom/example/tallymark/tallymark/Scoring;"⟩ : MethodName)) (W := 0) (argsL := [.ref y]) (rest := []) (ws := []) (P := fun v h' L => ∃ out, (v = some (selC c0 c1 c2 cs) ∧ out = [] ∧ Ext h h') ∧ Fr Z.heap.size L ∧ Ext Z.heap h' ∧ ∀ x ∈ out, Z.heap.size ≤ x ∧ x < h'.size) at_318 rfl (hw _ (List.mem_of_getElem? (i := 73) rfl)) (hw _ (List.mem_of_getElem? (i := 74) rfl)) (hw _ (List.mem_of_getElem? (i := 75) rfl)) (hw _ (List.mem_of_getElem? (i := 76) rfl)) (by decide) (con_pay (conO hw O2 P5 E0 KV AV EV F0 F1 F2 S0 S1 S2 S) all0 (hw _ (List.mem_of_getElem? (i := 76) rfl)) (hw _ (List.mem_of_getElem? (i := 75) rfl)) (by decide) (by decide)) rfl rfl (lenOf pd_O rfl) (Nat.le_refl _) (by decide) (by decide) (fun v h' L hP => ?_) all0 (fun v h1 L hP => ?_)
  · obtain ⟨out, ⟨-, -, E⟩, N, -⟩ := hP; exact ⟨N, keep_ext E _⟩
  obtain ⟨out, ⟨rfl, -, E1⟩, -, X1, -⟩ := hP
  refine ⟨[], all0, ?_⟩
  obtain ⟨u, ev⟩ : ∃ u, selC c0 c1 c2 cs = u := ⟨_, rfl⟩
  have hu : u.isRef = true := ev ▸ selR c0 c1 c2 cs
  rw [ev]
  rcases ref_cases hu with rfl | ⟨c, rfl⟩
  · show Go l true Z consts_1 x.cls x.name code maxLocals ret room_1 (fun v _ _ => v = some (.int 1)) h1 _ _ _ 321 #[.val (.int p0), .val (.int p1), .val (.int p2), .val (.int p3), .val (.int b), .val (.int d), .val (.ref y), .val (.ref t), .val (.int z8), .val (.int z9), .val (.int z10), .val (.int z11), .val (.ref t12)] [(.null)]
    refine go_astore (q := 323) (l' := #[.val (.int p0), .val (.int p1), .val (.int p2), .val (.int p3), .val (.int b), .val (.int d), .val (.ref y), .val (.null), .val (.int z8), .val (.int z9), .val (.int z10), .val (.int z11), .val (.ref t12)]) at_321 rfl rfl rfl ?_
    refine go_aload (q := 325) at_323 rfl rfl rfl ?_
    refine go_callSW (q := 328) (y := (⟨"com/example/tallymark/tallymark/ScoringOfPinLaw", "expected", "(Ljava/lang/String;)Lcom/example/tallymark/tallymark/Scoring;"⟩ : MethodName)) (W := 0) (argsL := [.ref y]) (rest := []) at_325 rfl rfl (hw _ (List.mem_of_getElem? (i := 105) rfl)) (hw _ (List.mem_of_getElem? (i := 106) rfl)) (hw _ (List.mem_of_getElem? (i := 25) rfl)) (hw _ (List.mem_of_getElem? (i := 107) rfl)) (by decide) (conX hw hEL O2 P5 X1 K0 K1 K2 (S.ext E1)) (fun _ z => nomatch z) rfl rfl (lenOf pd_X rfl) (Nat.le_refl _) (by decide) (by decide) (by decide) (by decide) fun v h2 out hQ hsz => ?_
    obtain ⟨rfl, rfl⟩ := hQ
    rw [ev]
    show Go l true Z consts_1 x.cls x.name code maxLocals ret room_1 (fun v _ _ => v = some (.int 1)) h2 _ _ _ 328 #[.val (.int p0), .val (.int p1), .val (.int p2), .val (.int p3), .val (.int b), .val (.int d), .val (.ref y), .val (.null), .val (.int z8), .val (.int z9), .val (.int z10), .val (.int z11), .val (.ref t12)] [(.null)]
    refine go_astore (q := 330) (l' := #[.val (.int p0), .val (.int p1), .val (.int p2), .val (.int p3), .val (.int b), .val (.int d), .val (.ref y), .val (.null), .val (.null), .val (.int z9), .val (.int z10), .val (.int z11), .val (.ref t12)]) at_328 rfl rfl rfl ?_
    refine go_aload (q := 332) at_330 rfl rfl rfl ?_
    refine go_aload (q := 334) at_332 rfl rfl rfl ?_
    refine go_acmp (q := 341) (q2 := 337) at_334 (by decide) (by decide) rfl rfl rfl (fun hc => absurd hc (by simp [XT.acmp])) (fun _ => ?_)
    refine go_iconst (q := 338) (z := (1 : Int32)) at_337 rfl rfl ?_
    refine go_goto (q := 342) at_338 (by decide) (by decide) ?_
    exact go_ireturn (out := []) rfl (by simp) rfl at_342 rfl all0 (by decide) (by decide)
  · show Go l true Z consts_1 x.cls x.name code maxLocals ret room_1 (fun v _ _ => v = some (.int 1)) h1 _ _ _ 321 #[.val (.int p0), .val (.int p1), .val (.int p2), .val (.int p3), .val (.int b), .val (.int d), .val (.ref y), .val (.ref t), .val (.int z8), .val (.int z9), .val (.int z10), .val (.int z11), .val (.ref t12)] [(.ref c)]
    refine go_astore (q := 323) (l' := #[.val (.int p0), .val (.int p1), .val (.int p2), .val (.int p3), .val (.int b), .val (.int d), .val (.ref y), .val (.ref c), .val (.int z8), .val (.int z9), .val (.int z10), .val (.int z11), .val (.ref t12)]) at_321 rfl rfl rfl ?_
    refine go_aload (q := 325) at_323 rfl rfl rfl ?_
    refine go_callSW (q := 328) (y := (⟨"com/example/tallymark/tallymark/ScoringOfPinLaw", "expected", "(Ljava/lang/String;)Lcom/example/tallymark/tallymark/Scoring;"⟩ : MethodName)) (W := 0) (argsL := [.ref y]) (rest := []) at_325 rfl rfl (hw _ (List.mem_of_getElem? (i := 105) rfl)) (hw _ (List.mem_of_getElem? (i := 106) rfl)) (hw _ (List.mem_of_getElem? (i := 25) rfl)) (hw _ (List.mem_of_getElem? (i := 107) rfl)) (by decide) (conX hw hEL O2 P5 X1 K0 K1 K2 (S.ext E1)) (fun _ z => nomatch z) rfl rfl (lenOf pd_X rfl) (Nat.le_refl _) (by decide) (by decide) (by decide) (by decide) fun v h2 out hQ hsz => ?_
    obtain ⟨rfl, rfl⟩ := hQ
    rw [ev]
    show Go l true Z consts_1 x.cls x.name code maxLocals ret room_1 (fun v _ _ => v = some (.int 1)) h2 _ _ _ 328 #[.val (.int p0), .val (.int p1), .val (.int p2), .val (.int p3), .val (.int b), .val (.int d), .val (.ref y), .val (.ref c), .val (.int z8), .val (.int z9), .val (.int z10), .val (.int z11), .val (.ref t12)] [(.ref c)]
    refine go_astore (q := 330) (l' := #[.val (.int p0), .val (.int p1), .val (.int p2), .val (.int p3), .val (.int b), .val (.int d), .val (.ref y), .val (.ref c), .val (.ref c), .val (.int z9), .val (.int z10), .val (.int z11), .val (.ref t12)]) at_328 rfl rfl rfl ?_
    refine go_aload (q := 332) at_330 rfl rfl rfl ?_
    refine go_aload (q := 334) at_332 rfl rfl rfl ?_
    refine go_acmp (q := 341) (q2 := 337) at_334 (by decide) (by decide) rfl rfl rfl (fun hc => absurd hc (by simp [XT.acmp])) (fun _ => ?_)
    refine go_iconst (q := 338) (z := (1 : Int32)) at_337 rfl rfl ?_
    refine go_goto (q := 342) at_338 (by decide) (by decide) ?_
    exact go_ireturn (out := []) rfl (by simp) rfl at_342 rfl all0 (by decide) (by decide)
set_option maxRecDepth 65536 in
set_option maxHeartbeats 4000000 in
theorem own_88 {l : Launch} {Z : State} {a0 : Array Value} {G1 : Int32} {G3 : Value} {va c0 c1 c2 s0 s1 s2 : Addr} {kV : ClassId} (hw : ∀ d ∈ tables_1, d.before a0 Z = true) (hEL : EW Z a0 consts_1) (O2 : Sta Z Z.heap "java/lang/String" "COMPACT_STRINGS" "Z" (.int G1)) (P5 : ¬ G1 = (0 : Int32)) (O4 : Sta Z Z.heap "jdk/internal/util/Preconditions" "SIOOBE_FORMATTER" "Ljava/util/function/BiFunction;" G3) (rG3 : G3.isRef = true) (K0 : Sta Z Z.heap "com/example/tallymark/tallymark/Scoring" "PROPORTION" "Lcom/example/tallymark/tallymark/Scoring;" (.ref c0)) (K1 : Sta Z Z.heap "com/example/tallymark/tallymark/Scoring" "COHORT" "Lcom/example/tallymark/tallymark/Scoring;" (.ref c1)) (K2 : Sta Z Z.heap "com/example/tallymark/tallymark/Scoring" "RATIO" "Lcom/example/tallymark/tallymark/Scoring;" (.ref c2)) (KV : Sta Z Z.heap "com/example/tallymark/tallymark/Scoring" "$VALUES" "[Lcom/example/tallymark/tallymark/Scoring;" (.ref va)) (AV : Arv Z Z.heap va kV (.object "com/example/tallymark/tallymark/Scoring") 3 [.ref c0, .ref c1, .ref c2] .null) (EV : Exa Z Z.heap va "[Lcom/example/tallymark/tallymark/Scoring;") (F0 : Fld Z Z.heap c0 "com/example/tallymark/tallymark/Scoring" "code" "Ljava/lang/String;" (.ref s0)) (F1 : Fld Z Z.heap c1 "com/example/tallymark/tallymark/Scoring" "code" "Ljava/lang/String;" (.ref s1)) (F2 : Fld Z Z.heap c2 "com/example/tallymark/tallymark/Scoring" "code" "Ljava/lang/String;" (.ref s2)) (S0 : OStr Z Z.heap s0 tx0) (S1 : OStr Z Z.heap s1 tx1) (S2 : OStr Z Z.heap s2 tx2) (p0 p1 p2 p3 b d z8 : Int32) {h : Heap} {y : Addr} {bs : List Int32} {mine : List Addr} (S : OStr Z h y bs) : Go l true Z consts_1 x.cls x.name code maxLocals ret room_1 (fun v _ _ => v = some (.int 1)) h mine 2 44 88 #[.val (.int p0), .val (.int p1), .val (.int p2), .val (.int p3), .val (.int b), .val (.int d), .unset, .val (.ref y), .unset, .unset, .unset, .unset, .unset] [(.int z8)] := by
  refine go_istore (q := 90) (l' := #[.val (.int p0), .val (.int p1), .val (.int p2), .val (.int p3), .val (.int b), .val (.int d), .unset, .val (.ref y), .val (.int z8), .unset, .unset, .unset, .unset]) at_88 rfl rfl ?_
  refine go_iloadN (q := 91) at_90 rfl rfl ?_
  refine go_ldcI (q := 93) at_91 rfl (hw _ (List.mem_of_getElem? (i := 21) rfl)) ?_
  refine go_iand (q := 94) at_93 rfl ?_
  refine go_bipush (q := 96) (z := (12 : Int32)) at_94 rfl rfl ?_
  refine go_irem (q := 97) at_96 rfl (by decide) ?_
  generalize (p1 &&& (2147483647 : Int32)) % (12 : Int32) = z9
  refine go_istore (q := 99) (l' := #[.val (.int p0), .val (.int p1), .val (.int p2), .val (.int p3), .val (.int b), .val (.int d), .unset, .val (.ref y), .val (.int z8), .val (.int z9), .unset, .unset, .unset]) at_97 rfl rfl ?_
  refine go_iloadN (q := 100) at_99 rfl rfl ?_
  refine go_sipush (q := 103) (z := (255 : Int32)) at_100 rfl rfl ?_
  refine go_iand (q := 104) at_103 rfl ?_
  refine go_i2c (q := 105) at_104 rfl ?_
  have hc10 := and255_raw p2
  generalize (p2 &&& (255 : Int32)).toUInt32.toUInt16.toUInt32.toInt32 = z10 at hc10 ⊢
  refine go_istore (q := 107) (l' := #[.val (.int p0), .val (.int p1), .val (.int p2), .val (.int p3), .val (.int b), .val (.int d), .unset, .val (.ref y), .val (.int z8), .val (.int z9), .val (.int z10), .unset, .unset]) at_105 rfl rfl ?_
  refine go_iloadN (q := 108) at_107 rfl rfl ?_
  refine go_sipush (q := 111) (z := (255 : Int32)) at_108 rfl rfl ?_
  refine go_iand (q := 112) at_111 rfl ?_
  refine go_i2c (q := 113) at_112 rfl ?_
  have hc11 := and255_raw p3
  generalize (p3 &&& (255 : Int32)).toUInt32.toUInt16.toUInt32.toInt32 = z11 at hc11 ⊢
  refine go_istore (q := 115) (l' := #[.val (.int p0), .val (.int p1), .val (.int p2), .val (.int p3), .val (.int b), .val (.int d), .unset, .val (.ref y), .val (.int z8), .val (.int z9), .val (.int z10), .val (.int z11), .unset]) at_113 rfl rfl ?_
  refine go_bipush (q := 117) (z := (11 : Int32)) at_115 rfl rfl ?_
  refine go_newarray (q := 119) (cap := 11) (ad := "[C") at_117 rfl (hw _ (List.mem_of_getElem? (i := 22) rfl)) (by decide) (by decide) (by decide) (by decide) (by decide) rfl fun h0 b1 kC eb1 E0 R0 B0 => ?_
  have R1 : Arv Z h0 b1 kC .char (11 : Int32) [.int 0, .int 0, .int 0, .int 0, .int 0, .int 0, .int 0, .int 0, .int 0, .int 0, .int 0] (.int 0) := R0.pad (pad_rep [] (.int 0) 11)
  have X0 := E0
  have S0' := S.ext E0
  refine go_astore (q := 121) (l' := #[.val (.int p0), .val (.int p1), .val (.int p2), .val (.int p3), .val (.int b), .val (.int d), .unset, .val (.ref y), .val (.int z8), .val (.int z9), .val (.int z10), .val (.int z11), .val (.ref b1)]) at_119 rfl rfl rfl ?_
  refine go_aload (q := 123) at_121 rfl rfl rfl ?_
  refine go_iconst (q := 124) (z := (0 : Int32)) at_123 rfl rfl ?_
  refine go_aload (q := 126) at_124 rfl rfl rfl ?_
  refine go_iconst (q := 127) (z := (0 : Int32)) at_126 rfl rfl ?_
  refine go_iload (q := 129) at_127 rfl rfl ?_
  refine go_iload (q := 131) at_129 rfl rfl ?_
  refine go_iload (q := 133) at_131 rfl rfl ?_
  refine go_old fun Ob0 => ?_
  refine go_callS (q := 136) (y := (⟨"com/example/tallymark/tallymark/ScoringOfPinLaw", "at", "(Ljava/lang/String;IICC)C"⟩ : MethodName)) (W := 2) (argsL := [.ref y, .int (Int32.ofNat 0), .int z9, .int z10, .int z11]) (rest := [.int (0 : Int32), .ref b1]) (ws := []) (P := fun v h' L => ∃ out, ((∃ r : Int32, v = some (.int r) ∧ ¬ r < 0 ∧ ¬ (255 : Int32) < r) ∧ out = [] ∧ h' = h0) ∧ Fr Z.heap.size L ∧ Ext Z.heap h' ∧ ∀ x ∈ out, Z.heap.size ≤ x ∧ x < h'.size) at_133 rfl (hw _ (List.mem_of_getElem? (i := 23) rfl)) (hw _ (List.mem_of_getElem? (i := 24) rfl)) (hw _ (List.mem_of_getElem? (i := 25) rfl)) (hw _ (List.mem_of_getElem? (i := 26) rfl)) (by decide) (con_pay (conA hw O2 P5 O4 rG3 Ob0 (S.ext X0) 0 (by decide) z9 hc10 hc11) all0 (hw _ (List.mem_of_getElem? (i := 26) rfl)) (hw _ (List.mem_of_getElem? (i := 25) rfl)) (by decide) (by decide)) rfl rfl (lenOf pd_A rfl) (Nat.le_of_ble_eq_true rfl) (by decide) (by decide) (fun v h' L hP => ?_) all0 (fun v g0 L hP => ?_)
  · obtain ⟨out, ⟨-, -, rfl⟩, N, -⟩ := hP; exact ⟨N, Keep.refl _ _⟩
  obtain ⟨out, ⟨⟨r0, rfl, q0⟩, -, rfl⟩, -⟩ := hP
  refine ⟨[], all0, ?_⟩
  show Go l true Z consts_1 x.cls x.name code maxLocals ret room_1 (fun v _ _ => v = some (.int 1)) g0 _ _ _ 136 #[.val (.int p0), .val (.int p1), .val (.int p2), .val (.int p3), .val (.int b), .val (.int d), .unset, .val (.ref y), .val (.int z8), .val (.int z9), .val (.int z10), .val (.int z11), .val (.ref b1)] [(.int r0), (.int (0 : Int32)), (.ref b1)]
  refine go_castore (q := 137) (i := 0) at_136 rfl R1 (by decide) rfl (Nat.le_of_ble_eq_true rfl) (List.mem_cons_self ..) fun m0 J0 Q0 => ?_
  have X1 : Ext h m0 := ext_keep X0 J0 (allS (Nat.le_of_eq eb1.symm) all0)
  refine go_aload (q := 139) at_137 rfl rfl rfl ?_
  refine go_iconst (q := 140) (z := (1 : Int32)) at_139 rfl rfl ?_
  refine go_aload (q := 142) at_140 rfl rfl rfl ?_
  refine go_iconst (q := 143) (z := (1 : Int32)) at_142 rfl rfl ?_
  refine go_iload (q := 145) at_143 rfl rfl ?_
  refine go_iload (q := 147) at_145 rfl rfl ?_
  refine go_iload (q := 149) at_147 rfl rfl ?_
  refine go_old fun Ob1 => ?_
  refine go_callS (q := 152) (y := (⟨"com/example/tallymark/tallymark/ScoringOfPinLaw", "at", "(Ljava/lang/String;IICC)C"⟩ : MethodName)) (W := 2) (argsL := [.ref y, .int (Int32.ofNat 1), .int z9, .int z10, .int z11]) (rest := [.int (1 : Int32), .ref b1]) (ws := []) (P := fun v h' L => ∃ out, ((∃ r : Int32, v = some (.int r) ∧ ¬ r < 0 ∧ ¬ (255 : Int32) < r) ∧ out = [] ∧ h' = m0) ∧ Fr Z.heap.size L ∧ Ext Z.heap h' ∧ ∀ x ∈ out, Z.heap.size ≤ x ∧ x < h'.size) at_149 rfl (hw _ (List.mem_of_getElem? (i := 23) rfl)) (hw _ (List.mem_of_getElem? (i := 24) rfl)) (hw _ (List.mem_of_getElem? (i := 25) rfl)) (hw _ (List.mem_of_getElem? (i := 26) rfl)) (by decide) (con_pay (conA hw O2 P5 O4 rG3 Ob1 (S.ext X1) 1 (by decide) z9 hc10 hc11) all0 (hw _ (List.mem_of_getElem? (i := 26) rfl)) (hw _ (List.mem_of_getElem? (i := 25) rfl)) (by decide) (by decide)) rfl rfl (lenOf pd_A rfl) (Nat.le_of_ble_eq_true rfl) (by decide) (by decide) (fun v h' L hP => ?_) all0 (fun v g1 L hP => ?_)
  · obtain ⟨out, ⟨-, -, rfl⟩, N, -⟩ := hP; exact ⟨N, Keep.refl _ _⟩
  obtain ⟨out, ⟨⟨r1, rfl, q1⟩, -, rfl⟩, -⟩ := hP
  refine ⟨[], all0, ?_⟩
  show Go l true Z consts_1 x.cls x.name code maxLocals ret room_1 (fun v _ _ => v = some (.int 1)) g1 _ _ _ 152 #[.val (.int p0), .val (.int p1), .val (.int p2), .val (.int p3), .val (.int b), .val (.int d), .unset, .val (.ref y), .val (.int z8), .val (.int z9), .val (.int z10), .val (.int z11), .val (.ref b1)] [(.int r1), (.int (1 : Int32)), (.ref b1)]
  refine go_castore (q := 153) (i := 1) at_152 rfl Q0 (by decide) rfl (Nat.le_of_ble_eq_true rfl) (List.mem_cons_self ..) fun m1 J1 Q1 => ?_
  have X2 : Ext h m1 := ext_keep X1 J1 (allS (Nat.le_of_eq eb1.symm) all0)
  refine go_aload (q := 155) at_153 rfl rfl rfl ?_
  refine go_iconst (q := 156) (z := (2 : Int32)) at_155 rfl rfl ?_
  refine go_aload (q := 158) at_156 rfl rfl rfl ?_
  refine go_iconst (q := 159) (z := (2 : Int32)) at_158 rfl rfl ?_
  refine go_iload (q := 161) at_159 rfl rfl ?_
  refine go_iload (q := 163) at_161 rfl rfl ?_
  refine go_iload (q := 165) at_163 rfl rfl ?_
  refine go_old fun Ob2 => ?_
  refine go_callS (q := 168) (y := (⟨"com/example/tallymark/tallymark/ScoringOfPinLaw", "at", "(Ljava/lang/String;IICC)C"⟩ : MethodName)) (W := 2) (argsL := [.ref y, .int (Int32.ofNat 2), .int z9, .int z10, .int z11]) (rest := [.int (2 : Int32), .ref b1]) (ws := []) (P := fun v h' L => ∃ out, ((∃ r : Int32, v = some (.int r) ∧ ¬ r < 0 ∧ ¬ (255 : Int32) < r) ∧ out = [] ∧ h' = m1) ∧ Fr Z.heap.size L ∧ Ext Z.heap h' ∧ ∀ x ∈ out, Z.heap.size ≤ x ∧ x < h'.size) at_165 rfl (hw _ (List.mem_of_getElem? (i := 23) rfl)) (hw _ (List.mem_of_getElem? (i := 24) rfl)) (hw _ (List.mem_of_getElem? (i := 25) rfl)) (hw _ (List.mem_of_getElem? (i := 26) rfl)) (by decide) (con_pay (conA hw O2 P5 O4 rG3 Ob2 (S.ext X2) 2 (by decide) z9 hc10 hc11) all0 (hw _ (List.mem_of_getElem? (i := 26) rfl)) (hw _ (List.mem_of_getElem? (i := 25) rfl)) (by decide) (by decide)) rfl rfl (lenOf pd_A rfl) (Nat.le_of_ble_eq_true rfl) (by decide) (by decide) (fun v h' L hP => ?_) all0 (fun v g2 L hP => ?_)
  · obtain ⟨out, ⟨-, -, rfl⟩, N, -⟩ := hP; exact ⟨N, Keep.refl _ _⟩
  obtain ⟨out, ⟨⟨r2, rfl, q2⟩, -, rfl⟩, -⟩ := hP
  refine ⟨[], all0, ?_⟩
  show Go l true Z consts_1 x.cls x.name code maxLocals ret room_1 (fun v _ _ => v = some (.int 1)) g2 _ _ _ 168 #[.val (.int p0), .val (.int p1), .val (.int p2), .val (.int p3), .val (.int b), .val (.int d), .unset, .val (.ref y), .val (.int z8), .val (.int z9), .val (.int z10), .val (.int z11), .val (.ref b1)] [(.int r2), (.int (2 : Int32)), (.ref b1)]
  refine go_castore (q := 169) (i := 2) at_168 rfl Q1 (by decide) rfl (Nat.le_of_ble_eq_true rfl) (List.mem_cons_self ..) fun m2 J2 Q2 => ?_
  have X3 : Ext h m2 := ext_keep X2 J2 (allS (Nat.le_of_eq eb1.symm) all0)
  refine go_aload (q := 171) at_169 rfl rfl rfl ?_
  refine go_iconst (q := 172) (z := (3 : Int32)) at_171 rfl rfl ?_
  refine go_aload (q := 174) at_172 rfl rfl rfl ?_
  refine go_iconst (q := 175) (z := (3 : Int32)) at_174 rfl rfl ?_
  refine go_iload (q := 177) at_175 rfl rfl ?_
  refine go_iload (q := 179) at_177 rfl rfl ?_
  refine go_iload (q := 181) at_179 rfl rfl ?_
  refine go_old fun Ob3 => ?_
  refine go_callS (q := 184) (y := (⟨"com/example/tallymark/tallymark/ScoringOfPinLaw", "at", "(Ljava/lang/String;IICC)C"⟩ : MethodName)) (W := 2) (argsL := [.ref y, .int (Int32.ofNat 3), .int z9, .int z10, .int z11]) (rest := [.int (3 : Int32), .ref b1]) (ws := []) (P := fun v h' L => ∃ out, ((∃ r : Int32, v = some (.int r) ∧ ¬ r < 0 ∧ ¬ (255 : Int32) < r) ∧ out = [] ∧ h' = m2) ∧ Fr Z.heap.size L ∧ Ext Z.heap h' ∧ ∀ x ∈ out, Z.heap.size ≤ x ∧ x < h'.size) at_181 rfl (hw _ (List.mem_of_getElem? (i := 23) rfl)) (hw _ (List.mem_of_getElem? (i := 24) rfl)) (hw _ (List.mem_of_getElem? (i := 25) rfl)) (hw _ (List.mem_of_getElem? (i := 26) rfl)) (by decide) (con_pay (conA hw O2 P5 O4 rG3 Ob3 (S.ext X3) 3 (by decide) z9 hc10 hc11) all0 (hw _ (List.mem_of_getElem? (i := 26) rfl)) (hw _ (List.mem_of_getElem? (i := 25) rfl)) (by decide) (by decide)) rfl rfl (lenOf pd_A rfl) (Nat.le_of_ble_eq_true rfl) (by decide) (by decide) (fun v h' L hP => ?_) all0 (fun v g3 L hP => ?_)
  · obtain ⟨out, ⟨-, -, rfl⟩, N, -⟩ := hP; exact ⟨N, Keep.refl _ _⟩
  obtain ⟨out, ⟨⟨r3, rfl, q3⟩, -, rfl⟩, -⟩ := hP
  refine ⟨[], all0, ?_⟩
  show Go l true Z consts_1 x.cls x.name code maxLocals ret room_1 (fun v _ _ => v = some (.int 1)) g3 _ _ _ 184 #[.val (.int p0), .val (.int p1), .val (.int p2), .val (.int p3), .val (.int b), .val (.int d), .unset, .val (.ref y), .val (.int z8), .val (.int z9), .val (.int z10), .val (.int z11), .val (.ref b1)] [(.int r3), (.int (3 : Int32)), (.ref b1)]
  refine go_castore (q := 185) (i := 3) at_184 rfl Q2 (by decide) rfl (Nat.le_of_ble_eq_true rfl) (List.mem_cons_self ..) fun m3 J3 Q3 => ?_
  have X4 : Ext h m3 := ext_keep X3 J3 (allS (Nat.le_of_eq eb1.symm) all0)
  refine go_aload (q := 187) at_185 rfl rfl rfl ?_
  refine go_iconst (q := 188) (z := (4 : Int32)) at_187 rfl rfl ?_
  refine go_aload (q := 190) at_188 rfl rfl rfl ?_
  refine go_iconst (q := 191) (z := (4 : Int32)) at_190 rfl rfl ?_
  refine go_iload (q := 193) at_191 rfl rfl ?_
  refine go_iload (q := 195) at_193 rfl rfl ?_
  refine go_iload (q := 197) at_195 rfl rfl ?_
  refine go_old fun Ob4 => ?_
  refine go_callS (q := 200) (y := (⟨"com/example/tallymark/tallymark/ScoringOfPinLaw", "at", "(Ljava/lang/String;IICC)C"⟩ : MethodName)) (W := 2) (argsL := [.ref y, .int (Int32.ofNat 4), .int z9, .int z10, .int z11]) (rest := [.int (4 : Int32), .ref b1]) (ws := []) (P := fun v h' L => ∃ out, ((∃ r : Int32, v = some (.int r) ∧ ¬ r < 0 ∧ ¬ (255 : Int32) < r) ∧ out = [] ∧ h' = m3) ∧ Fr Z.heap.size L ∧ Ext Z.heap h' ∧ ∀ x ∈ out, Z.heap.size ≤ x ∧ x < h'.size) at_197 rfl (hw _ (List.mem_of_getElem? (i := 23) rfl)) (hw _ (List.mem_of_getElem? (i := 24) rfl)) (hw _ (List.mem_of_getElem? (i := 25) rfl)) (hw _ (List.mem_of_getElem? (i := 26) rfl)) (by decide) (con_pay (conA hw O2 P5 O4 rG3 Ob4 (S.ext X4) 4 (by decide) z9 hc10 hc11) all0 (hw _ (List.mem_of_getElem? (i := 26) rfl)) (hw _ (List.mem_of_getElem? (i := 25) rfl)) (by decide) (by decide)) rfl rfl (lenOf pd_A rfl) (Nat.le_of_ble_eq_true rfl) (by decide) (by decide) (fun v h' L hP => ?_) all0 (fun v g4 L hP => ?_)
  · obtain ⟨out, ⟨-, -, rfl⟩, N, -⟩ := hP; exact ⟨N, Keep.refl _ _⟩
  obtain ⟨out, ⟨⟨r4, rfl, q4⟩, -, rfl⟩, -⟩ := hP
  refine ⟨[], all0, ?_⟩
  show Go l true Z consts_1 x.cls x.name code maxLocals ret room_1 (fun v _ _ => v = some (.int 1)) g4 _ _ _ 200 #[.val (.int p0), .val (.int p1), .val (.int p2), .val (.int p3), .val (.int b), .val (.int d), .unset, .val (.ref y), .val (.int z8), .val (.int z9), .val (.int z10), .val (.int z11), .val (.ref b1)] [(.int r4), (.int (4 : Int32)), (.ref b1)]
  refine go_castore (q := 201) (i := 4) at_200 rfl Q3 (by decide) rfl (Nat.le_of_ble_eq_true rfl) (List.mem_cons_self ..) fun m4 J4 Q4 => ?_
  have X5 : Ext h m4 := ext_keep X4 J4 (allS (Nat.le_of_eq eb1.symm) all0)
  refine go_aload (q := 203) at_201 rfl rfl rfl ?_
  refine go_iconst (q := 204) (z := (5 : Int32)) at_203 rfl rfl ?_
  refine go_aload (q := 206) at_204 rfl rfl rfl ?_
  refine go_iconst (q := 207) (z := (5 : Int32)) at_206 rfl rfl ?_
  refine go_iload (q := 209) at_207 rfl rfl ?_
  refine go_iload (q := 211) at_209 rfl rfl ?_
  refine go_iload (q := 213) at_211 rfl rfl ?_
  refine go_old fun Ob5 => ?_
  refine go_callS (q := 216) (y := (⟨"com/example/tallymark/tallymark/ScoringOfPinLaw", "at", "(Ljava/lang/String;IICC)C"⟩ : MethodName)) (W := 2) (argsL := [.ref y, .int (Int32.ofNat 5), .int z9, .int z10, .int z11]) (rest := [.int (5 : Int32), .ref b1]) (ws := []) (P := fun v h' L => ∃ out, ((∃ r : Int32, v = some (.int r) ∧ ¬ r < 0 ∧ ¬ (255 : Int32) < r) ∧ out = [] ∧ h' = m4) ∧ Fr Z.heap.size L ∧ Ext Z.heap h' ∧ ∀ x ∈ out, Z.heap.size ≤ x ∧ x < h'.size) at_213 rfl (hw _ (List.mem_of_getElem? (i := 23) rfl)) (hw _ (List.mem_of_getElem? (i := 24) rfl)) (hw _ (List.mem_of_getElem? (i := 25) rfl)) (hw _ (List.mem_of_getElem? (i := 26) rfl)) (by decide) (con_pay (conA hw O2 P5 O4 rG3 Ob5 (S.ext X5) 5 (by decide) z9 hc10 hc11) all0 (hw _ (List.mem_of_getElem? (i := 26) rfl)) (hw _ (List.mem_of_getElem? (i := 25) rfl)) (by decide) (by decide)) rfl rfl (lenOf pd_A rfl) (Nat.le_of_ble_eq_true rfl) (by decide) (by decide) (fun v h' L hP => ?_) all0 (fun v g5 L hP => ?_)
  · obtain ⟨out, ⟨-, -, rfl⟩, N, -⟩ := hP; exact ⟨N, Keep.refl _ _⟩
  obtain ⟨out, ⟨⟨r5, rfl, q5⟩, -, rfl⟩, -⟩ := hP
  refine ⟨[], all0, ?_⟩
  show Go l true Z consts_1 x.cls x.name code maxLocals ret room_1 (fun v _ _ => v = some (.int 1)) g5 _ _ _ 216 #[.val (.int p0), .val (.int p1), .val (.int p2), .val (.int p3), .val (.int b), .val (.int d), .unset, .val (.ref y), .val (.int z8), .val (.int z9), .val (.int z10), .val (.int z11), .val (.ref b1)] [(.int r5), (.int (5 : Int32)), (.ref b1)]
  refine go_castore (q := 217) (i := 5) at_216 rfl Q4 (by decide) rfl (Nat.le_of_ble_eq_true rfl) (List.mem_cons_self ..) fun m5 J5 Q5 => ?_
  have X6 : Ext h m5 := ext_keep X5 J5 (allS (Nat.le_of_eq eb1.symm) all0)
  refine go_aload (q := 219) at_217 rfl rfl rfl ?_
  refine go_bipush (q := 221) (z := (6 : Int32)) at_219 rfl rfl ?_
  refine go_aload (q := 223) at_221 rfl rfl rfl ?_
  refine go_bipush (q := 225) (z := (6 : Int32)) at_223 rfl rfl ?_
  refine go_iload (q := 227) at_225 rfl rfl ?_
  refine go_iload (q := 229) at_227 rfl rfl ?_
  refine go_iload (q := 231) at_229 rfl rfl ?_
  refine go_old fun Ob6 => ?_
  refine go_callS (q := 234) (y := (⟨"com/example/tallymark/tallymark/ScoringOfPinLaw", "at", "(Ljava/lang/String;IICC)C"⟩ : MethodName)) (W := 2) (argsL := [.ref y, .int (Int32.ofNat 6), .int z9, .int z10, .int z11]) (rest := [.int (6 : Int32), .ref b1]) (ws := []) (P := fun v h' L => ∃ out, ((∃ r : Int32, v = some (.int r) ∧ ¬ r < 0 ∧ ¬ (255 : Int32) < r) ∧ out = [] ∧ h' = m5) ∧ Fr Z.heap.size L ∧ Ext Z.heap h' ∧ ∀ x ∈ out, Z.heap.size ≤ x ∧ x < h'.size) at_231 rfl (hw _ (List.mem_of_getElem? (i := 23) rfl)) (hw _ (List.mem_of_getElem? (i := 24) rfl)) (hw _ (List.mem_of_getElem? (i := 25) rfl)) (hw _ (List.mem_of_getElem? (i := 26) rfl)) (by decide) (con_pay (conA hw O2 P5 O4 rG3 Ob6 (S.ext X6) 6 (by decide) z9 hc10 hc11) all0 (hw _ (List.mem_of_getElem? (i := 26) rfl)) (hw _ (List.mem_of_getElem? (i := 25) rfl)) (by decide) (by decide)) rfl rfl (lenOf pd_A rfl) (Nat.le_of_ble_eq_true rfl) (by decide) (by decide) (fun v h' L hP => ?_) all0 (fun v g6 L hP => ?_)
  · obtain ⟨out, ⟨-, -, rfl⟩, N, -⟩ := hP; exact ⟨N, Keep.refl _ _⟩
  obtain ⟨out, ⟨⟨r6, rfl, q6⟩, -, rfl⟩, -⟩ := hP
  refine ⟨[], all0, ?_⟩
  show Go l true Z consts_1 x.cls x.name code maxLocals ret room_1 (fun v _ _ => v = some (.int 1)) g6 _ _ _ 234 #[.val (.int p0), .val (.int p1), .val (.int p2), .val (.int p3), .val (.int b), .val (.int d), .unset, .val (.ref y), .val (.int z8), .val (.int z9), .val (.int z10), .val (.int z11), .val (.ref b1)] [(.int r6), (.int (6 : Int32)), (.ref b1)]
  refine go_castore (q := 235) (i := 6) at_234 rfl Q5 (by decide) rfl (Nat.le_of_ble_eq_true rfl) (List.mem_cons_self ..) fun m6 J6 Q6 => ?_
  have X7 : Ext h m6 := ext_keep X6 J6 (allS (Nat.le_of_eq eb1.symm) all0)
  refine go_aload (q := 237) at_235 rfl rfl rfl ?_
  refine go_bipush (q := 239) (z := (7 : Int32)) at_237 rfl rfl ?_
  refine go_aload (q := 241) at_239 rfl rfl rfl ?_
  refine go_bipush (q := 243) (z := (7 : Int32)) at_241 rfl rfl ?_
  refine go_iload (q := 245) at_243 rfl rfl ?_
  refine go_iload (q := 247) at_245 rfl rfl ?_
  refine go_iload (q := 249) at_247 rfl rfl ?_
  refine go_old fun Ob7 => ?_
  refine go_callS (q := 252) (y := (⟨"com/example/tallymark/tallymark/ScoringOfPinLaw", "at", "(Ljava/lang/String;IICC)C"⟩ : MethodName)) (W := 2) (argsL := [.ref y, .int (Int32.ofNat 7), .int z9, .int z10, .int z11]) (rest := [.int (7 : Int32), .ref b1]) (ws := []) (P := fun v h' L => ∃ out, ((∃ r : Int32, v = some (.int r) ∧ ¬ r < 0 ∧ ¬ (255 : Int32) < r) ∧ out = [] ∧ h' = m6) ∧ Fr Z.heap.size L ∧ Ext Z.heap h' ∧ ∀ x ∈ out, Z.heap.size ≤ x ∧ x < h'.size) at_249 rfl (hw _ (List.mem_of_getElem? (i := 23) rfl)) (hw _ (List.mem_of_getElem? (i := 24) rfl)) (hw _ (List.mem_of_getElem? (i := 25) rfl)) (hw _ (List.mem_of_getElem? (i := 26) rfl)) (by decide) (con_pay (conA hw O2 P5 O4 rG3 Ob7 (S.ext X7) 7 (by decide) z9 hc10 hc11) all0 (hw _ (List.mem_of_getElem? (i := 26) rfl)) (hw _ (List.mem_of_getElem? (i := 25) rfl)) (by decide) (by decide)) rfl rfl (lenOf pd_A rfl) (Nat.le_of_ble_eq_true rfl) (by decide) (by decide) (fun v h' L hP => ?_) all0 (fun v g7 L hP => ?_)
  · obtain ⟨out, ⟨-, -, rfl⟩, N, -⟩ := hP; exact ⟨N, Keep.refl _ _⟩
  obtain ⟨out, ⟨⟨r7, rfl, q7⟩, -, rfl⟩, -⟩ := hP
  refine ⟨[], all0, ?_⟩
  show Go l true Z consts_1 x.cls x.name code maxLocals ret room_1 (fun v _ _ => v = some (.int 1)) g7 _ _ _ 252 #[.val (.int p0), .val (.int p1), .val (.int p2), .val (.int p3), .val (.int b), .val (.int d), .unset, .val (.ref y), .val (.int z8), .val (.int z9), .val (.int z10), .val (.int z11), .val (.ref b1)] [(.int r7), (.int (7 : Int32)), (.ref b1)]
  refine go_castore (q := 253) (i := 7) at_252 rfl Q6 (by decide) rfl (Nat.le_of_ble_eq_true rfl) (List.mem_cons_self ..) fun m7 J7 Q7 => ?_
  have X8 : Ext h m7 := ext_keep X7 J7 (allS (Nat.le_of_eq eb1.symm) all0)
  refine go_aload (q := 255) at_253 rfl rfl rfl ?_
  refine go_bipush (q := 257) (z := (8 : Int32)) at_255 rfl rfl ?_
  refine go_aload (q := 259) at_257 rfl rfl rfl ?_
  refine go_bipush (q := 261) (z := (8 : Int32)) at_259 rfl rfl ?_
  refine go_iload (q := 263) at_261 rfl rfl ?_
  refine go_iload (q := 265) at_263 rfl rfl ?_
  refine go_iload (q := 267) at_265 rfl rfl ?_
  refine go_old fun Ob8 => ?_
  refine go_callS (q := 270) (y := (⟨"com/example/tallymark/tallymark/ScoringOfPinLaw", "at", "(Ljava/lang/String;IICC)C"⟩ : MethodName)) (W := 2) (argsL := [.ref y, .int (Int32.ofNat 8), .int z9, .int z10, .int z11]) (rest := [.int (8 : Int32), .ref b1]) (ws := []) (P := fun v h' L => ∃ out, ((∃ r : Int32, v = some (.int r) ∧ ¬ r < 0 ∧ ¬ (255 : Int32) < r) ∧ out = [] ∧ h' = m7) ∧ Fr Z.heap.size L ∧ Ext Z.heap h' ∧ ∀ x ∈ out, Z.heap.size ≤ x ∧ x < h'.size) at_267 rfl (hw _ (List.mem_of_getElem? (i := 23) rfl)) (hw _ (List.mem_of_getElem? (i := 24) rfl)) (hw _ (List.mem_of_getElem? (i := 25) rfl)) (hw _ (List.mem_of_getElem? (i := 26) rfl)) (by decide) (con_pay (conA hw O2 P5 O4 rG3 Ob8 (S.ext X8) 8 (by decide) z9 hc10 hc11) all0 (hw _ (List.mem_of_getElem? (i := 26) rfl)) (hw _ (List.mem_of_getElem? (i := 25) rfl)) (by decide) (by decide)) rfl rfl (lenOf pd_A rfl) (Nat.le_of_ble_eq_true rfl) (by decide) (by decide) (fun v h' L hP => ?_) all0 (fun v g8 L hP => ?_)
  · obtain ⟨out, ⟨-, -, rfl⟩, N, -⟩ := hP; exact ⟨N, Keep.refl _ _⟩
  obtain ⟨out, ⟨⟨r8, rfl, q8⟩, -, rfl⟩, -⟩ := hP
  refine ⟨[], all0, ?_⟩
  show Go l true Z consts_1 x.cls x.name code maxLocals ret room_1 (fun v _ _ => v = some (.int 1)) g8 _ _ _ 270 #[.val (.int p0), .val (.int p1), .val (.int p2), .val (.int p3), .val (.int b), .val (.int d), .unset, .val (.ref y), .val (.int z8), .val (.int z9), .val (.int z10), .val (.int z11), .val (.ref b1)] [(.int r8), (.int (8 : Int32)), (.ref b1)]
  refine go_castore (q := 271) (i := 8) at_270 rfl Q7 (by decide) rfl (Nat.le_of_ble_eq_true rfl) (List.mem_cons_self ..) fun m8 J8 Q8 => ?_
  have X9 : Ext h m8 := ext_keep X8 J8 (allS (Nat.le_of_eq eb1.symm) all0)
  refine go_aload (q := 273) at_271 rfl rfl rfl ?_
  refine go_bipush (q := 275) (z := (9 : Int32)) at_273 rfl rfl ?_
  refine go_aload (q := 277) at_275 rfl rfl rfl ?_
  refine go_bipush (q := 279) (z := (9 : Int32)) at_277 rfl rfl ?_
  refine go_iload (q := 281) at_279 rfl rfl ?_
  refine go_iload (q := 283) at_281 rfl rfl ?_
  refine go_iload (q := 285) at_283 rfl rfl ?_
  refine go_old fun Ob9 => ?_
  refine go_callS (q := 288) (y := (⟨"com/example/tallymark/tallymark/ScoringOfPinLaw", "at", "(Ljava/lang/String;IICC)C"⟩ : MethodName)) (W := 2) (argsL := [.ref y, .int (Int32.ofNat 9), .int z9, .int z10, .int z11]) (rest := [.int (9 : Int32), .ref b1]) (ws := []) (P := fun v h' L => ∃ out, ((∃ r : Int32, v = some (.int r) ∧ ¬ r < 0 ∧ ¬ (255 : Int32) < r) ∧ out = [] ∧ h' = m8) ∧ Fr Z.heap.size L ∧ Ext Z.heap h' ∧ ∀ x ∈ out, Z.heap.size ≤ x ∧ x < h'.size) at_285 rfl (hw _ (List.mem_of_getElem? (i := 23) rfl)) (hw _ (List.mem_of_getElem? (i := 24) rfl)) (hw _ (List.mem_of_getElem? (i := 25) rfl)) (hw _ (List.mem_of_getElem? (i := 26) rfl)) (by decide) (con_pay (conA hw O2 P5 O4 rG3 Ob9 (S.ext X9) 9 (by decide) z9 hc10 hc11) all0 (hw _ (List.mem_of_getElem? (i := 26) rfl)) (hw _ (List.mem_of_getElem? (i := 25) rfl)) (by decide) (by decide)) rfl rfl (lenOf pd_A rfl) (Nat.le_of_ble_eq_true rfl) (by decide) (by decide) (fun v h' L hP => ?_) all0 (fun v g9 L hP => ?_)
  · obtain ⟨out, ⟨-, -, rfl⟩, N, -⟩ := hP; exact ⟨N, Keep.refl _ _⟩
  obtain ⟨out, ⟨⟨r9, rfl, q9⟩, -, rfl⟩, -⟩ := hP
  refine ⟨[], all0, ?_⟩
  show Go l true Z consts_1 x.cls x.name code maxLocals ret room_1 (fun v _ _ => v = some (.int 1)) g9 _ _ _ 288 #[.val (.int p0), .val (.int p1), .val (.int p2), .val (.int p3), .val (.int b), .val (.int d), .unset, .val (.ref y), .val (.int z8), .val (.int z9), .val (.int z10), .val (.int z11), .val (.ref b1)] [(.int r9), (.int (9 : Int32)), (.ref b1)]
  refine go_castore (q := 289) (i := 9) at_288 rfl Q8 (by decide) rfl (Nat.le_of_ble_eq_true rfl) (List.mem_cons_self ..) fun m9 J9 Q9 => ?_
  have X10 : Ext h m9 := ext_keep X9 J9 (allS (Nat.le_of_eq eb1.symm) all0)
  refine go_aload (q := 291) at_289 rfl rfl rfl ?_
  refine go_bipush (q := 293) (z := (10 : Int32)) at_291 rfl rfl ?_
  refine go_aload (q := 295) at_293 rfl rfl rfl ?_
  refine go_bipush (q := 297) (z := (10 : Int32)) at_295 rfl rfl ?_
  refine go_iload (q := 299) at_297 rfl rfl ?_
  refine go_iload (q := 301) at_299 rfl rfl ?_
  refine go_iload (q := 303) at_301 rfl rfl ?_
  refine go_old fun Ob10 => ?_
  refine go_callS (q := 306) (y := (⟨"com/example/tallymark/tallymark/ScoringOfPinLaw", "at", "(Ljava/lang/String;IICC)C"⟩ : MethodName)) (W := 2) (argsL := [.ref y, .int (Int32.ofNat 10), .int z9, .int z10, .int z11]) (rest := [.int (10 : Int32), .ref b1]) (ws := []) (P := fun v h' L => ∃ out, ((∃ r : Int32, v = some (.int r) ∧ ¬ r < 0 ∧ ¬ (255 : Int32) < r) ∧ out = [] ∧ h' = m9) ∧ Fr Z.heap.size L ∧ Ext Z.heap h' ∧ ∀ x ∈ out, Z.heap.size ≤ x ∧ x < h'.size) at_303 rfl (hw _ (List.mem_of_getElem? (i := 23) rfl)) (hw _ (List.mem_of_getElem? (i := 24) rfl)) (hw _ (List.mem_of_getElem? (i := 25) rfl)) (hw _ (List.mem_of_getElem? (i := 26) rfl)) (by decide) (con_pay (conA hw O2 P5 O4 rG3 Ob10 (S.ext X10) 10 (by decide) z9 hc10 hc11) all0 (hw _ (List.mem_of_getElem? (i := 26) rfl)) (hw _ (List.mem_of_getElem? (i := 25) rfl)) (by decide) (by decide)) rfl rfl (lenOf pd_A rfl) (Nat.le_of_ble_eq_true rfl) (by decide) (by decide) (fun v h' L hP => ?_) all0 (fun v g10 L hP => ?_)
  · obtain ⟨out, ⟨-, -, rfl⟩, N, -⟩ := hP; exact ⟨N, Keep.refl _ _⟩
  obtain ⟨out, ⟨⟨r10, rfl, q10⟩, -, rfl⟩, -⟩ := hP
  refine ⟨[], all0, ?_⟩
  show Go l true Z consts_1 x.cls x.name code maxLocals ret room_1 (fun v _ _ => v = some (.int 1)) g10 _ _ _ 306 #[.val (.int p0), .val (.int p1), .val (.int p2), .val (.int p3), .val (.int b), .val (.int d), .unset, .val (.ref y), .val (.int z8), .val (.int z9), .val (.int z10), .val (.int z11), .val (.ref b1)] [(.int r10), (.int (10 : Int32)), (.ref b1)]
  refine go_castore (q := 307) (i := 10) at_306 rfl Q9 (by decide) rfl (Nat.le_of_ble_eq_true rfl) (List.mem_cons_self ..) fun m10 J10 Q10 => ?_
  have X11 : Ext h m10 := ext_keep X10 J10 (allS (Nat.le_of_eq eb1.symm) all0)
  refine go_iload (q := 309) at_307 rfl rfl ?_
  refine go_aload (q := 311) at_309 rfl rfl rfl ?_
  refine go_old fun OM => ?_
  refine go_callS (q := 314) (y := (⟨"com/example/tallymark/tallymark/ScoringOfPinLaw", "make", "(I[C)Ljava/lang/String;"⟩ : MethodName)) (W := 0) (argsL := [.int z8, .ref b1]) (rest := []) (ws := []) (P := fun v h' L => ∃ out, (QM Z m10 v h' out) ∧ Fr Z.heap.size L ∧ Ext Z.heap h' ∧ ∀ x ∈ out, Z.heap.size ≤ x ∧ x < h'.size) at_311 rfl (hw _ (List.mem_of_getElem? (i := 49) rfl)) (hw _ (List.mem_of_getElem? (i := 50) rfl)) (hw _ (List.mem_of_getElem? (i := 25) rfl)) (hw _ (List.mem_of_getElem? (i := 51) rfl)) (by decide) (con_pay (conM hw O2 P5 OM Q10 (by rw [nar_ch q0]; exact q0) (by rw [nar_ch q1]; exact q1) (by rw [nar_ch q2]; exact q2) (by rw [nar_ch q3]; exact q3) (by rw [nar_ch q4]; exact q4) (by rw [nar_ch q5]; exact q5) (by rw [nar_ch q6]; exact q6) (by rw [nar_ch q7]; exact q7) (by rw [nar_ch q8]; exact q8) (by rw [nar_ch q9]; exact q9) (by rw [nar_ch q10]; exact q10)) all0 (hw _ (List.mem_of_getElem? (i := 51) rfl)) (hw _ (List.mem_of_getElem? (i := 25) rfl)) (by decide) (by decide)) rfl rfl (lenOf pd_M rfl) (Nat.le_refl _) (by decide) (by decide) (fun v h' L hP => ?_) all0 (fun v hh L hP => ?_)
  · obtain ⟨out, ⟨-, _, _, -, -, E⟩, N, -⟩ := hP; exact ⟨N, keep_ext E _⟩
  obtain ⟨out, ⟨-, sm, cs, rfl, Sm, XM⟩, -⟩ := hP
  refine ⟨[], all0, ?_⟩
  show Go l true Z consts_1 x.cls x.name code maxLocals ret room_1 (fun v _ _ => v = some (.int 1)) hh _ _ _ 314 #[.val (.int p0), .val (.int p1), .val (.int p2), .val (.int p3), .val (.int b), .val (.int d), .unset, .val (.ref y), .val (.int z8), .val (.int z9), .val (.int z10), .val (.int z11), .val (.ref b1)] [(.ref sm)]
  refine go_astore (q := 316) (l' := #[.val (.int p0), .val (.int p1), .val (.int p2), .val (.int p3), .val (.int b), .val (.int d), .val (.ref sm), .val (.ref y), .val (.int z8), .val (.int z9), .val (.int z10), .val (.int z11), .val (.ref b1)]) at_314 rfl rfl rfl ?_
  refine go_more (kc2 := 6) (kn2 := 100) (by decide) (by decide) ?_
  exact own_316B hw hEL O2 P5 O4 rG3 K0 K1 K2 KV AV EV F0 F1 F2 S0 S1 S2 p0 p1 p2 p3 b d z8 z9 z10 z11 y b1 Sm
set_option maxRecDepth 65536 in
set_option maxHeartbeats 4000000 in
theorem own_59 {l : Launch} {Z : State} {a0 : Array Value} {G1 : Int32} {G3 : Value} {va c0 c1 c2 s0 s1 s2 : Addr} {kV : ClassId} (hw : ∀ d ∈ tables_1, d.before a0 Z = true) (hEL : EW Z a0 consts_1) (O2 : Sta Z Z.heap "java/lang/String" "COMPACT_STRINGS" "Z" (.int G1)) (P5 : ¬ G1 = (0 : Int32)) (O4 : Sta Z Z.heap "jdk/internal/util/Preconditions" "SIOOBE_FORMATTER" "Ljava/util/function/BiFunction;" G3) (rG3 : G3.isRef = true) (K0 : Sta Z Z.heap "com/example/tallymark/tallymark/Scoring" "PROPORTION" "Lcom/example/tallymark/tallymark/Scoring;" (.ref c0)) (K1 : Sta Z Z.heap "com/example/tallymark/tallymark/Scoring" "COHORT" "Lcom/example/tallymark/tallymark/Scoring;" (.ref c1)) (K2 : Sta Z Z.heap "com/example/tallymark/tallymark/Scoring" "RATIO" "Lcom/example/tallymark/tallymark/Scoring;" (.ref c2)) (KV : Sta Z Z.heap "com/example/tallymark/tallymark/Scoring" "$VALUES" "[Lcom/example/tallymark/tallymark/Scoring;" (.ref va)) (AV : Arv Z Z.heap va kV (.object "com/example/tallymark/tallymark/Scoring") 3 [.ref c0, .ref c1, .ref c2] .null) (EV : Exa Z Z.heap va "[Lcom/example/tallymark/tallymark/Scoring;") (F0 : Fld Z Z.heap c0 "com/example/tallymark/tallymark/Scoring" "code" "Ljava/lang/String;" (.ref s0)) (F1 : Fld Z Z.heap c1 "com/example/tallymark/tallymark/Scoring" "code" "Ljava/lang/String;" (.ref s1)) (F2 : Fld Z Z.heap c2 "com/example/tallymark/tallymark/Scoring" "code" "Ljava/lang/String;" (.ref s2)) (S0 : OStr Z Z.heap s0 tx0) (S1 : OStr Z Z.heap s1 tx1) (S2 : OStr Z Z.heap s2 tx2) (p0 p1 p2 p3 b d : Int32) {h : Heap} {y : Addr} {bs : List Int32} {mine : List Addr} (S : OStr Z h y bs) : Go l true Z consts_1 x.cls x.name code maxLocals ret room_1 (fun v _ _ => v = some (.int 1)) h mine 2 44 59 #[.val (.int p0), .val (.int p1), .val (.int p2), .val (.int p3), .val (.int b), .val (.int d), .unset, .unset, .unset, .unset, .unset, .unset, .unset] [(.ref y)] := by
  refine go_astore (q := 61) (l' := #[.val (.int p0), .val (.int p1), .val (.int p2), .val (.int p3), .val (.int b), .val (.int d), .unset, .val (.ref y), .unset, .unset, .unset, .unset, .unset]) at_59 rfl rfl rfl ?_
  refine go_aload (q := 63) at_61 rfl rfl rfl ?_
  refine go_len (q := 66) (W := 0) at_63 rfl (hw _ (List.mem_of_getElem? (i := 8) rfl)) hw O2 P5 S rfl (by decide) (Nat.le_refl _) (by decide) (by decide) (by decide) ?_
  refine go_iload (q := 68) at_66 rfl rfl ?_
  refine go_iconst (q := 69) (z := (1 : Int32)) at_68 rfl rfl ?_
  refine go_icmp (q := 76) (q2 := 72) at_69 (by decide) (by decide) rfl (fun _ => ?_) (fun _ => ?_)
  rotate_left
  · refine go_iconst (q := 73) (z := (-1 : Int32)) at_72 rfl rfl ?_
    refine go_goto (q := 87) at_73 (by decide) (by decide) ?_
    refine go_iadd (q := 88) at_87 rfl ?_
    exact own_88 hw hEL O2 P5 O4 rG3 K0 K1 K2 KV AV EV F0 F1 F2 S0 S1 S2 p0 p1 p2 p3 b d _ S
  refine go_iload (q := 78) at_76 rfl rfl ?_
  refine go_iconst (q := 79) (z := (2 : Int32)) at_78 rfl rfl ?_
  refine go_icmp (q := 86) (q2 := 82) at_79 (by decide) (by decide) rfl (fun _ => ?_) (fun _ => ?_)
  · refine go_iconst (q := 87) (z := (0 : Int32)) at_86 rfl rfl ?_
    refine go_iadd (q := 88) at_87 rfl ?_
    exact own_88 hw hEL O2 P5 O4 rG3 K0 K1 K2 KV AV EV F0 F1 F2 S0 S1 S2 p0 p1 p2 p3 b d _ S
  · refine go_iconst (q := 83) (z := (1 : Int32)) at_82 rfl rfl ?_
    refine go_goto (q := 87) at_83 (by decide) (by decide) ?_
    refine go_iadd (q := 88) at_87 rfl ?_
    exact own_88 hw hEL O2 P5 O4 rG3 K0 K1 K2 KV AV EV F0 F1 F2 S0 S1 S2 p0 p1 p2 p3 b d _ S
theorem ef_law (m : MethodId) (p0 p1 p2 p3 : Int32) : entryFrame m #[(.int p0), (.int p1), (.int p2), (.int p3)] maxLocals = mkF m 0 #[.val (.int p0), .val (.int p1), .val (.int p2), .val (.int p3), .unset, .unset, .unset, .unset, .unset, .unset, .unset, .unset, .unset] [] := by first | (simp [entryFrame, mkF, argsToLocals, Value.category, maxLocals]; done) | rfl
set_option maxRecDepth 65536 in
set_option maxHeartbeats 4000000 in
theorem own_law {l : Launch} {Z : State} {a0 : Array Value} {G1 : Int32} {G3 : Value} {va c0 c1 c2 s0 s1 s2 : Addr} {kV : ClassId} (hw : ∀ d ∈ tables_1, d.before a0 Z = true) (hEL : EW Z a0 consts_1) (O2 : Sta Z Z.heap "java/lang/String" "COMPACT_STRINGS" "Z" (.int G1)) (P5 : ¬ G1 = (0 : Int32)) (O4 : Sta Z Z.heap "jdk/internal/util/Preconditions" "SIOOBE_FORMATTER" "Ljava/util/function/BiFunction;" G3) (rG3 : G3.isRef = true) (K0 : Sta Z Z.heap "com/example/tallymark/tallymark/Scoring" "PROPORTION" "Lcom/example/tallymark/tallymark/Scoring;" (.ref c0)) (K1 : Sta Z Z.heap "com/example/tallymark/tallymark/Scoring" "COHORT" "Lcom/example/tallymark/tallymark/Scoring;" (.ref c1)) (K2 : Sta Z Z.heap "com/example/tallymark/tallymark/Scoring" "RATIO" "Lcom/example/tallymark/tallymark/Scoring;" (.ref c2)) (KV : Sta Z Z.heap "com/example/tallymark/tallymark/Scoring" "$VALUES" "[Lcom/example/tallymark/tallymark/Scoring;" (.ref va)) (AV : Arv Z Z.heap va kV (.object "com/example/tallymark/tallymark/Scoring") 3 [.ref c0, .ref c1, .ref c2] .null) (EV : Exa Z Z.heap va "[Lcom/example/tallymark/tallymark/Scoring;") (F0 : Fld Z Z.heap c0 "com/example/tallymark/tallymark/Scoring" "code" "Ljava/lang/String;" (.ref s0)) (F1 : Fld Z Z.heap c1 "com/example/tallymark/tallymark/Scoring" "code" "Ljava/lang/String;" (.ref s1)) (F2 : Fld Z Z.heap c2 "com/example/tallymark/tallymark/Scoring" "code" "Ljava/lang/String;" (.ref s2)) (S0 : OStr Z Z.heap s0 tx0) (S1 : OStr Z Z.heap s1 tx1) (S2 : OStr Z Z.heap s2 tx2) (p0 p1 p2 p3 : Int32) (ws : List Jvm.Cond) : Con l true Z consts_1 x code maxLocals ret ws room_1 #[(.int p0), (.int p1), (.int p2), (.int p3)] Z.heap [] (fun v _ _ => v = some (.int 1)) := by
  refine con_of_go pn_ScoringOfPinLaw (fun m => ef_law m p0 p1 p2 p3) (ext_refl _) ⟨a0, hEL⟩ ?_
  refine go_iloadN (q := 1) at_0 rfl rfl ?_
  refine go_iconst (q := 2) (z := (3 : Int32)) at_1 rfl rfl ?_
  refine go_iand (q := 3) at_2 rfl ?_
  generalize p0 &&& (3 : Int32) = b
  refine go_istore (q := 5) (l' := #[.val (.int p0), .val (.int p1), .val (.int p2), .val (.int p3), .val (.int b), .unset, .unset, .unset, .unset, .unset, .unset, .unset, .unset]) at_3 rfl rfl ?_
  refine go_iloadN (q := 6) at_5 rfl rfl ?_
  refine go_iconst (q := 7) (z := (2 : Int32)) at_6 rfl rfl ?_
  refine go_iushr (q := 8) at_7 rfl ?_
  refine go_iconst (q := 9) (z := (3 : Int32)) at_8 rfl rfl ?_
  refine go_iand (q := 10) at_9 rfl ?_
  generalize XT.ushr p0 (2 : Int32) &&& (3 : Int32) = d
  refine go_istore (q := 12) (l' := #[.val (.int p0), .val (.int p1), .val (.int p2), .val (.int p3), .val (.int b), .val (.int d), .unset, .unset, .unset, .unset, .unset, .unset, .unset]) at_10 rfl rfl ?_
  refine go_iload (q := 14) at_12 rfl rfl ?_
  refine go_iconst (q := 15) (z := (3 : Int32)) at_14 rfl rfl ?_
  refine go_icmp (q := 36) (q2 := 18) at_15 (by decide) (by decide) rfl (fun _ => ?_) (fun _ => ?_)
  rotate_left
  · refine go_iload (q := 20) at_18 rfl rfl ?_
    refine go_iconst (q := 21) (z := (1 : Int32)) at_20 rfl rfl ?_
    refine go_iand (q := 22) at_21 rfl ?_
    refine go_if (q := 29) (q2 := 25) at_22 (by decide) (by decide) rfl (fun _ => ?_) (fun _ => ?_)
    rotate_left
    · refine go_null (q := 26) at_25 rfl ?_
      refine go_goto (q := 31) at_26 (by decide) (by decide) ?_
      refine go_astore (q := 33) (l' := #[.val (.int p0), .val (.int p1), .val (.int p2), .val (.int p3), .val (.int b), .val (.int d), .val (.null), .unset, .unset, .unset, .unset, .unset, .unset]) at_31 rfl rfl rfl ?_
      refine go_goto (q := 316) at_33 (by decide) (by decide) ?_
      exact own_316N hw hEL O2 P5 O4 rG3 K0 K1 K2 KV AV EV F0 F1 F2 S0 S1 S2 p0 p1 p2 p3 b d
    refine go_lit (q := 31) (cs := []) (n := 0) at_29 rfl rfl (hw _ (List.mem_of_getElem? (i := 111) rfl)) hw hEL (List.mem_of_getElem? (i := 0) rfl) ⟨by decide, by first | rfl | decide +kernel⟩ (by decide) (by decide) (by decide) (by decide) (by decide) (by decide) fun h1 y E1 L1 _ => ?_
    refine go_astore (q := 33) (l' := #[.val (.int p0), .val (.int p1), .val (.int p2), .val (.int p3), .val (.int b), .val (.int d), .val (.ref y), .unset, .unset, .unset, .unset, .unset, .unset]) at_31 rfl rfl rfl ?_
    refine go_goto (q := 316) at_33 (by decide) (by decide) ?_
    exact own_316A hw hEL O2 P5 O4 rG3 K0 K1 K2 KV AV EV F0 F1 F2 S0 S1 S2 p0 p1 p2 p3 b d L1
  refine go_iload (q := 38) at_36 rfl rfl ?_
  refine go_if (q := 46) (q2 := 41) at_38 (by decide) (by decide) rfl (fun _ => ?_) (fun _ => ?_)
  rotate_left
  · refine go_lit (q := 43) (cs := tx0) (n := 40) at_41 rfl rfl (hw _ (List.mem_of_getElem? (i := 0) rfl)) hw hEL (List.mem_of_getElem? (i := 1) rfl) ⟨by decide, by first | rfl | decide +kernel⟩ (by decide) (by decide) (by decide) (by decide) (by decide) (by decide) fun h1 y E1 L1 _ => ?_
    refine go_goto (q := 59) at_43 (by decide) (by decide) ?_
    exact own_59 hw hEL O2 P5 O4 rG3 K0 K1 K2 KV AV EV F0 F1 F2 S0 S1 S2 p0 p1 p2 p3 b d L1
  refine go_iload (q := 48) at_46 rfl rfl ?_
  refine go_iconst (q := 49) (z := (1 : Int32)) at_48 rfl rfl ?_
  refine go_icmp (q := 57) (q2 := 52) at_49 (by decide) (by decide) rfl (fun _ => ?_) (fun _ => ?_)
  · refine go_lit (q := 59) (cs := tx2) (n := 40) at_57 rfl rfl (hw _ (List.mem_of_getElem? (i := 110) rfl)) hw hEL (List.mem_of_getElem? (i := 3) rfl) ⟨by decide, by first | rfl | decide +kernel⟩ (by decide) (by decide) (by decide) (by decide) (by decide) (by decide) fun h1 y E1 L1 _ => ?_
    exact own_59 hw hEL O2 P5 O4 rG3 K0 K1 K2 KV AV EV F0 F1 F2 S0 S1 S2 p0 p1 p2 p3 b d L1
  · refine go_lit (q := 54) (cs := tx1) (n := 40) at_52 rfl rfl (hw _ (List.mem_of_getElem? (i := 109) rfl)) hw hEL (List.mem_of_getElem? (i := 2) rfl) ⟨by decide, by first | rfl | decide +kernel⟩ (by decide) (by decide) (by decide) (by decide) (by decide) (by decide) fun h1 y E1 L1 _ => ?_
    refine go_goto (q := 59) at_54 (by decide) (by decide) ?_
    exact own_59 hw hEL O2 P5 O4 rG3 K0 K1 K2 KV AV EV F0 F1 F2 S0 S1 S2 p0 p1 p2 p3 b d L1
set_option maxRecDepth 65536 in
set_option maxHeartbeats 4000000 in
theorem comes_1 {Post : Tables → Env → Array Value → State → Outcome → State → Prop} (hpost : ∀ tb e args s v u, (limb_1_1.after args s (.returned v) u = true ∧ limb_1_2.after args s (.returned v) u = true ∧ True) → FramedW s (.returned v) u (Jvm.fieldLocs frame_1_writes args s ++ Jvm.arrayLocs frame_1_arrays args s ++ Jvm.staticLocs frame_1_statics s) 32 4288 → Post tb e args s (.returned v) u) :
    ArmFor flags0 classFile x code maxLocals ret World_1 tables_1 room_1 Calls_1 rest_1 Pre_1 Post := by
  intro l hfl _ _ p e ha hc hk s m args below hf hA hF happ hP
  obtain ⟨hcalls, hrest, hpre⟩ := hP
  obtain ⟨-, -, -, hnamed, -, -, -, hat⟩ := (Spec.applies_iff hf).mp happ
  obtain ⟨hg, hn⟩ := and_e (Cond.before_iff.mp (show (Jvm.Cond.and given_1 narrow_1).before args s = true from hpre))
  obtain ⟨h1, g0⟩ := and_e hg
  obtain ⟨q0, g1⟩ := and_e g0
  obtain ⟨q1, g2⟩ := and_e g1
  obtain ⟨q2, g3⟩ := and_e g2
  have q3 := g3
  obtain ⟨w0, w1, w2, w3, rfl⟩ : ∃ w0 w1 w2 w3 : Value, args = #[w0, w1, w2, w3] := by
    have hs : args.size = 4 := by simpa [Cond.value, given_1] using h1
    obtain ⟨L⟩ := args
    match L, hs with
    | [w0, w1, w2, w3], _ => exact ⟨w0, w1, w2, w3, rfl⟩
  have hw := fun d (hd : d ∈ tables_1) => atoms_spec (ws := Jvm.Cond.code x code maxLocals ret :: tables_1) hat d (List.mem_cons_of_mem _ hd)
  obtain ⟨hsets, hown0⟩ := atoms_of _ (rest_1_c_eq ▸ (show rest_1_c.before _ s = true from hrest))
  have hfit : Fit s := fun {y c} hc i hi => by
    obtain ⟨ha, rfl⟩ := Array.getElem?_eq_some_iff.mp hc
    have q := List.all_eq_true.mp ((Array.all_eq_true_iff_forall_mem.mp hF) _ (Array.getElem_mem ha)) i (List.mem_range.mpr hi)
    simpa [Array.getElem?_eq_getElem hi] using q
  obtain ⟨i0, e0⟩ := is_v q0
  obtain rfl : w0 = (.int i0) := Option.some.inj e0
  obtain ⟨i1, e1⟩ := is_v q1
  obtain rfl : w1 = (.int i1) := Option.some.inj e1
  obtain ⟨i2, e2⟩ := is_v q2
  obtain rfl : w2 = (.int i2) := Option.some.inj e2
  obtain ⟨i3, e3⟩ := is_v q3
  obtain rfl : w3 = (.int i3) := Option.some.inj e3
  have n5 := not_v (Cond.before_iff.mp (hsets _ (List.mem_of_getElem? (i := 2) rfl)))
  obtain ⟨i11, e10⟩ := is_v (Cond.before_iff.mp (hsets _ (List.mem_of_getElem? (i := 1) rfl)))
  have S12 : Sta s s.heap "java/lang/String" "COMPACT_STRINGS" "Z" (.int i11) := Sta.start e10 (Or.inl (hsets _ (List.mem_of_getElem? (i := 0) rfl)))
  have c17 : ¬ (i11 = (0 : Int32)) := gotF (Cond.eq_ints e10 (Term.int_eval (0))) n5
  obtain ⟨v13, e14, r15⟩ := isR_v (Cond.before_iff.mp (hsets _ (List.mem_of_getElem? (i := 8) rfl)))
  have S16 : Sta s s.heap "jdk/internal/util/Preconditions" "SIOOBE_FORMATTER" "Ljava/util/function/BiFunction;" v13 := Sta.start e14 (Or.inl (hsets _ (List.mem_of_getElem? (i := 7) rfl)))
  obtain ⟨y0, u0⟩ := and_e hn
  obtain ⟨y1, u1⟩ := and_e u0
  obtain ⟨y2, u2⟩ := and_e u1
  obtain ⟨y3, u3⟩ := and_e u2
  obtain ⟨y4, u4⟩ := and_e u3
  obtain ⟨y5, u5⟩ := and_e u4
  obtain ⟨y6, u6⟩ := and_e u5
  obtain ⟨y7, u7⟩ := and_e u6
  obtain ⟨y8, u8⟩ := and_e u7
  obtain ⟨y9, u9⟩ := and_e u8
  obtain ⟨y10, u10⟩ := and_e u9
  obtain ⟨y11, u11⟩ := and_e u10
  obtain ⟨y12, u12⟩ := and_e u11
  obtain ⟨y13, u13⟩ := and_e u12
  obtain ⟨y14, u14⟩ := and_e u13
  obtain ⟨y15, u15⟩ := and_e u14
  obtain ⟨y16, u16⟩ := and_e u15
  obtain ⟨y17, u17⟩ := and_e u16
  obtain ⟨y18, u18⟩ := and_e u17
  obtain ⟨y19, u19⟩ := and_e u18
  obtain ⟨y20, u20⟩ := and_e u19
  obtain ⟨y21, u21⟩ := and_e u20
  obtain ⟨y22, u22⟩ := and_e u21
  obtain ⟨y23, u23⟩ := and_e u22
  obtain ⟨y24, u24⟩ := and_e u23
  obtain ⟨y25, u25⟩ := and_e u24
  obtain ⟨y26, u26⟩ := and_e u25
  obtain ⟨y27, u27⟩ := and_e u26
  obtain ⟨y28, u28⟩ := and_e u27
  obtain ⟨y29, u29⟩ := and_e u28
  obtain ⟨y30, u30⟩ := and_e u29
  obtain ⟨y31, u31⟩ := and_e u30
  obtain ⟨y32, u32⟩ := and_e u31
  obtain ⟨y33, u33⟩ := and_e u32
  obtain ⟨y34, u34⟩ := and_e u33
  obtain ⟨y35, u35⟩ := and_e u34
  obtain ⟨y36, u36⟩ := and_e u35
  obtain ⟨y37, u37⟩ := and_e u36
  obtain ⟨y38, u38⟩ := and_e u37
  obtain ⟨y39, u39⟩ := and_e u38
  obtain ⟨y40, u40⟩ := and_e u39
  obtain ⟨va, fv⟩ := arr_v y0
  have TV : Sta s s.heap "com/example/tallymark/tallymark/Scoring" "$VALUES" "[Lcom/example/tallymark/tallymark/Scoring;" (.ref va) := Sta.start fv (Or.inl (hw _ (List.mem_of_getElem? (i := 89) rfl)))
  have EV : Exa s s.heap va "[Lcom/example/tallymark/tallymark/Scoring;" := Exa.start fv y1
  obtain ⟨cl, hA⟩ := Arr.start fv y0
  obtain ⟨lq, le⟩ := own_len fv hA y2
  obtain ⟨c0, f0⟩ := exa_v y3
  obtain ⟨c1, f1⟩ := exa_v y4
  obtain ⟨c2, f2⟩ := exa_v y5
  have AV : Arv s s.heap va cl.cls (.object "com/example/tallymark/tallymark/Scoring") 3 [.ref c0, .ref c1, .ref c2] .null := Arv.start hfit hA lq le (by decide) rfl ⟨own_elemV (j := 0) fv hA f0 rfl, own_elemV (j := 1) fv hA f1 rfl, own_elemV (j := 2) fv hA f2 rfl, trivial⟩
  have T0 : Sta s s.heap "com/example/tallymark/tallymark/Scoring" "PROPORTION" "Lcom/example/tallymark/tallymark/Scoring;" (.ref c0) := Sta.start (own_eqR f0 y20) (Or.inr ⟨(hw _ (List.mem_of_getElem? (i := 75) rfl)), (hw _ (List.mem_of_getElem? (i := 117) rfl))⟩)
  obtain ⟨s0, fs0⟩ := exa_v y6
  have F0 : Fld s s.heap c0 "com/example/tallymark/tallymark/Scoring" "code" "Ljava/lang/String;" (.ref s0) := Fld.start ((fld_at f0).symm.trans fs0)
  obtain ⟨t0, ft0⟩ := arr_v y8
  obtain ⟨cl0, hA0⟩ := Arr.start ft0 y8
  obtain ⟨lq0, le0⟩ := own_len ft0 hA0 y9
  have S0 : OStr s s.heap s0 tx0 := ⟨t0, cl0.cls, Exa.start fs0 y6, Fld.start ((fld_at fs0).symm.trans ft0), Fld.start ((fld_at fs0).symm.trans (own_eqI y7)), Arv.start hfit hA0 lq0 le0 (by decide) rfl ⟨own_elemI (j := 0) ft0 hA0 y21 rfl, own_elemI (j := 1) ft0 hA0 y22 rfl, own_elemI (j := 2) ft0 hA0 y23 rfl, own_elemI (j := 3) ft0 hA0 y24 rfl, own_elemI (j := 4) ft0 hA0 y25 rfl, own_elemI (j := 5) ft0 hA0 y26 rfl, own_elemI (j := 6) ft0 hA0 y27 rfl, own_elemI (j := 7) ft0 hA0 y28 rfl, own_elemI (j := 8) ft0 hA0 y29 rfl, own_elemI (j := 9) ft0 hA0 y30 rfl, trivial⟩, by decide, by decide⟩
  have T1 : Sta s s.heap "com/example/tallymark/tallymark/Scoring" "COHORT" "Lcom/example/tallymark/tallymark/Scoring;" (.ref c1) := Sta.start (own_eqR f1 y18) (Or.inr ⟨(hw _ (List.mem_of_getElem? (i := 75) rfl)), (hw _ (List.mem_of_getElem? (i := 113) rfl))⟩)
  obtain ⟨s1, fs1⟩ := exa_v y10
  have F1 : Fld s s.heap c1 "com/example/tallymark/tallymark/Scoring" "code" "Ljava/lang/String;" (.ref s1) := Fld.start ((fld_at f1).symm.trans fs1)
  obtain ⟨t1, ft1⟩ := arr_v y12
  obtain ⟨cl1, hA1⟩ := Arr.start ft1 y12
  obtain ⟨lq1, le1⟩ := own_len ft1 hA1 y13
  have S1 : OStr s s.heap s1 tx1 := ⟨t1, cl1.cls, Exa.start fs1 y10, Fld.start ((fld_at fs1).symm.trans ft1), Fld.start ((fld_at fs1).symm.trans (own_eqI y11)), Arv.start hfit hA1 lq1 le1 (by decide) rfl ⟨own_elemI (j := 0) ft1 hA1 y31 rfl, own_elemI (j := 1) ft1 hA1 y32 rfl, own_elemI (j := 2) ft1 hA1 y33 rfl, own_elemI (j := 3) ft1 hA1 y34 rfl, own_elemI (j := 4) ft1 hA1 y35 rfl, own_elemI (j := 5) ft1 hA1 y36 rfl, trivial⟩, by decide, by decide⟩
  have T2 : Sta s s.heap "com/example/tallymark/tallymark/Scoring" "RATIO" "Lcom/example/tallymark/tallymark/Scoring;" (.ref c2) := Sta.start (own_eqR f2 y19) (Or.inr ⟨(hw _ (List.mem_of_getElem? (i := 75) rfl)), (hw _ (List.mem_of_getElem? (i := 115) rfl))⟩)
  obtain ⟨s2, fs2⟩ := exa_v y14
  have F2 : Fld s s.heap c2 "com/example/tallymark/tallymark/Scoring" "code" "Ljava/lang/String;" (.ref s2) := Fld.start ((fld_at f2).symm.trans fs2)
  obtain ⟨t2, ft2⟩ := arr_v y16
  obtain ⟨cl2, hA2⟩ := Arr.start ft2 y16
  obtain ⟨lq2, le2⟩ := own_len ft2 hA2 y17
  have S2 : OStr s s.heap s2 tx2 := ⟨t2, cl2.cls, Exa.start fs2 y14, Fld.start ((fld_at fs2).symm.trans ft2), Fld.start ((fld_at fs2).symm.trans (own_eqI y15)), Arv.start hfit hA2 lq2 le2 (by decide) rfl ⟨own_elemI (j := 0) ft2 hA2 y37 rfl, own_elemI (j := 1) ft2 hA2 y38 rfl, own_elemI (j := 2) ft2 hA2 y39 rfl, own_elemI (j := 3) ft2 hA2 y40 rfl, own_elemI (j := 4) ft2 hA2 u40 rfl, trivial⟩, by decide, by decide⟩
  have hEL : EW s _ consts_1 := EW.cons (hw _ (List.mem_of_getElem? (i := 111) rfl)) (by decide) (EW.cons (hw _ (List.mem_of_getElem? (i := 0) rfl)) (by decide) (EW.cons (hw _ (List.mem_of_getElem? (i := 109) rfl)) (by decide) (EW.cons (hw _ (List.mem_of_getElem? (i := 110) rfl)) (by decide) (EW.nil))))
  have hCH : CHv s consts_1 s.vm s.heap := CHv.start hEL (fun p hp => hcalls.1 p hp) (hsets _ (List.mem_of_getElem? (i := 2) rfl)) (hw _ (List.mem_of_getElem? (i := 3) rfl)) (hw _ (List.mem_of_getElem? (i := 2) rfl))
  obtain ⟨n, o, h1, h2, h3, v, L, out, rfl, hv, N, -, -, -, hq⟩ := own_law hw hEL S12 c17 S16 r15 T0 T1 T2 TV AV EV F0 F1 F2 S0 S1 S2 i0 i1 i2 i3 tables_1 p e ha hc hk s m _ below hf ((Spec.applies_iff_loose hf).mp happ).1 ⟨rfl, State.Warmed39.refl s, rfl, hCH, Mine.nil⟩ trivial
  subst hv
  refine ⟨n, _, h1, h2, h3, hpost _ _ _ _ _ _ ⟨Cond.after_iff.mpr rfl, Cond.after_iff.mpr (eq_i res_at (Term.int_eval (1)) rfl), trivial⟩ ⟨hq.1.1, hq.1.2.1, hq.1.2.2.1, (hq.1.2.2.2.sift fun y hy => Or.inr (N y hy)).mono (by decide) (by decide)⟩⟩
theorem main_1_1 : Claimed_1_1 := comes_1 fun _ _ _ _ _ _ h hF => ⟨h.1, hF⟩
theorem main_1_2 : Claimed_1_2 := comes_1 fun _ _ _ _ _ _ h hF => ⟨h.2.1, hF⟩
end Jvm.Pilot.@@N@@
namespace Jvm.Pilot.@@N@@
open Jvm Jvm.ClassFile Sem Op Lib Jvm.Free Jvm.Stand Jvm.Pilot.@@N@@.Jvm.D
/-! MADE BY PROGRAM (witnessworld.py) out of the Statement's table words and the real class files: 25 classes; the members and pool entries that the words name. The judged class is class 1, her method 1. -/
namespace start1
open Jvm.ClassFile
def u (s : String) : CpInfo := .utf8 (stringToUtf16 s)
/-- a pool by its gaps: so many unusable entries, then the entry; so many at the end -/
def gap : Nat → List CpInfo → List CpInfo
  | 0, r => r
  | n + 1, r => .unusable :: gap n r
def poolList (es : List (Nat × CpInfo)) (last : Nat) : List CpInfo := es.foldr (fun e r => gap e.1 (e.2 :: r)) (gap last [])
def pool (es : List (Nat × CpInfo)) (last : Nat) : Array CpInfo := ⟨poolList es last⟩
def fileOf (pool : Array CpInfo) (this : Nat) (attrs : Array Attribute := #[]) (ms : Array MethodInfo := #[]) (fl : Nat := 33) (sup : Nat := 0) (ifs : Array Nat := #[]) (fds : Array FieldInfo := #[]) : ClassFile where
  minorVersion := 0
  majorVersion := 65
  constantPool := pool
  accessFlags := fl
  thisClass := this
  superClass := sup
  interfaces := ifs
  fields := fds
  methods := ms
  attributes := attrs
def plain (name : String) (sup : Option ClassId) : Class where
  name := name
  kind := .ordinary
  loader := none
  accessFlags := 33
  super := sup
  interfaces := #[]
  cf := none
  fields := #[]
  methods := #[]
  instanceTypes := #[]
  staticTypes := #[]
  resolved := #[]
  callSites := []
  init := .initialized
  statics := none
  mirror := none

def pool0 : Array CpInfo := pool [(5, u "<init>"), (0, u "()V"), (1, .class_ 10), (1, u "java/lang/Object"), (85, u "clone"), (0, u "()Ljava/lang/Object;")] 26

def k0c0 : Code := { maxStack := 0, maxLocals := 1, code := object_method_1_code, exceptionTable := #[], attributes := #[] }
def k0m0 : Method := { name := "<init>", desc := "()V", sig := { parameters := [], returnType := none }, accessFlags := 1, code := some k0c0 }
def k0m1 : Method := { name := "clone", desc := "()Ljava/lang/Object;", sig := { parameters := [], returnType := some (.object "java/lang/Object") }, accessFlags := 260, code := none }
/-- java/lang/Object -/
def k0 : Class := { plain "java/lang/Object" none with
  accessFlags := 33
  interfaces := #[]
  cf := some (fileOf pool0 8 #[] #[{ accessFlags := 1, nameIndex := 5, descriptorIndex := 6, attributes := #[] }, { accessFlags := 260, nameIndex := 96, descriptorIndex := 97, attributes := #[] }] 33 0 #[] #[])
  fields := #[]
  methods := #[k0m0, k0m1]
  instanceTypes := #[]
  staticTypes := #[]
  resolved := Array.replicate 124 none
  statics := none }

def pool1 : Array CpInfo := pool [(2, .class_ 4), (1, u "java/lang/Object"), (0, u "<init>"), (0, u "()V"), (0, .string 8), (0, u ""), (0, .string 10), (0, u "proportion"), (0, .string 12), (0, u "cohort"), (0, .string 14), (0, u "ratio"), (0, .methodref 16 17), (0, .class_ 18), (0, .nameAndType 19 20), (0, u "java/lang/String"), (0, u "length"), (0, u "()I"), (0, .integer 2147483647), (0, .methodref 23 24), (0, .class_ 25), (0, .nameAndType 26 27), (0, u "com/example/tallymark/tallymark/ScoringOfPinLaw"), (0, u "at"), (0, u "(Ljava/lang/String;IICC)C"), (0, .methodref 23 29), (0, .nameAndType 30 31), (0, u "make"), (0, u "(I[C)Ljava/lang/String;"), (0, .methodref 33 34), (0, .class_ 35), (0, .nameAndType 36 37), (0, u "com/example/tallymark/tallymark/Scoring"), (0, u "of"), (0, u "(Ljava/lang/String;)Lcom/example/tallymark/tallymark/Scoring;"), (0, .methodref 23 39), (0, .nameAndType 40 37), (0, u "expected"), (0, .methodref 16 42), (0, .nameAndType 43 44), (0, u "charAt"), (0, u "(I)C"), (0, .methodref 16 46), (0, .nameAndType 5 47), (0, u "([C)V"), (0, .methodref 16 49), (0, .nameAndType 50 51), (0, u "equals"), (0, u "(Ljava/lang/Object;)Z"), (0, .fieldref 33 53), (0, .nameAndType 54 55), (0, u "PROPORTION"), (0, u "Lcom/example/tallymark/tallymark/Scoring;"), (0, .fieldref 33 57), (0, .nameAndType 58 55), (0, u "COHORT"), (0, .fieldref 33 60), (0, .nameAndType 61 55), (0, u "RATIO"), (2, u "law"), (0, u "(IIII)Z")] 3

def k1m0 : Method := { name := "<init>", desc := "()V", sig := { parameters := [], returnType := none }, accessFlags := 1, code := none }
def k1c1 : Code := { maxStack := 7, maxLocals := 13, code := code, exceptionTable := #[], attributes := #[] }
def k1m1 : Method := { name := "law", desc := "(IIII)Z", sig := { parameters := [.int, .int, .int, .int], returnType := some .boolean }, accessFlags := 9, code := some k1c1 }
def k1c2 : Code := { maxStack := 2, maxLocals := 5, code := method_3_code, exceptionTable := #[], attributes := #[] }
def k1m2 : Method := { name := "at", desc := "(Ljava/lang/String;IICC)C", sig := { parameters := [(.object "java/lang/String"), .int, .int, .char, .char], returnType := some .char }, accessFlags := 10, code := some k1c2 }
def k1c3 : Code := { maxStack := 7, maxLocals := 2, code := method_4_code, exceptionTable := #[], attributes := #[] }
def k1m3 : Method := { name := "make", desc := "(I[C)Ljava/lang/String;", sig := { parameters := [.int, (.array .char)], returnType := some (.object "java/lang/String") }, accessFlags := 10, code := some k1c3 }
def k1c4 : Code := { maxStack := 2, maxLocals := 1, code := method_5_code, exceptionTable := #[], attributes := #[] }
def k1m4 : Method := { name := "expected", desc := "(Ljava/lang/String;)Lcom/example/tallymark/tallymark/Scoring;", sig := { parameters := [(.object "java/lang/String")], returnType := some (.object "com/example/tallymark/tallymark/Scoring") }, accessFlags := 10, code := some k1c4 }
/-- com/example/tallymark/tallymark/ScoringOfPinLaw -/
def k1 : Class := { plain "com/example/tallymark/tallymark/ScoringOfPinLaw" (some 0) with
  accessFlags := 49
  interfaces := #[]
  cf := some (fileOf pool1 23 #[] #[{ accessFlags := 1, nameIndex := 5, descriptorIndex := 6, attributes := #[] }, { accessFlags := 9, nameIndex := 64, descriptorIndex := 65, attributes := #[] }, { accessFlags := 10, nameIndex := 26, descriptorIndex := 27, attributes := #[] }, { accessFlags := 10, nameIndex := 30, descriptorIndex := 31, attributes := #[] }, { accessFlags := 10, nameIndex := 40, descriptorIndex := 37, attributes := #[] }] 49 2 #[] #[])
  fields := #[]
  methods := #[k1m0, k1m1, k1m2, k1m3, k1m4]
  instanceTypes := #[]
  staticTypes := #[]
  resolved := Array.replicate 69 none
  statics := none }

def pool2 : Array CpInfo := pool [(1, .class_ 2), (0, u "java/io/Serializable"), (0, .class_ 4), (0, u "java/lang/Object")] 2

/-- java/io/Serializable -/
def k2 : Class := { plain "java/io/Serializable" (some 0) with
  accessFlags := 1537
  interfaces := #[]
  cf := some (fileOf pool2 1 #[] #[] 1537 3 #[] #[])
  fields := #[]
  methods := #[]
  instanceTypes := #[]
  staticTypes := #[]
  resolved := Array.replicate 7 none
  statics := none }

def pool3 : Array CpInfo := pool [(1, .class_ 2), (0, u "java/lang/Comparable"), (0, .class_ 4), (0, u "java/lang/Object")] 7

/-- java/lang/Comparable -/
def k3 : Class := { plain "java/lang/Comparable" (some 0) with
  accessFlags := 1537
  interfaces := #[]
  cf := some (fileOf pool3 1 #[] #[] 1537 3 #[] #[])
  fields := #[]
  methods := #[]
  instanceTypes := #[]
  staticTypes := #[]
  resolved := Array.replicate 12 none
  statics := none }

def pool4 : Array CpInfo := pool [(2, .class_ 4), (1, u "java/lang/CharSequence"), (42, .class_ 48), (0, u "java/lang/CharSequence$1CodePointIterator"), (10, .class_ 60), (0, u "java/lang/CharSequence$1CharIterator"), (5, .class_ 67), (0, u "java/lang/Object")] 63

/-- java/lang/CharSequence -/
def k4 : Class := { plain "java/lang/CharSequence" (some 0) with
  accessFlags := 1537
  interfaces := #[]
  cf := some (fileOf pool4 2 #[.nestMembers #[47, 59]] #[] 1537 66 #[] #[])
  fields := #[]
  methods := #[]
  instanceTypes := #[]
  staticTypes := #[]
  resolved := Array.replicate 131 none
  statics := none }

def pool5 : Array CpInfo := pool [(1, .class_ 2), (0, u "java/lang/constant/Constable"), (0, .class_ 4), (0, u "java/lang/Object")] 6

/-- java/lang/constant/Constable -/
def k5 : Class := { plain "java/lang/constant/Constable" (some 0) with
  accessFlags := 1537
  interfaces := #[]
  cf := some (fileOf pool5 1 #[] #[] 1537 3 #[] #[])
  fields := #[]
  methods := #[]
  instanceTypes := #[]
  staticTypes := #[]
  resolved := Array.replicate 11 none
  statics := none }

def pool6 : Array CpInfo := pool [(1, .class_ 2), (0, u "java/lang/constant/ConstantDesc"), (0, .class_ 4), (0, u "java/lang/Object")] 32

/-- java/lang/constant/ConstantDesc -/
def k6 : Class := { plain "java/lang/constant/ConstantDesc" (some 0) with
  accessFlags := 1537
  interfaces := #[]
  cf := some (fileOf pool6 1 #[] #[] 1537 3 #[] #[])
  fields := #[]
  methods := #[]
  instanceTypes := #[]
  staticTypes := #[]
  resolved := Array.replicate 37 none
  statics := none }

def pool7 : Array CpInfo := pool [(1, .methodref 2 3), (0, .class_ 4), (0, .nameAndType 5 6), (0, u "java/lang/Object"), (0, u "<init>"), (0, u "()V"), (2, .fieldref 10 11), (0, .class_ 12), (0, .nameAndType 13 14), (0, u "java/lang/String"), (0, u "value"), (0, u "[B"), (0, .fieldref 10 16), (0, .nameAndType 17 18), (0, u "coder"), (0, u "B"), (2, u "hash"), (0, u "I"), (2, u "hashIsZero"), (0, u "Z"), (0, .methodref 10 28), (0, .nameAndType 5 29), (0, u "([CIILjava/lang/Void;)V"), (8, .fieldref 10 39), (0, .nameAndType 40 26), (0, u "COMPACT_STRINGS"), (1, .class_ 44), (1, u "java/lang/StringUTF16"), (0, u "compress"), (1, .methodref 42 48), (0, .nameAndType 49 50), (0, u "coderFromArrayLen"), (0, u "([BI)B"), (56, .class_ 109), (1, u "java/lang/StringLatin1"), (32, u "()Z"), (34, .methodref 42 178), (0, .nameAndType 45 179), (0, u "([CII)[B"), (154, u "()I"), (0, .methodref 10 336), (0, .nameAndType 17 337), (0, u "()B"), (25, u "([BI)C"), (27, u "(II)V"), (35, u "(I)C"), (64, .methodref 10 493), (0, .nameAndType 494 142), (0, u "isLatin1"), (0, .methodref 107 496), (0, .nameAndType 497 363), (0, u "charAt"), (3, u "checkIndex"), (5, u "length"), (33, .methodref 107 542), (0, .nameAndType 543 544), (0, u "equals"), (0, u "([B[B)Z"), (28, u "(Ljava/lang/Object;)Z"), (1, .class_ 576), (0, u "java/lang/CharSequence"), (22, u "CASE_INSENSITIVE_ORDER"), (0, u "Ljava/util/Comparator;"), (409, u "([C)V"), (42, .fieldref 1054 1055), (0, .class_ 1056), (0, .nameAndType 1057 1058), (0, u "jdk/internal/util/Preconditions"), (0, u "SIOOBE_FORMATTER"), (0, u "Ljava/util/function/BiFunction;"), (0, .methodref 1054 1060), (0, .nameAndType 501 1061), (0, u "(IILjava/util/function/BiFunction;)I"), (39, u "serialPersistentFields"), (0, u "[Ljava/io/ObjectStreamField;"), (0, .class_ 1104), (0, u "java/lang/String$CaseInsensitiveComparator"), (1, .class_ 1107), (0, u "java/io/Serializable"), (0, .class_ 1109), (0, u "java/lang/Comparable"), (0, .class_ 1111), (0, u "java/lang/constant/Constable"), (0, .class_ 1113), (0, u "java/lang/constant/ConstantDesc"), (2, u "serialVersionUID"), (0, u "J"), (3, u "REPL"), (0, u "C"), (2, u "LATIN1"), (1, u "UTF16")] 323

def k7m0 : Method := { name := "<init>", desc := "()V", sig := { parameters := [], returnType := none }, accessFlags := 1, code := none }
def k7c1 : Code := { maxStack := 5, maxLocals := 2, code := jdk_42_method_3_code, exceptionTable := #[], attributes := #[] }
def k7m1 : Method := { name := "<init>", desc := "([C)V", sig := { parameters := [(.array .char)], returnType := none }, accessFlags := 1, code := some k7c1 }
def k7c2 : Code := { maxStack := 2, maxLocals := 1, code := jdk_42_method_54_code, exceptionTable := #[], attributes := #[] }
def k7m2 : Method := { name := "length", desc := "()I", sig := { parameters := [], returnType := some .int }, accessFlags := 1, code := some k7c2 }
def k7c3 : Code := { maxStack := 2, maxLocals := 2, code := jdk_42_method_56_code, exceptionTable := #[], attributes := #[] }
def k7m3 : Method := { name := "charAt", desc := "(I)C", sig := { parameters := [.int], returnType := some .char }, accessFlags := 1, code := some k7c3 }
def k7c4 : Code := { maxStack := 2, maxLocals := 3, code := jdk_42_method_66_code, exceptionTable := #[], attributes := #[] }
def k7m4 : Method := { name := "equals", desc := "(Ljava/lang/Object;)Z", sig := { parameters := [(.object "java/lang/Object")], returnType := some .boolean }, accessFlags := 1, code := some k7c4 }
def k7c5 : Code := { maxStack := 4, maxLocals := 6, code := jdk_42_method_149_code, exceptionTable := #[], attributes := #[] }
def k7m5 : Method := { name := "<init>", desc := "([CIILjava/lang/Void;)V", sig := { parameters := [(.array .char), .int, .int, (.object "java/lang/Void")], returnType := none }, accessFlags := 2, code := some k7c5 }
def k7c6 : Code := { maxStack := 1, maxLocals := 1, code := jdk_42_method_152_code, exceptionTable := #[], attributes := #[] }
def k7m6 : Method := { name := "coder", desc := "()B", sig := { parameters := [], returnType := some .byte }, accessFlags := 0, code := some k7c6 }
def k7c7 : Code := { maxStack := 1, maxLocals := 1, code := jdk_42_method_154_code, exceptionTable := #[], attributes := #[] }
def k7m7 : Method := { name := "isLatin1", desc := "()Z", sig := { parameters := [], returnType := some .boolean }, accessFlags := 0, code := some k7c7 }
def k7c8 : Code := { maxStack := 3, maxLocals := 2, code := jdk_42_method_155_code, exceptionTable := #[], attributes := #[] }
def k7m8 : Method := { name := "checkIndex", desc := "(II)V", sig := { parameters := [.int, .int], returnType := none }, accessFlags := 8, code := some k7c8 }
/-- java/lang/String -/
def k7 : Class := { plain "java/lang/String" (some 0) with
  accessFlags := 49
  interfaces := #[2, 3, 4, 5, 6]
  cf := some (fileOf pool7 10 #[.nestMembers #[1103]] #[{ accessFlags := 1, nameIndex := 5, descriptorIndex := 6, attributes := #[] }, { accessFlags := 1, nameIndex := 5, descriptorIndex := 1010, attributes := #[] }, { accessFlags := 1, nameIndex := 507, descriptorIndex := 334, attributes := #[] }, { accessFlags := 1, nameIndex := 497, descriptorIndex := 427, attributes := #[] }, { accessFlags := 1, nameIndex := 543, descriptorIndex := 573, attributes := #[] }, { accessFlags := 2, nameIndex := 5, descriptorIndex := 29, attributes := #[] }, { accessFlags := 0, nameIndex := 17, descriptorIndex := 337, attributes := #[] }, { accessFlags := 0, nameIndex := 494, descriptorIndex := 142, attributes := #[] }, { accessFlags := 8, nameIndex := 501, descriptorIndex := 391, attributes := #[] }] 49 2 #[1106, 1108, 575, 1110, 1112] #[{ accessFlags := 18, nameIndex := 13, descriptorIndex := 14, attributes := #[] }, { accessFlags := 18, nameIndex := 17, descriptorIndex := 18, attributes := #[] }, { accessFlags := 2, nameIndex := 21, descriptorIndex := 22, attributes := #[] }, { accessFlags := 2, nameIndex := 25, descriptorIndex := 26, attributes := #[] }, { accessFlags := 26, nameIndex := 1116, descriptorIndex := 1117, attributes := #[] }, { accessFlags := 24, nameIndex := 40, descriptorIndex := 26, attributes := #[] }, { accessFlags := 26, nameIndex := 1101, descriptorIndex := 1102, attributes := #[] }, { accessFlags := 26, nameIndex := 1121, descriptorIndex := 1122, attributes := #[] }, { accessFlags := 25, nameIndex := 599, descriptorIndex := 600, attributes := #[] }, { accessFlags := 24, nameIndex := 1125, descriptorIndex := 18, attributes := #[] }, { accessFlags := 24, nameIndex := 1127, descriptorIndex := 18, attributes := #[] }])
  fields := #[{ name := "value", type := (.array .byte), accessFlags := 18, slot := 0, constantValue := 0 }, { name := "coder", type := .byte, accessFlags := 18, slot := 1, constantValue := 0 }, { name := "hash", type := .int, accessFlags := 2, slot := 2, constantValue := 0 }, { name := "hashIsZero", type := .boolean, accessFlags := 2, slot := 3, constantValue := 0 }, { name := "serialVersionUID", type := .long, accessFlags := 26, slot := 0, constantValue := 0 }, { name := "COMPACT_STRINGS", type := .boolean, accessFlags := 24, slot := 1, constantValue := 0 }, { name := "serialPersistentFields", type := (.array (.object "java/io/ObjectStreamField")), accessFlags := 26, slot := 2, constantValue := 0 }, { name := "REPL", type := .char, accessFlags := 26, slot := 3, constantValue := 0 }, { name := "CASE_INSENSITIVE_ORDER", type := (.object "java/util/Comparator"), accessFlags := 25, slot := 4, constantValue := 0 }, { name := "LATIN1", type := .byte, accessFlags := 24, slot := 5, constantValue := 0 }, { name := "UTF16", type := .byte, accessFlags := 24, slot := 6, constantValue := 0 }]
  methods := #[k7m0, k7m1, k7m2, k7m3, k7m4, k7m5, k7m6, k7m7, k7m8]
  instanceTypes := #[(.array .byte), .byte, .int, .boolean]
  staticTypes := #[.long, .boolean, (.array (.object "java/io/ObjectStreamField")), .char, (.object "java/util/Comparator"), .byte, .byte]
  resolved := Array.replicate 1451 none
  statics := some 0 }

def pool8 : Array CpInfo := pool [(1, .class_ 2), (0, u "java/lang/String"), (1, .class_ 6), (1, u "java/lang/Object"), (0, u "<init>"), (0, u "()V"), (0, .methodref 1 10), (0, .nameAndType 11 12), (0, u "checkIndex"), (0, u "(II)V"), (1, .class_ 16), (1, u "java/lang/StringLatin1"), (36, u "([BI)C"), (67, u "$assertionsDisabled"), (0, u "Z"), (98, .class_ 223), (1, u "java/lang/StringLatin1$LinesSpliterator"), (28, u "charAt"), (28, u "equals"), (0, u "([B[B)Z"), (107, .class_ 391), (0, u "java/lang/StringLatin1$CharsSpliterator")] 3

def k8m0 : Method := { name := "<init>", desc := "()V", sig := { parameters := [], returnType := none }, accessFlags := 0, code := none }
def k8c1 : Code := { maxStack := 2, maxLocals := 2, code := jdk_43_method_2_code, exceptionTable := #[], attributes := #[] }
def k8m1 : Method := { name := "charAt", desc := "([BI)C", sig := { parameters := [(.array .byte), .int], returnType := some .char }, accessFlags := 9, code := some k8c1 }
def k8c2 : Code := { maxStack := 3, maxLocals := 3, code := jdk_43_method_13_code, exceptionTable := #[], attributes := #[] }
def k8m2 : Method := { name := "equals", desc := "([B[B)Z", sig := { parameters := [(.array .byte), (.array .byte)], returnType := some .boolean }, accessFlags := 9, code := some k8c2 }
/-- java/lang/StringLatin1 -/
def k8 : Class := { plain "java/lang/StringLatin1" (some 0) with
  accessFlags := 48
  interfaces := #[]
  cf := some (fileOf pool8 14 #[.nestMembers #[390, 221]] #[{ accessFlags := 0, nameIndex := 7, descriptorIndex := 8, attributes := #[] }, { accessFlags := 9, nameIndex := 252, descriptorIndex := 53, attributes := #[] }, { accessFlags := 9, nameIndex := 281, descriptorIndex := 282, attributes := #[] }] 48 4 #[] #[{ accessFlags := 4120, nameIndex := 121, descriptorIndex := 122, attributes := #[] }])
  fields := #[{ name := "$assertionsDisabled", type := .boolean, accessFlags := 4120, slot := 0, constantValue := 0 }]
  methods := #[k8m0, k8m1, k8m2]
  instanceTypes := #[]
  staticTypes := #[.boolean]
  resolved := Array.replicate 395 none
  statics := none }

def pool9 : Array CpInfo := pool [(2, .class_ 4), (1, u "java/lang/Object"), (0, u "<init>"), (0, u "()V"), (17, .class_ 26), (1, u "jdk/internal/util/Preconditions"), (6, u "checkIndex"), (21, .class_ 56), (0, u "jdk/internal/util/Preconditions$4"), (57, .class_ 115), (0, u "jdk/internal/util/Preconditions$1"), (7, u "SIOOBE_FORMATTER"), (0, u "Ljava/util/function/BiFunction;"), (0, .class_ 126), (0, u "jdk/internal/util/Preconditions$2"), (3, u "AIOOBE_FORMATTER"), (0, .class_ 132), (0, u "jdk/internal/util/Preconditions$3"), (3, u "IOOBE_FORMATTER"), (41, u "(IILjava/util/function/BiFunction;)I")] 15

def k9m0 : Method := { name := "<init>", desc := "()V", sig := { parameters := [], returnType := none }, accessFlags := 1, code := none }
def k9c1 : Code := { maxStack := 3, maxLocals := 3, code := jdk_41_method_11_code, exceptionTable := #[], attributes := #[] }
def k9m1 : Method := { name := "checkIndex", desc := "(IILjava/util/function/BiFunction;)I", sig := { parameters := [.int, .int, (.object "java/util/function/BiFunction")], returnType := some .int }, accessFlags := 9, code := some k9c1 }
/-- jdk/internal/util/Preconditions -/
def k9 : Class := { plain "jdk/internal/util/Preconditions" (some 0) with
  accessFlags := 33
  interfaces := #[]
  cf := some (fileOf pool9 24 #[.nestMembers #[55, 131, 125, 114]] #[{ accessFlags := 1, nameIndex := 5, descriptorIndex := 6, attributes := #[] }, { accessFlags := 9, nameIndex := 33, descriptorIndex := 178, attributes := #[] }] 33 2 #[] #[{ accessFlags := 25, nameIndex := 123, descriptorIndex := 124, attributes := #[] }, { accessFlags := 25, nameIndex := 130, descriptorIndex := 124, attributes := #[] }, { accessFlags := 25, nameIndex := 136, descriptorIndex := 124, attributes := #[] }])
  fields := #[{ name := "SIOOBE_FORMATTER", type := (.object "java/util/function/BiFunction"), accessFlags := 25, slot := 0, constantValue := 0 }, { name := "AIOOBE_FORMATTER", type := (.object "java/util/function/BiFunction"), accessFlags := 25, slot := 1, constantValue := 0 }, { name := "IOOBE_FORMATTER", type := (.object "java/util/function/BiFunction"), accessFlags := 25, slot := 2, constantValue := 0 }]
  methods := #[k9m0, k9m1]
  instanceTypes := #[]
  staticTypes := #[(.object "java/util/function/BiFunction"), (.object "java/util/function/BiFunction"), (.object "java/util/function/BiFunction")]
  resolved := Array.replicate 194 none
  statics := some 1 }

def pool10 : Array CpInfo := pool [(6, .class_ 8), (1, u "java/lang/Object"), (0, u "<init>"), (0, u "()V"), (1, .class_ 14), (1, u "java/lang/StringUTF16"), (31, u "$assertionsDisabled"), (0, u "Z"), (13, u "HI_BYTE_SHIFT"), (0, u "I"), (2, u "LO_BYTE_SHIFT"), (49, .methodref 12 116), (0, .nameAndType 117 118), (0, u "compress"), (0, u "([CI[BII)I"), (3, u "([CII)[B"), (138, u "coderFromArrayLen"), (0, u "([BI)B"), (106, .class_ 371), (1, u "java/lang/StringUTF16$LinesSpliterator"), (58, u "MAX_LENGTH"), (196, .class_ 628), (0, u "java/lang/StringUTF16$CodePointsSpliterator"), (0, .class_ 630), (0, u "java/lang/StringUTF16$CharsSpliterator")] 4

def k10m0 : Method := { name := "<init>", desc := "()V", sig := { parameters := [], returnType := none }, accessFlags := 0, code := none }
def k10c1 : Code := { maxStack := 2, maxLocals := 2, code := jdk_52_method_15_code, exceptionTable := #[], attributes := #[] }
def k10m1 : Method := { name := "coderFromArrayLen", desc := "([BI)B", sig := { parameters := [(.array .byte), .int], returnType := some .byte }, accessFlags := 8, code := some k10c1 }
def k10c2 : Code := { maxStack := 5, maxLocals := 6, code := jdk_52_method_16_code, exceptionTable := #[], attributes := #[] }
def k10m2 : Method := { name := "compress", desc := "([CII)[B", sig := { parameters := [(.array .char), .int, .int], returnType := some (.array .byte) }, accessFlags := 9, code := some k10c2 }
def k10c3 : Code := { maxStack := 3, maxLocals := 7, code := jdk_52_method_21_code, exceptionTable := #[], attributes := #[] }
def k10m3 : Method := { name := "compress", desc := "([CI[BII)I", sig := { parameters := [(.array .char), .int, (.array .byte), .int, .int], returnType := some .int }, accessFlags := 9, code := some k10c3 }
/-- java/lang/StringUTF16 -/
def k10 : Class := { plain "java/lang/StringUTF16" (some 0) with
  accessFlags := 48
  interfaces := #[]
  cf := some (fileOf pool10 12 #[.nestMembers #[627, 629, 369]] #[{ accessFlags := 0, nameIndex := 9, descriptorIndex := 10, attributes := #[] }, { accessFlags := 8, nameIndex := 261, descriptorIndex := 262, attributes := #[] }, { accessFlags := 9, nameIndex := 117, descriptorIndex := 122, attributes := #[] }, { accessFlags := 9, nameIndex := 117, descriptorIndex := 118, attributes := #[] }] 48 6 #[] #[{ accessFlags := 26, nameIndex := 61, descriptorIndex := 62, attributes := #[] }, { accessFlags := 26, nameIndex := 65, descriptorIndex := 62, attributes := #[] }, { accessFlags := 24, nameIndex := 430, descriptorIndex := 62, attributes := #[] }, { accessFlags := 4120, nameIndex := 46, descriptorIndex := 47, attributes := #[] }])
  fields := #[{ name := "HI_BYTE_SHIFT", type := .int, accessFlags := 26, slot := 0, constantValue := 0 }, { name := "LO_BYTE_SHIFT", type := .int, accessFlags := 26, slot := 1, constantValue := 0 }, { name := "MAX_LENGTH", type := .int, accessFlags := 24, slot := 2, constantValue := 0 }, { name := "$assertionsDisabled", type := .boolean, accessFlags := 4120, slot := 3, constantValue := 0 }]
  methods := #[k10m0, k10m1, k10m2, k10m3]
  instanceTypes := #[]
  staticTypes := #[.int, .int, .int, .boolean]
  resolved := Array.replicate 635 none
  statics := none }

def pool11 : Array CpInfo := pool [(2, .class_ 4), (1, u "java/lang/Enum"), (0, u "name"), (0, u "Ljava/lang/String;"), (2, u "ordinal"), (0, u "I"), (1, .class_ 14), (1, u "java/lang/Object"), (4, u "hash"), (86, .class_ 108), (1, u "java/lang/Enum$EnumDesc"), (2, .class_ 112), (0, u "java/lang/constant/Constable"), (0, .class_ 114), (0, u "java/lang/Comparable"), (0, .class_ 116), (0, u "java/io/Serializable")] 87

/-- java/lang/Enum -/
def k11 : Class := { plain "java/lang/Enum" (some 0) with
  accessFlags := 1057
  interfaces := #[5, 3, 2]
  cf := some (fileOf pool11 2 #[.nestMembers #[106]] #[] 1057 12 #[111, 113, 115] #[{ accessFlags := 18, nameIndex := 5, descriptorIndex := 6, attributes := #[] }, { accessFlags := 18, nameIndex := 9, descriptorIndex := 10, attributes := #[] }, { accessFlags := 2, nameIndex := 19, descriptorIndex := 10, attributes := #[] }])
  fields := #[{ name := "name", type := (.object "java/lang/String"), accessFlags := 18, slot := 0, constantValue := 0 }, { name := "ordinal", type := .int, accessFlags := 18, slot := 1, constantValue := 0 }, { name := "hash", type := .int, accessFlags := 2, slot := 2, constantValue := 0 }]
  methods := #[]
  instanceTypes := #[(.object "java/lang/String"), .int, .int]
  staticTypes := #[]
  resolved := Array.replicate 204 none
  statics := none }

def pool12 : Array CpInfo := pool [(1, .class_ 2), (0, u "com/example/tallymark/tallymark/Scoring"), (2, u "PROPORTION"), (0, u "Lcom/example/tallymark/tallymark/Scoring;"), (2, u "COHORT"), (2, u "RATIO"), (0, .fieldref 1 14), (0, .nameAndType 15 16), (0, u "$VALUES"), (0, u "[Lcom/example/tallymark/tallymark/Scoring;"), (0, .methodref 18 19), (0, .class_ 16), (0, .nameAndType 20 21), (0, u "clone"), (0, u "()Ljava/lang/Object;"), (1, .class_ 25), (1, u "java/lang/Enum"), (6, .fieldref 1 33), (0, .nameAndType 34 35), (0, u "code"), (0, u "Ljava/lang/String;"), (2, u "populations"), (0, u "Ljava/util/Set;"), (2, u "required"), (2, u "observed"), (0, u "Ljava/util/Map;"), (2, u "stratified"), (0, u "Z"), (0, .methodref 1 52), (0, .nameAndType 53 54), (0, u "values"), (0, u "()[Lcom/example/tallymark/tallymark/Scoring;"), (0, .methodref 56 57), (0, .class_ 58), (0, .nameAndType 59 60), (0, u "java/lang/String"), (0, u "equals"), (0, u "(Ljava/lang/Object;)Z"), (44, .class_ 106), (0, u "com/example/tallymark/tallymark/Scoring$1"), (15, u "of"), (4, .class_ 128), (0, u "com/example/tallymark/tallymark/Scoring$2"), (15, .class_ 145), (0, u "com/example/tallymark/tallymark/Scoring$3"), (14, u "SYSTEM"), (8, u "(Ljava/lang/String;)Lcom/example/tallymark/tallymark/Scoring;")] 51

def k12c0 : Code := { maxStack := 1, maxLocals := 0, code := prog_16_method_1_code, exceptionTable := #[], attributes := #[] }
def k12m0 : Method := { name := "values", desc := "()[Lcom/example/tallymark/tallymark/Scoring;", sig := { parameters := [], returnType := some (.array (.object "com/example/tallymark/tallymark/Scoring")) }, accessFlags := 9, code := some k12c0 }
def k12c1 : Code := { maxStack := 2, maxLocals := 5, code := prog_16_method_4_code, exceptionTable := #[], attributes := #[] }
def k12m1 : Method := { name := "of", desc := "(Ljava/lang/String;)Lcom/example/tallymark/tallymark/Scoring;", sig := { parameters := [(.object "java/lang/String")], returnType := some (.object "com/example/tallymark/tallymark/Scoring") }, accessFlags := 8, code := some k12c1 }
/-- com/example/tallymark/tallymark/Scoring -/
def k12 : Class := { plain "com/example/tallymark/tallymark/Scoring" (some 11) with
  accessFlags := 17440
  interfaces := #[]
  cf := some (fileOf pool12 1 #[.nestMembers #[144, 127, 105]] #[{ accessFlags := 9, nameIndex := 53, descriptorIndex := 54, attributes := #[] }, { accessFlags := 8, nameIndex := 122, descriptorIndex := 169, attributes := #[] }] 17440 23 #[] #[{ accessFlags := 16409, nameIndex := 5, descriptorIndex := 6, attributes := #[] }, { accessFlags := 16409, nameIndex := 9, descriptorIndex := 6, attributes := #[] }, { accessFlags := 16409, nameIndex := 12, descriptorIndex := 6, attributes := #[] }, { accessFlags := 24, nameIndex := 160, descriptorIndex := 35, attributes := #[] }, { accessFlags := 18, nameIndex := 34, descriptorIndex := 35, attributes := #[] }, { accessFlags := 18, nameIndex := 38, descriptorIndex := 39, attributes := #[] }, { accessFlags := 18, nameIndex := 42, descriptorIndex := 39, attributes := #[] }, { accessFlags := 18, nameIndex := 45, descriptorIndex := 46, attributes := #[] }, { accessFlags := 18, nameIndex := 49, descriptorIndex := 50, attributes := #[] }, { accessFlags := 4122, nameIndex := 15, descriptorIndex := 16, attributes := #[] }])
  fields := #[{ name := "PROPORTION", type := (.object "com/example/tallymark/tallymark/Scoring"), accessFlags := 16409, slot := 0, constantValue := 0 }, { name := "COHORT", type := (.object "com/example/tallymark/tallymark/Scoring"), accessFlags := 16409, slot := 1, constantValue := 0 }, { name := "RATIO", type := (.object "com/example/tallymark/tallymark/Scoring"), accessFlags := 16409, slot := 2, constantValue := 0 }, { name := "SYSTEM", type := (.object "java/lang/String"), accessFlags := 24, slot := 3, constantValue := 0 }, { name := "code", type := (.object "java/lang/String"), accessFlags := 18, slot := 3, constantValue := 0 }, { name := "populations", type := (.object "java/util/Set"), accessFlags := 18, slot := 4, constantValue := 0 }, { name := "required", type := (.object "java/util/Set"), accessFlags := 18, slot := 5, constantValue := 0 }, { name := "observed", type := (.object "java/util/Map"), accessFlags := 18, slot := 6, constantValue := 0 }, { name := "stratified", type := .boolean, accessFlags := 18, slot := 7, constantValue := 0 }, { name := "$VALUES", type := (.array (.object "com/example/tallymark/tallymark/Scoring")), accessFlags := 4122, slot := 4, constantValue := 0 }]
  methods := #[k12m0, k12m1]
  instanceTypes := #[(.object "java/lang/String"), .int, .int, (.object "java/lang/String"), (.object "java/util/Set"), (.object "java/util/Set"), (.object "java/util/Map"), .boolean]
  staticTypes := #[(.object "com/example/tallymark/tallymark/Scoring"), (.object "com/example/tallymark/tallymark/Scoring"), (.object "com/example/tallymark/tallymark/Scoring"), (.object "java/lang/String"), (.array (.object "com/example/tallymark/tallymark/Scoring"))]
  resolved := Array.replicate 221 none
  statics := some 2 }

def pool13 : Array CpInfo := pool [(1, .class_ 2), (0, u "java/lang/Cloneable"), (0, .class_ 4), (0, u "java/lang/Object")] 2

/-- java/lang/Cloneable -/
def k13 : Class := { plain "java/lang/Cloneable" (some 0) with
  accessFlags := 1537
  interfaces := #[]
  cf := some (fileOf pool13 1 #[] #[] 1537 3 #[] #[])
  fields := #[]
  methods := #[]
  instanceTypes := #[]
  staticTypes := #[]
  resolved := Array.replicate 7 none
  statics := none }

def pool14 : Array CpInfo := pool [(2, .class_ 4), (1, u "com/example/tallymark/tallymark/Scoring"), (12, .class_ 18), (0, u "com/example/tallymark/tallymark/Scoring$1")] 11

/-- com/example/tallymark/tallymark/Scoring$1 -/
def k14 : Class := { plain "com/example/tallymark/tallymark/Scoring$1" (some 12) with
  accessFlags := 16432
  interfaces := #[]
  cf := some (fileOf pool14 17 #[.nestHost 2] #[] 16432 2 #[] #[])
  fields := #[]
  methods := #[]
  instanceTypes := #[(.object "java/lang/String"), .int, .int, (.object "java/lang/String"), (.object "java/util/Set"), (.object "java/util/Set"), (.object "java/util/Map"), .boolean]
  staticTypes := #[]
  resolved := Array.replicate 30 none
  statics := none }

def pool15 : Array CpInfo := pool [(2, .class_ 4), (1, u "com/example/tallymark/tallymark/Scoring"), (29, .class_ 35), (0, u "com/example/tallymark/tallymark/Scoring$2")] 15

/-- com/example/tallymark/tallymark/Scoring$2 -/
def k15 : Class := { plain "com/example/tallymark/tallymark/Scoring$2" (some 12) with
  accessFlags := 16432
  interfaces := #[]
  cf := some (fileOf pool15 34 #[.nestHost 2] #[] 16432 2 #[] #[])
  fields := #[]
  methods := #[]
  instanceTypes := #[(.object "java/lang/String"), .int, .int, (.object "java/lang/String"), (.object "java/util/Set"), (.object "java/util/Set"), (.object "java/util/Map"), .boolean]
  staticTypes := #[]
  resolved := Array.replicate 51 none
  statics := none }

def pool16 : Array CpInfo := pool [(2, .class_ 4), (1, u "com/example/tallymark/tallymark/Scoring"), (12, .class_ 18), (0, u "com/example/tallymark/tallymark/Scoring$3")] 11

/-- com/example/tallymark/tallymark/Scoring$3 -/
def k16 : Class := { plain "com/example/tallymark/tallymark/Scoring$3" (some 12) with
  accessFlags := 16432
  interfaces := #[]
  cf := some (fileOf pool16 17 #[.nestHost 2] #[] 16432 2 #[] #[])
  fields := #[]
  methods := #[]
  instanceTypes := #[(.object "java/lang/String"), .int, .int, (.object "java/lang/String"), (.object "java/util/Set"), (.object "java/util/Set"), (.object "java/util/Map"), .boolean]
  staticTypes := #[]
  resolved := Array.replicate 30 none
  statics := none }

def pool17 : Array CpInfo := pool [(9, u "<init>"), (6, .class_ 18), (1, u "java/lang/Object"), (0, u "()V"), (1, .class_ 23), (1, u "jdk/internal/util/ArraysSupport"), (0, u "LOG2_ARRAY_LONG_INDEX_SCALE"), (0, u "I"), (2, u "U"), (0, u "Ljdk/internal/misc/Unsafe;"), (8, u "BIG_ENDIAN"), (0, u "Z"), (8, u "LOG2_BYTE_BIT_SIZE"), (4, u "LOG2_ARRAY_INT_INDEX_SCALE"), (54, u "JLA"), (0, u "Ljdk/internal/access/JavaLangAccess;"), (11, u "LOG2_ARRAY_BOOLEAN_INDEX_SCALE"), (9, u "LOG2_ARRAY_BYTE_INDEX_SCALE"), (5, u "LOG2_ARRAY_CHAR_INDEX_SCALE"), (5, u "LOG2_ARRAY_SHORT_INDEX_SCALE"), (18, u "LOG2_ARRAY_FLOAT_INDEX_SCALE"), (24, u "LOG2_ARRAY_DOUBLE_INDEX_SCALE"), (89, u "T_BOOLEAN"), (2, u "T_CHAR"), (1, u "T_FLOAT"), (1, u "T_DOUBLE"), (1, u "T_BYTE"), (1, u "T_SHORT"), (1, u "T_INT"), (1, u "T_LONG"), (1, u "SOFT_MAX_ARRAY_LENGTH")] 83

def k17m0 : Method := { name := "<init>", desc := "()V", sig := { parameters := [], returnType := none }, accessFlags := 2, code := none }
/-- jdk/internal/util/ArraysSupport -/
def k17 : Class := { plain "jdk/internal/util/ArraysSupport" (some 0) with
  accessFlags := 33
  interfaces := #[]
  cf := some (fileOf pool17 21 #[] #[{ accessFlags := 2, nameIndex := 9, descriptorIndex := 19, attributes := #[] }] 33 16 #[] #[{ accessFlags := 24, nameIndex := 28, descriptorIndex := 29, attributes := #[] }, { accessFlags := 26, nameIndex := 38, descriptorIndex := 39, attributes := #[] }, { accessFlags := 25, nameIndex := 121, descriptorIndex := 25, attributes := #[] }, { accessFlags := 25, nameIndex := 131, descriptorIndex := 25, attributes := #[] }, { accessFlags := 25, nameIndex := 137, descriptorIndex := 25, attributes := #[] }, { accessFlags := 25, nameIndex := 143, descriptorIndex := 25, attributes := #[] }, { accessFlags := 25, nameIndex := 53, descriptorIndex := 25, attributes := #[] }, { accessFlags := 25, nameIndex := 24, descriptorIndex := 25, attributes := #[] }, { accessFlags := 25, nameIndex := 162, descriptorIndex := 25, attributes := #[] }, { accessFlags := 25, nameIndex := 187, descriptorIndex := 25, attributes := #[] }, { accessFlags := 26, nameIndex := 48, descriptorIndex := 25, attributes := #[] }, { accessFlags := 25, nameIndex := 277, descriptorIndex := 25, attributes := #[] }, { accessFlags := 25, nameIndex := 280, descriptorIndex := 25, attributes := #[] }, { accessFlags := 25, nameIndex := 282, descriptorIndex := 25, attributes := #[] }, { accessFlags := 25, nameIndex := 284, descriptorIndex := 25, attributes := #[] }, { accessFlags := 25, nameIndex := 286, descriptorIndex := 25, attributes := #[] }, { accessFlags := 25, nameIndex := 288, descriptorIndex := 25, attributes := #[] }, { accessFlags := 25, nameIndex := 290, descriptorIndex := 25, attributes := #[] }, { accessFlags := 25, nameIndex := 292, descriptorIndex := 25, attributes := #[] }, { accessFlags := 26, nameIndex := 108, descriptorIndex := 109, attributes := #[] }, { accessFlags := 25, nameIndex := 294, descriptorIndex := 25, attributes := #[] }])
  fields := #[{ name := "U", type := (.object "jdk/internal/misc/Unsafe"), accessFlags := 24, slot := 0, constantValue := 0 }, { name := "BIG_ENDIAN", type := .boolean, accessFlags := 26, slot := 1, constantValue := 0 }, { name := "LOG2_ARRAY_BOOLEAN_INDEX_SCALE", type := .int, accessFlags := 25, slot := 2, constantValue := 0 }, { name := "LOG2_ARRAY_BYTE_INDEX_SCALE", type := .int, accessFlags := 25, slot := 3, constantValue := 0 }, { name := "LOG2_ARRAY_CHAR_INDEX_SCALE", type := .int, accessFlags := 25, slot := 4, constantValue := 0 }, { name := "LOG2_ARRAY_SHORT_INDEX_SCALE", type := .int, accessFlags := 25, slot := 5, constantValue := 0 }, { name := "LOG2_ARRAY_INT_INDEX_SCALE", type := .int, accessFlags := 25, slot := 6, constantValue := 0 }, { name := "LOG2_ARRAY_LONG_INDEX_SCALE", type := .int, accessFlags := 25, slot := 7, constantValue := 0 }, { name := "LOG2_ARRAY_FLOAT_INDEX_SCALE", type := .int, accessFlags := 25, slot := 8, constantValue := 0 }, { name := "LOG2_ARRAY_DOUBLE_INDEX_SCALE", type := .int, accessFlags := 25, slot := 9, constantValue := 0 }, { name := "LOG2_BYTE_BIT_SIZE", type := .int, accessFlags := 26, slot := 10, constantValue := 0 }, { name := "T_BOOLEAN", type := .int, accessFlags := 25, slot := 11, constantValue := 0 }, { name := "T_CHAR", type := .int, accessFlags := 25, slot := 12, constantValue := 0 }, { name := "T_FLOAT", type := .int, accessFlags := 25, slot := 13, constantValue := 0 }, { name := "T_DOUBLE", type := .int, accessFlags := 25, slot := 14, constantValue := 0 }, { name := "T_BYTE", type := .int, accessFlags := 25, slot := 15, constantValue := 0 }, { name := "T_SHORT", type := .int, accessFlags := 25, slot := 16, constantValue := 0 }, { name := "T_INT", type := .int, accessFlags := 25, slot := 17, constantValue := 0 }, { name := "T_LONG", type := .int, accessFlags := 25, slot := 18, constantValue := 0 }, { name := "JLA", type := (.object "jdk/internal/access/JavaLangAccess"), accessFlags := 26, slot := 19, constantValue := 0 }, { name := "SOFT_MAX_ARRAY_LENGTH", type := .int, accessFlags := 25, slot := 20, constantValue := 0 }]
  methods := #[k17m0]
  instanceTypes := #[]
  staticTypes := #[(.object "jdk/internal/misc/Unsafe"), .boolean, .int, .int, .int, .int, .int, .int, .int, .int, .int, .int, .int, .int, .int, .int, .int, .int, .int, (.object "jdk/internal/access/JavaLangAccess"), .int]
  resolved := Array.replicate 378 none
  statics := none }

/-- the primitive byte -/
def k18 : Class := { plain "byte" none with kind := .primitive 'B', accessFlags := 0x411 }
/-- [B -/
def k19 : Class := { plain "[B" (some 0) with kind := .array 18 .byte, interfaces := #[13, 2], accessFlags := 1041 }

/-- the primitive char -/
def k20 : Class := { plain "char" none with kind := .primitive 'C', accessFlags := 0x411 }
/-- [C -/
def k21 : Class := { plain "[C" (some 0) with kind := .array 20 .char, interfaces := #[13, 2], accessFlags := 1041 }

/-- the primitive int -/
def k22 : Class := { plain "int" none with kind := .primitive 'I', accessFlags := 0x411 }
/-- [I -/
def k23 : Class := { plain "[I" (some 0) with kind := .array 22 .int, interfaces := #[13, 2], accessFlags := 1041 }

/-- [Lcom/example/tallymark/tallymark/Scoring; -/
def k24 : Class := { plain "[Lcom/example/tallymark/tallymark/Scoring;" (some 0) with kind := .array 12 (.object "com/example/tallymark/tallymark/Scoring"), interfaces := #[13, 2], accessFlags := 1041 }

def heap : Heap := #[{ cls := 7, slots := #[.long 0, .int 1, .null, .int 0, .null, .int 0, .int 0], vm := .statics 7 },
  { cls := 9, slots := #[.null, .null, .null], vm := .statics 9 },
  { cls := 12, slots := #[.ref 4, .ref 5, .ref 6, .null, .ref 3], vm := .statics 12 },
  { cls := 24, slots := #[.ref 4, .ref 5, .ref 6], vm := .none },
  { cls := 14, slots := #[.null, .int 0, .int 0, .ref 7, .null, .null, .null, .int 0], vm := .none },
  { cls := 15, slots := #[.null, .int 1, .int 0, .ref 8, .null, .null, .null, .int 0], vm := .none },
  { cls := 16, slots := #[.null, .int 2, .int 0, .ref 9, .null, .null, .null, .int 0], vm := .none },
  { cls := 7, slots := #[.ref 10, .int 0, .int 0, .int 0], vm := .none },
  { cls := 7, slots := #[.ref 11, .int 0, .int 0, .int 0], vm := .none },
  { cls := 7, slots := #[.ref 12, .int 0, .int 0, .int 0], vm := .none },
  { cls := 19, slots := #[.int 112, .int 114, .int 111, .int 112, .int 111, .int 114, .int 116, .int 105, .int 111, .int 110], vm := .none },
  { cls := 19, slots := #[.int 99, .int 111, .int 104, .int 111, .int 114, .int 116], vm := .none },
  { cls := 19, slots := #[.int 114, .int 97, .int 116, .int 105, .int 111], vm := .none }]
def classes : Array Class := #[k0, k1, k2, k3, k4, k5, k6, k7, k8, k9, k10, k11, k12, k13, k14, k15, k16, k17, k18, k19, k20, k21, k22, k23, k24]
def interned : List (Array UInt16 × Addr) := []
def slotsUsed : Nat := 75
def theMethod : MethodId := ⟨1, 1⟩
def args0 : Array Value := #[.int 1, .int 7, .int 65, .int 66]
def aboutOver (below : List Frame) : State where
  vm := { classes := classes, interned := interned.toArray }
  heap := heap
  slotsUsed := slotsUsed
  threads := #[{ frames := .invoking theMethod args0 :: below }]
def below0 : List Frame := [.native { method := ⟨0, 0⟩, args := #[] }]
def about1 : State := aboutOver below0
def p0 : Program := .bare "" "" ""
def e0 : Env := launch0.env 0 0 0
theorem w_frames : about1.frames = Frame.invoking theMethod args0 :: below0 := rfl
set_option maxRecDepth 65536 in
theorem w_args : argsFit about1.vm theMethod args0 = true := by decide +kernel
set_option maxRecDepth 65536 in
theorem w_heap : heapFits about1 = true := by decide +kernel
set_option maxRecDepth 65536 in
theorem w_runnable : about1.curStatus? = some .runnable := by decide +kernel
set_option maxRecDepth 65536 in
theorem w_alone : about1.alone = true := by decide +kernel
set_option maxRecDepth 65536 in
theorem w_named : about1.methodNamed? x = some theMethod := by decide +kernel
set_option maxRecDepth 65536 in
theorem w_hears : about1.hears theMethod below0 = true := by decide +kernel
set_option maxRecDepth 65536 in
theorem w_ripe : about1.ripe theMethod args0 below0 = true := by decide +kernel
theorem w_running : about1.status = .running := rfl
set_option maxRecDepth 65536 in
theorem w_room : about1.hasRoom e0.platform room_1 = true :=
  launch0.hasRoom_least _ room_1 (by decide +kernel) (by decide +kernel) (by decide +kernel) (by decide +kernel) (by decide +kernel) (by decide +kernel)
theorem allAtoms_all (ts : List Jvm.Cond) (a : Array Jvm.Value) (st : Jvm.State) : (allAtoms ts).before a st = ts.all (fun c => c.before a st) := by
  induction ts with
  | nil => rfl
  | cons c t ih =>
    show (Jvm.Cond.and c (allAtoms t)).before a st = _
    rw [Jvm.Cond.before_and, ih, List.all_cons]
def words1 : List Jvm.Cond := Jvm.Cond.code x code maxLocals ret :: tables_1
/-- a 'code' word, met by the world's own term for the bytes: nothing is compared byte by byte -/
theorem code_word {y : MethodName} {bytes : ByteArray} {mx : Nat} {rt : Option FieldType} {a : Array Value} {s : State} {m : MethodId} {meth : Method} {c : Code} (h1 : s.methodNamed? y = some m) (h2 : s.vm.method? m = some meth) (h3 : meth.code = some c) (h4 : c.code = bytes)
    (h5 : (c.maxLocals == mx && c.exceptionTable.isEmpty && decide (c.maxStack ≤ mostOperands) && decide (meth.sig.returnType = rt) && !meth.locks && decide (parseMethodDescriptor y.desc = some meth.sig)) = true) : (Jvm.Cond.code y bytes mx rt).before a s = true := by
  simp only [Bool.and_eq_true, beq_iff_eq, Bool.not_eq_true', decide_eq_true_eq] at h5
  obtain ⟨⟨⟨⟨⟨g1, g2⟩, g3⟩, g4⟩, g5⟩, g6⟩ := h5
  simp [Cond.before, Cond.holds, Cond.value, h1, h2, h3, h4, g1, g2, g3, g4, g5, g6]
def isCode : Jvm.Cond → Bool
  | .code _ _ _ _ => true
  | _ => false
theorem all_split {L : List Jvm.Cond} {P : Jvm.Cond → Bool} (h1 : L.all (fun c => isCode c || P c) = true) (h2 : ∀ c ∈ L.filter isCode, P c = true) : L.all P = true := by
  refine List.all_eq_true.mpr fun c hc => ?_
  have h := List.all_eq_true.mp h1 c hc
  rcases Bool.eq_false_or_eq_true (isCode c) with hi | hi
  · exact h2 c (List.mem_filter.mpr ⟨hc, hi⟩)
  · simpa [hi] using h
set_option maxRecDepth 65536 in
theorem w_c0 : (Jvm.Cond.code x code maxLocals ret).before args0 about1 = true := code_word (m := ⟨1, 1⟩) (meth := k1m1) (c := k1c1) (by decide +kernel) rfl rfl rfl (by decide +kernel)
set_option maxRecDepth 65536 in
theorem w_c1 : (Jvm.Cond.code ({ cls := "java/lang/String", name := "length", desc := "()I" } : Jvm.MethodName) jdk_42_method_54_code (1 : Nat) (Option.some Jvm.ClassFile.FieldType.int)).before args0 about1 = true := code_word (m := ⟨7, 2⟩) (meth := k7m2) (c := k7c2) (by decide +kernel) rfl rfl rfl (by decide +kernel)
set_option maxRecDepth 65536 in
theorem w_c2 : (Jvm.Cond.code ({ cls := "java/lang/String", name := "coder", desc := "()B" } : Jvm.MethodName) jdk_42_method_152_code (1 : Nat) (Option.some Jvm.ClassFile.FieldType.byte)).before args0 about1 = true := code_word (m := ⟨7, 6⟩) (meth := k7m6) (c := k7c6) (by decide +kernel) rfl rfl rfl (by decide +kernel)
set_option maxRecDepth 65536 in
theorem w_c3 : (Jvm.Cond.code ({ cls := "com/example/tallymark/tallymark/ScoringOfPinLaw", name := "at", desc := "(Ljava/lang/String;IICC)C" } : Jvm.MethodName) method_3_code (5 : Nat) (Option.some Jvm.ClassFile.FieldType.char)).before args0 about1 = true := code_word (m := ⟨1, 2⟩) (meth := k1m2) (c := k1c2) (by decide +kernel) rfl rfl rfl (by decide +kernel)
set_option maxRecDepth 65536 in
theorem w_c4 : (Jvm.Cond.code ({ cls := "java/lang/String", name := "charAt", desc := "(I)C" } : Jvm.MethodName) jdk_42_method_56_code (2 : Nat) (Option.some Jvm.ClassFile.FieldType.char)).before args0 about1 = true := code_word (m := ⟨7, 3⟩) (meth := k7m3) (c := k7c3) (by decide +kernel) rfl rfl rfl (by decide +kernel)
set_option maxRecDepth 65536 in
theorem w_c5 : (Jvm.Cond.code ({ cls := "java/lang/String", name := "isLatin1", desc := "()Z" } : Jvm.MethodName) jdk_42_method_154_code (1 : Nat) (Option.some Jvm.ClassFile.FieldType.boolean)).before args0 about1 = true := code_word (m := ⟨7, 7⟩) (meth := k7m7) (c := k7c7) (by decide +kernel) rfl rfl rfl (by decide +kernel)
set_option maxRecDepth 65536 in
theorem w_c6 : (Jvm.Cond.code ({ cls := "java/lang/StringLatin1", name := "charAt", desc := "([BI)C" } : Jvm.MethodName) jdk_43_method_2_code (2 : Nat) (Option.some Jvm.ClassFile.FieldType.char)).before args0 about1 = true := code_word (m := ⟨8, 1⟩) (meth := k8m1) (c := k8c1) (by decide +kernel) rfl rfl rfl (by decide +kernel)
set_option maxRecDepth 65536 in
theorem w_c7 : (Jvm.Cond.code ({ cls := "java/lang/String", name := "checkIndex", desc := "(II)V" } : Jvm.MethodName) jdk_42_method_155_code (2 : Nat) (Option.none : Option Jvm.ClassFile.FieldType)).before args0 about1 = true := code_word (m := ⟨7, 8⟩) (meth := k7m8) (c := k7c8) (by decide +kernel) rfl rfl rfl (by decide +kernel)
set_option maxRecDepth 65536 in
theorem w_c8 : (Jvm.Cond.code ({ cls := "jdk/internal/util/Preconditions", name := "checkIndex", desc := "(IILjava/util/function/BiFunction;)I" } : Jvm.MethodName) jdk_41_method_11_code (3 : Nat) (Option.some Jvm.ClassFile.FieldType.int)).before args0 about1 = true := code_word (m := ⟨9, 1⟩) (meth := k9m1) (c := k9c1) (by decide +kernel) rfl rfl rfl (by decide +kernel)
set_option maxRecDepth 65536 in
theorem w_c9 : (Jvm.Cond.code ({ cls := "com/example/tallymark/tallymark/ScoringOfPinLaw", name := "make", desc := "(I[C)Ljava/lang/String;" } : Jvm.MethodName) method_4_code (2 : Nat) (Option.some (Jvm.ClassFile.FieldType.object "java/lang/String"))).before args0 about1 = true := code_word (m := ⟨1, 3⟩) (meth := k1m3) (c := k1c3) (by decide +kernel) rfl rfl rfl (by decide +kernel)
set_option maxRecDepth 65536 in
theorem w_c10 : (Jvm.Cond.code ({ cls := "java/lang/String", name := "<init>", desc := "([C)V" } : Jvm.MethodName) jdk_42_method_3_code (2 : Nat) (Option.none : Option Jvm.ClassFile.FieldType)).before args0 about1 = true := code_word (m := ⟨7, 1⟩) (meth := k7m1) (c := k7c1) (by decide +kernel) rfl rfl rfl (by decide +kernel)
set_option maxRecDepth 65536 in
theorem w_c11 : (Jvm.Cond.code ({ cls := "java/lang/String", name := "<init>", desc := "([CIILjava/lang/Void;)V" } : Jvm.MethodName) jdk_42_method_149_code (6 : Nat) (Option.none : Option Jvm.ClassFile.FieldType)).before args0 about1 = true := code_word (m := ⟨7, 5⟩) (meth := k7m5) (c := k7c5) (by decide +kernel) rfl rfl rfl (by decide +kernel)
set_option maxRecDepth 65536 in
theorem w_c12 : (Jvm.Cond.code ({ cls := "java/lang/Object", name := "<init>", desc := "()V" } : Jvm.MethodName) object_method_1_code (1 : Nat) (Option.none : Option Jvm.ClassFile.FieldType)).before args0 about1 = true := code_word (m := ⟨0, 0⟩) (meth := k0m0) (c := k0c0) (by decide +kernel) rfl rfl rfl (by decide +kernel)
set_option maxRecDepth 65536 in
theorem w_c13 : (Jvm.Cond.code ({ cls := "java/lang/StringUTF16", name := "compress", desc := "([CII)[B" } : Jvm.MethodName) jdk_52_method_16_code (6 : Nat) (Option.some (Jvm.ClassFile.FieldType.array Jvm.ClassFile.FieldType.byte))).before args0 about1 = true := code_word (m := ⟨10, 2⟩) (meth := k10m2) (c := k10c2) (by decide +kernel) rfl rfl rfl (by decide +kernel)
set_option maxRecDepth 65536 in
theorem w_c14 : (Jvm.Cond.code ({ cls := "java/lang/StringUTF16", name := "compress", desc := "([CI[BII)I" } : Jvm.MethodName) jdk_52_method_21_code (7 : Nat) (Option.some Jvm.ClassFile.FieldType.int)).before args0 about1 = true := code_word (m := ⟨10, 3⟩) (meth := k10m3) (c := k10c3) (by decide +kernel) rfl rfl rfl (by decide +kernel)
set_option maxRecDepth 65536 in
theorem w_c15 : (Jvm.Cond.code ({ cls := "java/lang/StringUTF16", name := "coderFromArrayLen", desc := "([BI)B" } : Jvm.MethodName) jdk_52_method_15_code (2 : Nat) (Option.some Jvm.ClassFile.FieldType.byte)).before args0 about1 = true := code_word (m := ⟨10, 1⟩) (meth := k10m1) (c := k10c1) (by decide +kernel) rfl rfl rfl (by decide +kernel)
set_option maxRecDepth 65536 in
theorem w_c16 : (Jvm.Cond.code ({ cls := "com/example/tallymark/tallymark/Scoring", name := "of", desc := "(Ljava/lang/String;)Lcom/example/tallymark/tallymark/Scoring;" } : Jvm.MethodName) prog_16_method_4_code (5 : Nat) (Option.some (Jvm.ClassFile.FieldType.object "com/example/tallymark/tallymark/Scoring"))).before args0 about1 = true := code_word (m := ⟨12, 1⟩) (meth := k12m1) (c := k12c1) (by decide +kernel) rfl rfl rfl (by decide +kernel)
set_option maxRecDepth 65536 in
theorem w_c17 : (Jvm.Cond.code ({ cls := "com/example/tallymark/tallymark/Scoring", name := "values", desc := "()[Lcom/example/tallymark/tallymark/Scoring;" } : Jvm.MethodName) prog_16_method_1_code (0 : Nat) (Option.some (Jvm.ClassFile.FieldType.array (Jvm.ClassFile.FieldType.object "com/example/tallymark/tallymark/Scoring")))).before args0 about1 = true := code_word (m := ⟨12, 0⟩) (meth := k12m0) (c := k12c0) (by decide +kernel) rfl rfl rfl (by decide +kernel)
set_option maxRecDepth 65536 in
theorem w_c18 : (Jvm.Cond.code ({ cls := "java/lang/String", name := "equals", desc := "(Ljava/lang/Object;)Z" } : Jvm.MethodName) jdk_42_method_66_code (3 : Nat) (Option.some Jvm.ClassFile.FieldType.boolean)).before args0 about1 = true := code_word (m := ⟨7, 4⟩) (meth := k7m4) (c := k7c4) (by decide +kernel) rfl rfl rfl (by decide +kernel)
set_option maxRecDepth 65536 in
theorem w_c19 : (Jvm.Cond.code ({ cls := "java/lang/StringLatin1", name := "equals", desc := "([B[B)Z" } : Jvm.MethodName) jdk_43_method_13_code (3 : Nat) (Option.some Jvm.ClassFile.FieldType.boolean)).before args0 about1 = true := code_word (m := ⟨8, 2⟩) (meth := k8m2) (c := k8c2) (by decide +kernel) rfl rfl rfl (by decide +kernel)
set_option maxRecDepth 65536 in
theorem w_c20 : (Jvm.Cond.code ({ cls := "com/example/tallymark/tallymark/ScoringOfPinLaw", name := "expected", desc := "(Ljava/lang/String;)Lcom/example/tallymark/tallymark/Scoring;" } : Jvm.MethodName) method_5_code (1 : Nat) (Option.some (Jvm.ClassFile.FieldType.object "com/example/tallymark/tallymark/Scoring"))).before args0 about1 = true := code_word (m := ⟨1, 4⟩) (meth := k1m4) (c := k1c4) (by decide +kernel) rfl rfl rfl (by decide +kernel)
def codes1 : List Jvm.Cond := [Jvm.Cond.code x code maxLocals ret, Jvm.Cond.code ({ cls := "java/lang/String", name := "length", desc := "()I" } : Jvm.MethodName) jdk_42_method_54_code (1 : Nat) (Option.some Jvm.ClassFile.FieldType.int), Jvm.Cond.code ({ cls := "java/lang/String", name := "coder", desc := "()B" } : Jvm.MethodName) jdk_42_method_152_code (1 : Nat) (Option.some Jvm.ClassFile.FieldType.byte), Jvm.Cond.code ({ cls := "com/example/tallymark/tallymark/ScoringOfPinLaw", name := "at", desc := "(Ljava/lang/String;IICC)C" } : Jvm.MethodName) method_3_code (5 : Nat) (Option.some Jvm.ClassFile.FieldType.char), Jvm.Cond.code ({ cls := "java/lang/String", name := "charAt", desc := "(I)C" } : Jvm.MethodName) jdk_42_method_56_code (2 : Nat) (Option.some Jvm.ClassFile.FieldType.char), Jvm.Cond.code ({ cls := "java/lang/String", name := "isLatin1", desc := "()Z" } : Jvm.MethodName) jdk_42_method_154_code (1 : Nat) (Option.some Jvm.ClassFile.FieldType.boolean), Jvm.Cond.code ({ cls := "java/lang/StringLatin1", name := "charAt", desc := "([BI)C" } : Jvm.MethodName) jdk_43_method_2_code (2 : Nat) (Option.some Jvm.ClassFile.FieldType.char), Jvm.Cond.code ({ cls := "java/lang/String", name := "checkIndex", desc := "(II)V" } : Jvm.MethodName) jdk_42_method_155_code (2 : Nat) (Option.none : Option Jvm.ClassFile.FieldType), Jvm.Cond.code ({ cls := "jdk/internal/util/Preconditions", name := "checkIndex", desc := "(IILjava/util/function/BiFunction;)I" } : Jvm.MethodName) jdk_41_method_11_code (3 : Nat) (Option.some Jvm.ClassFile.FieldType.int), Jvm.Cond.code ({ cls := "com/example/tallymark/tallymark/ScoringOfPinLaw", name := "make", desc := "(I[C)Ljava/lang/String;" } : Jvm.MethodName) method_4_code (2 : Nat) (Option.some (Jvm.ClassFile.FieldType.object "java/lang/String")), Jvm.Cond.code ({ cls := "java/lang/String", name := "<init>", desc := "([C)V" } : Jvm.MethodName) jdk_42_method_3_code (2 : Nat) (Option.none : Option Jvm.ClassFile.FieldType), Jvm.Cond.code ({ cls := "java/lang/String", name := "<init>", desc := "([CIILjava/lang/Void;)V" } : Jvm.MethodName) jdk_42_method_149_code (6 : Nat) (Option.none : Option Jvm.ClassFile.FieldType), Jvm.Cond.code ({ cls := "java/lang/Object", name := "<init>", desc := "()V" } : Jvm.MethodName) object_method_1_code (1 : Nat) (Option.none : Option Jvm.ClassFile.FieldType), Jvm.Cond.code ({ cls := "java/lang/StringUTF16", name := "compress", desc := "([CII)[B" } : Jvm.MethodName) jdk_52_method_16_code (6 : Nat) (Option.some (Jvm.ClassFile.FieldType.array Jvm.ClassFile.FieldType.byte)), Jvm.Cond.code ({ cls := "java/lang/StringUTF16", name := "compress", desc := "([CI[BII)I" } : Jvm.MethodName) jdk_52_method_21_code (7 : Nat) (Option.some Jvm.ClassFile.FieldType.int), Jvm.Cond.code ({ cls := "java/lang/StringUTF16", name := "coderFromArrayLen", desc := "([BI)B" } : Jvm.MethodName) jdk_52_method_15_code (2 : Nat) (Option.some Jvm.ClassFile.FieldType.byte), Jvm.Cond.code ({ cls := "com/example/tallymark/tallymark/Scoring", name := "of", desc := "(Ljava/lang/String;)Lcom/example/tallymark/tallymark/Scoring;" } : Jvm.MethodName) prog_16_method_4_code (5 : Nat) (Option.some (Jvm.ClassFile.FieldType.object "com/example/tallymark/tallymark/Scoring")), Jvm.Cond.code ({ cls := "com/example/tallymark/tallymark/Scoring", name := "values", desc := "()[Lcom/example/tallymark/tallymark/Scoring;" } : Jvm.MethodName) prog_16_method_1_code (0 : Nat) (Option.some (Jvm.ClassFile.FieldType.array (Jvm.ClassFile.FieldType.object "com/example/tallymark/tallymark/Scoring"))), Jvm.Cond.code ({ cls := "java/lang/String", name := "equals", desc := "(Ljava/lang/Object;)Z" } : Jvm.MethodName) jdk_42_method_66_code (3 : Nat) (Option.some Jvm.ClassFile.FieldType.boolean), Jvm.Cond.code ({ cls := "java/lang/StringLatin1", name := "equals", desc := "([B[B)Z" } : Jvm.MethodName) jdk_43_method_13_code (3 : Nat) (Option.some Jvm.ClassFile.FieldType.boolean), Jvm.Cond.code ({ cls := "com/example/tallymark/tallymark/ScoringOfPinLaw", name := "expected", desc := "(Ljava/lang/String;)Lcom/example/tallymark/tallymark/Scoring;" } : Jvm.MethodName) method_5_code (1 : Nat) (Option.some (Jvm.ClassFile.FieldType.object "com/example/tallymark/tallymark/Scoring"))]
set_option maxRecDepth 65536 in
theorem codes_eq : words1.filter isCode = codes1 := rfl
theorem w_codes : ∀ c ∈ words1.filter isCode, c.before args0 about1 = true := by
  rw [codes_eq]
  intro c hc
  simp only [codes1, List.mem_cons, List.not_mem_nil, or_false] at hc
  rcases hc with rfl | rfl | rfl | rfl | rfl | rfl | rfl | rfl | rfl | rfl | rfl | rfl | rfl | rfl | rfl | rfl | rfl | rfl | rfl | rfl | rfl
  · exact w_c0
  · exact w_c1
  · exact w_c2
  · exact w_c3
  · exact w_c4
  · exact w_c5
  · exact w_c6
  · exact w_c7
  · exact w_c8
  · exact w_c9
  · exact w_c10
  · exact w_c11
  · exact w_c12
  · exact w_c13
  · exact w_c14
  · exact w_c15
  · exact w_c16
  · exact w_c17
  · exact w_c18
  · exact w_c19
  · exact w_c20
set_option maxRecDepth 65536 in
theorem w_t1 : (words1.take 24).all (fun c => isCode c || c.before args0 about1) = true := by decide +kernel
set_option maxRecDepth 65536 in
theorem w_t2 : ((words1.drop 24).take 24).all (fun c => isCode c || c.before args0 about1) = true := by decide +kernel
set_option maxRecDepth 65536 in
theorem w_t3 : (((words1.drop 24).drop 24).take 24).all (fun c => isCode c || c.before args0 about1) = true := by decide +kernel
set_option maxRecDepth 65536 in
theorem w_t4 : ((((words1.drop 24).drop 24).drop 24).take 24).all (fun c => isCode c || c.before args0 about1) = true := by decide +kernel
set_option maxRecDepth 65536 in
theorem w_t5 : ((((words1.drop 24).drop 24).drop 24).drop 24).all (fun c => isCode c || c.before args0 about1) = true := by decide +kernel
theorem w_tables : (allAtoms (Jvm.Cond.code x code maxLocals ret :: tables_1)).before args0 about1 = true := by
  rw [allAtoms_all]
  show words1.all (fun c => c.before args0 about1) = true
  refine all_split ?_ w_codes
  rw [← List.take_append_drop 24 words1, List.all_append, w_t1, ← List.take_append_drop 24 (words1.drop 24), List.all_append, w_t2, ← List.take_append_drop 24 ((words1.drop 24).drop 24), List.all_append, w_t3, ← List.take_append_drop 24 (((words1.drop 24).drop 24).drop 24), List.all_append, w_t4, w_t5]
  rfl
set_option maxRecDepth 65536 in
theorem w_rest : rest_1_c.before args0 about1 = true := by decide +kernel
set_option maxRecDepth 65536 in
theorem w_case : (Jvm.Cond.and given_1 narrow_1).before args0 about1 = true := by decide +kernel
set_option maxRecDepth 65536 in
theorem w_consts : constsHeld consts_1 about1 := Jvm.Lit.constsHeldB_iff.mp (by decide +kernel)
theorem w_applies : (headSpec (Jvm.Cond.code x code maxLocals ret :: tables_1) room_1).applies x e0.platform about1 = true :=
  (Spec.applies_iff w_frames).mpr ⟨w_running, w_runnable, w_alone, w_named, w_hears, w_ripe, w_room, w_tables⟩
theorem atStart : AtStart classFile x code maxLocals ret World_1 tables_1 room_1 Calls_1 rest_1 Pre_1 launch0 p0 e0 about1 theMethod args0 below0 :=
  ⟨lists_1, trivial, launch0.admits_env _ _ _, launch0.least_env, fairChoices_fair.cas, fairChoices_fair.clock, w_frames, w_args, w_heap, w_applies, ⟨w_consts, trivial⟩, w_rest, w_case⟩
end start1
theorem witness_1 : WitnessClaimed_1 := ⟨start1.p0, start1.e0, start1.about1, start1.theMethod, start1.args0, start1.below0, start1.atStart⟩
end Jvm.Pilot.@@N@@
