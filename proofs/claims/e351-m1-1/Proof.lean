import JvmDerived
import JvmDerived.Pilot.@@N@@Statement
import JvmDerived.Pilot.@@N@@Code
set_option linter.unusedVariables false
set_option linter.unusedSimpArgs false
namespace Jvm.Pilot.@@N@@
open Jvm Jvm.ClassFile Sem Op Lib Jvm.Free Jvm.Stand Jvm.LawKit Jvm.RoadKit Bundle Jvm.Pilot.@@N@@.Jvm.D
abbrev o_K : Type := Program × Launch × Env × Room × State × MethodId × Array Value × List Frame × Method × Code × State × Nat × State × (List Addr × Nat)
/-- a frame with its monitor entries -/
abbrev o_F (Ef : List Addr × Nat) (m : MethodId) (pc : Nat) (ls : Array Slot) (st : List Value) : JFrame := { method := m, pc := pc, locals := ls, stack := st, locked := none, entered := Ef.1, monitorRoom := Ef.2 }
/-- from heap h, with k cells and n slots made so far, at pc with locals Ls and stack St, the invocation comes to its end, and Q holds of what it returns and of the heap -/
def o_Go (κ : o_K) (Q : Option Value → Heap → Prop) (h : Heap) (k n pc : Nat) (Ls : List Slot) (St : List Value) : Prop :=
  match κ with
  | (p, l, e, R, s, m, args, below, meth, c, Z, n0, s0, Ef) =>
    ∀ (T : State) (locs : List Loc), Stand p l e R s m args below meth c T locs k n → Fr n0 locs → T.heap = h →
      ∃ (s₂ : State) (o : Outcome), Steps p.tables e below (T.setTop (o_F Ef m pc Ls.toArray St)) s₂ ∧ s₂.status = .running ∧ Ended s₂ below o ∧
        ∃ v L, o = .returned v ∧ (Q v s₂.heap ∧ Fr n0 L) ∧ FrameEnd s0 o s₂ L R.cells R.slots
/-- the standing facts of one invocation of y, her frame's monitor entries Ef; fin: the walk stands over the invocation's true start -/
def o_BE (κ : o_K) (l : Launch) (Z : State) (n0 : Nat) (R : Room) (y : MethodName) (bytes : ByteArray) (ml : Nat) (ret : Option FieldType) (Ef : List Addr × Nat) (fin : Bool) : Prop :=
  ∃ (p : Program) (e : Env) (s : State) (m : MethodId) (args : Array Value) (below : List Frame) (meth : Method) (c : Code) (s0 : State), κ = (p, l, e, R, s, m, args, below, meth, c, Z, n0, s0, Ef) ∧ (fin = true → s0 = s) ∧ p.tables.exec = Jvm.exec ∧ Z.Warmed39 s.vm ∧ c.code = bytes ∧ c.maxLocals = ml ∧ s.vm.findClass y.cls = some m.cls ∧ meth.sig.returnType = ret ∧ meth.locks = false ∧ meth.name = y.name
abbrev o_Bo (κ : o_K) (l : Launch) (Z : State) (n0 : Nat) (R : Room) (y : MethodName) (bytes : ByteArray) (ml : Nat) (ret : Option FieldType) : Prop := o_BE κ l Z n0 R y bytes ml ret ([], 0) true
/-- a lay in the heap at the invocation -/
def o_old (κ : o_K) (a : Addr) : Prop := match κ with
  | (p, l, e, R, s, m, args, below, meth, c, Z, n0, s0, Ef) => a < s.heap.size
/-- the contract of y at the arguments 'as' and the heap h -/
def o_C (l : Launch) (Z : State) (n0 : Nat) (y : MethodName) (bytes : ByteArray) (ml : Nat) (ret : Option FieldType) (rm : Room) (as : List Value) (h : Heap) (Q : Option Value → Heap → Prop) : Prop :=
  ∀ ws : List Jvm.Cond, MetFree l y (head1 (Jvm.Cond.code y bytes ml ret :: ws) rm) (fun a U => a = as.toArray ∧ Z.Warmed39 U.vm ∧ U.heap = h) (fun _ _ _ _ _ => True) (fun _ U o U' => ∃ v L, o = .returned v ∧ (Q v U'.heap ∧ Fr n0 L) ∧ FrameEnd U o U' L rm.cells rm.slots)
theorem o_lt {a b : Nat} (h : a < b) : a < b := h
theorem o_le {a b : Nat} (h : a ≤ b) : a ≤ b := h
theorem o_ne {a b : Nat} (h : a ≠ b) : a ≠ b := h
theorem o_eq {a b : Nat} (h : a = b) : a = b := h
section Fw
variable {κ : o_K} {l : Launch} {Z : State} {n0 : Nat} {R : Room} {y : MethodName} {bytes : ByteArray} {ml : Nat} {ret : Option FieldType} {Q : Option Value → Heap → Prop} {h : Heap} {k n pc : Nat} {Ls : List Slot} {St : List Value} {a0 : Array Value} {Ef : List Addr × Nat} {fin : Bool}
theorem o_body {rm : Room} {as : List Value} (hpn : plainFor y = true) (hef : argsToLocals as.toArray ml = Ls.toArray) (H : ∀ κ, o_Bo κ l Z n0 rm y bytes ml ret → o_Go κ Q h 0 0 0 Ls []) : o_C l Z n0 y bytes ml ret rm as h Q := by
  intro ws
  refine MetFree.of_bodySF hpn hisR ?_
  intro p e s m args below meth c s₁ Bd hml0 hP hK
  obtain ⟨rfl, hZ, hh⟩ := hP
  have X0 : Stand p l e rm s m as.toArray below meth c s₁ [] 0 0 := Stand.of_body Bd
  have e0 : s₁.heap = h := by rw [← hh, Bd.state]; rfl
  have hown := findClass_of_methodNamed Bd.named
  have hnm := (name_of_methodNamed Bd.named Bd.method).1
  obtain ⟨s₂, o, st, r1, r2, v, L, rfl, ⟨q, N⟩, fe⟩ := H (p, l, e, rm, s, m, as.toArray, below, meth, c, Z, n0, s, ([], 0)) ⟨p, e, s, m, _, below, meth, c, s, rfl, fun _ => rfl, Bd.exec, hZ, Bd.bytes, hml0, hown, Bd.returns, Bd.notSynchronized, hnm⟩ s₁ [] X0 (Fr.nil _) e0
  refine ⟨s₂, _, ?_, r1, r2, v, L, rfl, ⟨q, N⟩, fe⟩
  exact castTop (g' := mkF m 0 Ls.toArray []) (by unfold entryFrame; rw [hef]) st
theorem o_C.imp {rm : Room} {as : List Value} {Q' : Option Value → Heap → Prop} (C : o_C l Z n0 y bytes ml ret rm as h Q) (H : ∀ v h', Q v h' → Q' v h') : o_C l Z n0 y bytes ml ret rm as h Q' := by
  intro ws p e ha hc hk s m args below hf happ hP hK
  obtain ⟨n, o, h1, h2, h3, v, L, e1, ⟨q, N⟩, fe⟩ := C ws p e ha hc hk s m args below hf happ hP hK
  exact ⟨n, o, h1, h2, h3, v, L, e1, ⟨H _ _ q, N⟩, fe⟩
theorem o_imp {Q' : Option Value → Heap → Prop} (H : ∀ v h', Q v h' → Q' v h') (G : o_Go κ Q h k n pc Ls St) : o_Go κ Q' h k n pc Ls St := by
  obtain ⟨p, l, e, R, s, m, args, below, meth, c, Z, n0, s0, Ef⟩ := κ
  intro T locs X N eT
  obtain ⟨s₂, o, st, r1, r2, v, L, e1, ⟨q, N⟩, fe⟩ := G T locs X N eT
  exact ⟨s₂, o, st, r1, r2, v, L, e1, ⟨H _ _ q, N⟩, fe⟩
theorem o_mono {k' n' : Nat} (hk : k ≤ k') (hn : n ≤ n') (G : o_Go κ Q h k' n' pc Ls St) : o_Go κ Q h k n pc Ls St := by
  obtain ⟨p, l, e, R, s, m, args, below, meth, c, Z, n0, s0, Ef⟩ := κ
  intro T locs X N eT
  exact G T locs (X.more hk hn) N eT
theorem o_sim (B : o_BE κ l Z n0 R y bytes ml ret Ef fin) {pc' : Nat} {Ls' : List Slot} {St' : List Value} (f : ∀ (p : Program) (e : Env) (m : MethodId) (below : List Frame) (c : Code) (T target : State), At T m c below → p.tables.exec = Jvm.exec → c.code = bytes → Steps p.tables e below (T.setTop (o_F Ef m pc' Ls'.toArray St')) target → Steps p.tables e below (T.setTop (o_F Ef m pc Ls.toArray St)) target) (K : o_Go κ Q h k n pc' Ls' St') : o_Go κ Q h k n pc Ls St := by
  obtain ⟨p, e, s, m, args, below, meth, c, s0, rfl, hs0, hx, hZ, hby, hml, hown, hret, hlk, hnm⟩ := B
  intro T locs X N eT
  obtain ⟨s₂, o, st, r⟩ := K T locs X N eT
  exact ⟨s₂, o, f p e m below c T s₂ X.here hx hby st, r⟩
theorem o_get {i : Nat} {x : Slot} (hl : Ls[i]? = some x) : Ls.toArray[i]? = some x := by simpa using hl
def o_ok1 : Slot → Bool
  | .unset => true
  | .val w => w.category == 1
  | .second => false
theorem o_ok1_spec {o : Slot} (ho : o_ok1 o = true) : o = .unset ∨ ∃ w, o = .val w ∧ w.category = 1 := by
  cases o <;> simp [o_ok1] at ho ⊢; exact ho
theorem o_store1 {i : Nat} {o : Slot} {v : Value} (hold : Ls[i]? = some o) (ho : o_ok1 o = true) (hv : v.category = 1) : storeLocals Ls.toArray i v = some (Ls.set i (.val v)).toArray := by
  rw [XS.store1 (o_get hold) (o_ok1_spec ho) hv]; simp
def o_okl : Slot → Slot → Bool
  | .second, _ => false
  | _, .val w => w.category == 1
  | _, _ => true
theorem o_storel {i : Nat} {o o' : Slot} {v : Value} (hold : Ls[i]? = some o) (hold' : Ls[i + 1]? = some o') (ho : o_okl o o' = true) (hv : v.category = 2) : storeLocals Ls.toArray i v = some ((Ls.set i (.val v)).set (i + 1) .second).toArray := by
  obtain ⟨hi, hget⟩ := List.getElem?_eq_some_iff.mp hold
  obtain ⟨hi', hget'⟩ := List.getElem?_eq_some_iff.mp hold'
  have hne : i ≠ i + 1 := by omega
  have hne' : i + 1 ≠ i := by omega
  cases o with
  | second => simp [o_okl] at ho
  | unset =>
    cases o' with
    | val w =>
      have hw : w.category = 1 := by simpa [o_okl] using ho
      simp [storeLocals, storeSelf, setAt, hi, hi', hget, hget', hv, hw, List.getElem?_set, hne, hold, hold']
    | _ => simp [storeLocals, storeSelf, setAt, hi, hi', hget, hget', hv, List.getElem?_set, hne, hold, hold']
  | val u =>
    by_cases hu : u.category = 2
    · cases o' with
      | val w =>
        have hw : w.category = 1 := by simpa [o_okl] using ho
        simp [storeLocals, storeSelf, setAt, hi, hi', hget, hget', hv, hu, hw, List.getElem?_set, hne, hne', hold, hold', List.set_comm _ _ hne', List.set_set]
      | _ => simp [storeLocals, storeSelf, setAt, hi, hi', hget, hget', hv, hu, List.getElem?_set, hne, hne', hold, hold', List.set_comm _ _ hne', List.set_set]
    · cases o' with
      | val w =>
        have hw : w.category = 1 := by simpa [o_okl] using ho
        simp [storeLocals, storeSelf, setAt, hi, hi', hget, hget', hv, hu, hw, List.getElem?_set, hne, hold, hold']
      | _ => simp [storeLocals, storeSelf, setAt, hi, hi', hget, hget', hv, hu, List.getElem?_set, hne, hold, hold']
theorem o_iloadN (B : o_BE κ l Z n0 R y bytes ml ret Ef fin) {i : Fin 4} {x : Int32} (hd : decode bytes pc = .ok (.iload_n i, 1)) (hl : Ls[i.val]? = some (.val (.int x))) (K : o_Go κ Q h k n (pc + 1) Ls (.int x :: St)) : o_Go κ Q h k n pc Ls (St) := o_sim B (fun p e m below c T target X hx hby st => XS.iloadN X hx rfl (hb hby hd) (o_get hl) st) K
theorem o_iload (B : o_BE κ l Z n0 R y bytes ml ret Ef fin) {i : Nat} {x : Int32} (hd : decode bytes pc = .ok (.iload i, 2)) (hl : Ls[i]? = some (.val (.int x))) (K : o_Go κ Q h k n (pc + 2) Ls (.int x :: St)) : o_Go κ Q h k n pc Ls (St) := o_sim B (fun p e m below c T target X hx hby st => XS.iload X hx rfl (hb hby hd) (o_get hl) st) K
theorem o_lloadN (B : o_BE κ l Z n0 R y bytes ml ret Ef fin) {i : Fin 4} {x : Int64} (hd : decode bytes pc = .ok (.lload_n i, 1)) (hl : Ls[i.val]? = some (.val (.long x))) (K : o_Go κ Q h k n (pc + 1) Ls (.long x :: St)) : o_Go κ Q h k n pc Ls (St) := o_sim B (fun p e m below c T target X hx hby st => XT.lloadN X hx rfl (hb hby hd) (o_get hl) st) K
theorem o_lload (B : o_BE κ l Z n0 R y bytes ml ret Ef fin) {i : Nat} {x : Int64} (hd : decode bytes pc = .ok (.lload i, 2)) (hl : Ls[i]? = some (.val (.long x))) (K : o_Go κ Q h k n (pc + 2) Ls (.long x :: St)) : o_Go κ Q h k n pc Ls (St) := o_sim B (fun p e m below c T target X hx hby st => XT.lload X hx rfl (hb hby hd) (o_get hl) st) K
theorem o_aloadN (B : o_BE κ l Z n0 R y bytes ml ret Ef fin) {i : Fin 4} {v : Value} (hd : decode bytes pc = .ok (.aload_n i, 1)) (hl : Ls[i.val]? = some (.val v)) (hv : v.isRef = true) (K : o_Go κ Q h k n (pc + 1) Ls (v :: St)) : o_Go κ Q h k n pc Ls (St) := o_sim B (fun p e m below c T target X hx hby st => XS.aloadN X hx rfl (hb hby hd) (o_get hl) hv st) K
theorem o_aload (B : o_BE κ l Z n0 R y bytes ml ret Ef fin) {i : Nat} {v : Value} (hd : decode bytes pc = .ok (.aload i, 2)) (hl : Ls[i]? = some (.val v)) (hv : v.isRef = true) (K : o_Go κ Q h k n (pc + 2) Ls (v :: St)) : o_Go κ Q h k n pc Ls (St) := o_sim B (fun p e m below c T target X hx hby st => XS.aload X hx rfl (hb hby hd) (o_get hl) hv st) K
theorem o_istoreN (B : o_BE κ l Z n0 R y bytes ml ret Ef fin) {i : Fin 4} {x : Int32} {o : Slot} (hd : decode bytes pc = .ok (.istore_n i, 1)) (hold : Ls[i.val]? = some o) (ho : o_ok1 o = true) (K : o_Go κ Q h k n (pc + 1) (Ls.set i.val (.val (.int x))) (St)) : o_Go κ Q h k n pc Ls (.int x :: St) := o_sim B (fun p e m below c T target X hx hby st => XS.istoreN X hx rfl (hb hby hd) rfl (o_store1 hold ho rfl) st) K
theorem o_istore (B : o_BE κ l Z n0 R y bytes ml ret Ef fin) {i : Nat} {x : Int32} {o : Slot} (hd : decode bytes pc = .ok (.istore i, 2)) (hold : Ls[i]? = some o) (ho : o_ok1 o = true) (K : o_Go κ Q h k n (pc + 2) (Ls.set i (.val (.int x))) (St)) : o_Go κ Q h k n pc Ls (.int x :: St) := o_sim B (fun p e m below c T target X hx hby st => XS.istore X hx rfl (hb hby hd) rfl (o_store1 hold ho rfl) st) K
theorem o_astoreN (B : o_BE κ l Z n0 R y bytes ml ret Ef fin) {i : Fin 4} {v : Value} {o : Slot} (hd : decode bytes pc = .ok (.astore_n i, 1)) (hv : v.isRef = true) (hold : Ls[i.val]? = some o) (ho : o_ok1 o = true) (K : o_Go κ Q h k n (pc + 1) (Ls.set i.val (.val v)) (St)) : o_Go κ Q h k n pc Ls (v :: St) := o_sim B (fun p e m below c T target X hx hby st => XS.astoreN X hx rfl (hb hby hd) rfl hv (o_store1 hold ho (by cases v <;> simp [Value.isRef] at hv <;> rfl)) st) K
theorem o_astore (B : o_BE κ l Z n0 R y bytes ml ret Ef fin) {i : Nat} {v : Value} {o : Slot} (hd : decode bytes pc = .ok (.astore i, 2)) (hv : v.isRef = true) (hold : Ls[i]? = some o) (ho : o_ok1 o = true) (K : o_Go κ Q h k n (pc + 2) (Ls.set i (.val v)) (St)) : o_Go κ Q h k n pc Ls (v :: St) := o_sim B (fun p e m below c T target X hx hby st => XS.astore X hx rfl (hb hby hd) rfl hv (o_store1 hold ho (by cases v <;> simp [Value.isRef] at hv <;> rfl)) st) K
theorem o_lstoreN (B : o_BE κ l Z n0 R y bytes ml ret Ef fin) {i : Fin 4} {x : Int64} {o o2 : Slot} (hd : decode bytes pc = .ok (.lstore_n i, 1)) (hold : Ls[i.val]? = some o) (hold2 : Ls[i.val + 1]? = some o2) (ho : o_okl o o2 = true) (K : o_Go κ Q h k n (pc + 1) ((Ls.set i.val (.val (.long x))).set (i.val + 1) .second) (St)) : o_Go κ Q h k n pc Ls (.long x :: St) := o_sim B (fun p e m below c T target X hx hby st => XT.lstoreN X hx rfl (hb hby hd) rfl (o_storel hold hold2 ho rfl) st) K
theorem o_lstore (B : o_BE κ l Z n0 R y bytes ml ret Ef fin) {i : Nat} {x : Int64} {o o2 : Slot} (hd : decode bytes pc = .ok (.lstore i, 2)) (hold : Ls[i]? = some o) (hold2 : Ls[i + 1]? = some o2) (ho : o_okl o o2 = true) (K : o_Go κ Q h k n (pc + 2) ((Ls.set i (.val (.long x))).set (i + 1) .second) (St)) : o_Go κ Q h k n pc Ls (.long x :: St) := o_sim B (fun p e m below c T target X hx hby st => XT.lstore X hx rfl (hb hby hd) rfl (o_storel hold hold2 ho rfl) st) K
theorem o_iinc (B : o_BE κ l Z n0 R y bytes ml ret Ef fin) {i : Nat} {cst : Int} {x : Int32} (v : Int32) (hd : decode bytes pc = .ok (.iinc i cst, 3)) (hv : Int32.ofInt cst = v) (hl : Ls[i]? = some (.val (.int x))) (K : o_Go κ Q h k n (pc + 3) (Ls.set i (.val (.int (x + v)))) (St)) : o_Go κ Q h k n pc Ls (St) := o_sim B (fun p e m below c T target X hx hby st => XT.iincV X hx rfl v (hb hby hd) hv (o_get hl) (o_store1 hl rfl rfl) st) K
theorem o_iconst (B : o_BE κ l Z n0 R y bytes ml ret Ef fin) {i : Int} (v : Int32) (hd : decode bytes pc = .ok (.iconst i, 1)) (hv : Int32.ofInt i = v) (K : o_Go κ Q h k n (pc + 1) Ls (.int v :: St)) : o_Go κ Q h k n pc Ls (St) := o_sim B (fun p e m below c T target X hx hby st => XT.iconstV X hx rfl v (hb hby hd) hv st) K
theorem o_bipush (B : o_BE κ l Z n0 R y bytes ml ret Ef fin) {i : Int} (v : Int32) (hd : decode bytes pc = .ok (.bipush i, 2)) (hv : (Int8.ofInt i).toInt32 = v) (K : o_Go κ Q h k n (pc + 2) Ls (.int v :: St)) : o_Go κ Q h k n pc Ls (St) := o_sim B (fun p e m below c T target X hx hby st => XT.bipushV X hx rfl v (hb hby hd) hv st) K
theorem o_sipush (B : o_BE κ l Z n0 R y bytes ml ret Ef fin) {i : Int} (v : Int32) (hd : decode bytes pc = .ok (.sipush i, 3)) (hv : (Int16.ofInt i).toInt32 = v) (K : o_Go κ Q h k n (pc + 3) Ls (.int v :: St)) : o_Go κ Q h k n pc Ls (St) := o_sim B (fun p e m below c T target X hx hby st => XT.sipushV X hx rfl v (hb hby hd) hv st) K
theorem o_lconst (B : o_BE κ l Z n0 R y bytes ml ret Ef fin) {i : Fin 2} (v : Int64) (hd : decode bytes pc = .ok (.lconst i, 1)) (hv : Int64.ofNat i = v) (K : o_Go κ Q h k n (pc + 1) Ls (.long v :: St)) : o_Go κ Q h k n pc Ls (St) := o_sim B (fun p e m below c T target X hx hby st => XT.lconstV X hx rfl v (hb hby hd) hv st) K
theorem o_aconst_null (B : o_BE κ l Z n0 R y bytes ml ret Ef fin)  (hd : decode bytes pc = .ok (.aconst_null, 1)) (K : o_Go κ Q h k n (pc + 1) Ls (.null :: St)) : o_Go κ Q h k n pc Ls (St) := o_sim B (fun p e m below c T target X hx hby st => XS.aconstNull X hx rfl (hb hby hd) st) K
theorem o_iadd (B : o_BE κ l Z n0 R y bytes ml ret Ef fin) {x y : Int32} (hd : decode bytes pc = .ok (.iadd, 1)) (K : o_Go κ Q h k n (pc + 1) Ls (.int (x + y) :: St)) : o_Go κ Q h k n pc Ls (.int y :: .int x :: St) := o_sim B (fun p e m below c T target X hx hby st => XS.iadd X hx rfl (hb hby hd) rfl st) K
theorem o_isub (B : o_BE κ l Z n0 R y bytes ml ret Ef fin) {x y : Int32} (hd : decode bytes pc = .ok (.isub, 1)) (K : o_Go κ Q h k n (pc + 1) Ls (.int (x - y) :: St)) : o_Go κ Q h k n pc Ls (.int y :: .int x :: St) := o_sim B (fun p e m below c T target X hx hby st => XS.isub X hx rfl (hb hby hd) rfl st) K
theorem o_iand (B : o_BE κ l Z n0 R y bytes ml ret Ef fin) {x y : Int32} (hd : decode bytes pc = .ok (.iand, 1)) (K : o_Go κ Q h k n (pc + 1) Ls (.int (x &&& y) :: St)) : o_Go κ Q h k n pc Ls (.int y :: .int x :: St) := o_sim B (fun p e m below c T target X hx hby st => XS.iand X hx rfl (hb hby hd) rfl st) K
theorem o_imul (B : o_BE κ l Z n0 R y bytes ml ret Ef fin) {x y : Int32} (hd : decode bytes pc = .ok (.imul, 1)) (K : o_Go κ Q h k n (pc + 1) Ls (.int (x * y) :: St)) : o_Go κ Q h k n pc Ls (.int y :: .int x :: St) := o_sim B (fun p e m below c T target X hx hby st => XS.imul X hx rfl (hb hby hd) rfl st) K
theorem o_ior (B : o_BE κ l Z n0 R y bytes ml ret Ef fin) {x y : Int32} (hd : decode bytes pc = .ok (.ior, 1)) (K : o_Go κ Q h k n (pc + 1) Ls (.int (x ||| y) :: St)) : o_Go κ Q h k n pc Ls (.int y :: .int x :: St) := o_sim B (fun p e m below c T target X hx hby st => XT.ior X hx rfl (hb hby hd) rfl st) K
theorem o_ixor (B : o_BE κ l Z n0 R y bytes ml ret Ef fin) {x y : Int32} (hd : decode bytes pc = .ok (.ixor, 1)) (K : o_Go κ Q h k n (pc + 1) Ls (.int (x ^^^ y) :: St)) : o_Go κ Q h k n pc Ls (.int y :: .int x :: St) := o_sim B (fun p e m below c T target X hx hby st => XT.ixor X hx rfl (hb hby hd) rfl st) K
theorem o_ishl (B : o_BE κ l Z n0 R y bytes ml ret Ef fin) {x y : Int32} (hd : decode bytes pc = .ok (.ishl, 1)) (K : o_Go κ Q h k n (pc + 1) Ls (.int (x <<< (y &&& 31)) :: St)) : o_Go κ Q h k n pc Ls (.int y :: .int x :: St) := o_sim B (fun p e m below c T target X hx hby st => XT.ishl X hx rfl (hb hby hd) rfl st) K
theorem o_ishr (B : o_BE κ l Z n0 R y bytes ml ret Ef fin) {x y : Int32} (hd : decode bytes pc = .ok (.ishr, 1)) (K : o_Go κ Q h k n (pc + 1) Ls (.int (x >>> (y &&& 31)) :: St)) : o_Go κ Q h k n pc Ls (.int y :: .int x :: St) := o_sim B (fun p e m below c T target X hx hby st => XT.ishr X hx rfl (hb hby hd) rfl st) K
theorem o_iushr (B : o_BE κ l Z n0 R y bytes ml ret Ef fin) {x y : Int32} (hd : decode bytes pc = .ok (.iushr, 1)) (K : o_Go κ Q h k n (pc + 1) Ls (.int (XT.ushr x y) :: St)) : o_Go κ Q h k n pc Ls (.int y :: .int x :: St) := o_sim B (fun p e m below c T target X hx hby st => XT.iushr X hx rfl (hb hby hd) rfl st) K
theorem o_idiv (B : o_BE κ l Z n0 R y bytes ml ret Ef fin) {x y : Int32} (hd : decode bytes pc = .ok (.idiv, 1)) (hy : y ≠ 0) (K : o_Go κ Q h k n (pc + 1) Ls (.int (x / y) :: St)) : o_Go κ Q h k n pc Ls (.int y :: .int x :: St) := o_sim B (fun p e m below c T target X hx hby st => XS.idiv X hx rfl (hb hby hd) rfl hy st) K
theorem o_irem (B : o_BE κ l Z n0 R y bytes ml ret Ef fin) {x y : Int32} (hd : decode bytes pc = .ok (.irem, 1)) (hy : y ≠ 0) (K : o_Go κ Q h k n (pc + 1) Ls (.int (x % y) :: St)) : o_Go κ Q h k n pc Ls (.int y :: .int x :: St) := o_sim B (fun p e m below c T target X hx hby st => XS.irem X hx rfl (hb hby hd) rfl hy (by rw [irem_eq_mod]; exact st)) K
theorem o_ineg (B : o_BE κ l Z n0 R y bytes ml ret Ef fin) {x : Int32} (hd : decode bytes pc = .ok (.ineg, 1)) (K : o_Go κ Q h k n (pc + 1) Ls (.int (-x) :: St)) : o_Go κ Q h k n pc Ls (.int x :: St) := o_sim B (fun p e m below c T target X hx hby st => XS.ineg X hx rfl (hb hby hd) rfl st) K
theorem o_ladd (B : o_BE κ l Z n0 R y bytes ml ret Ef fin) {x y : Int64} (hd : decode bytes pc = .ok (.ladd, 1)) (K : o_Go κ Q h k n (pc + 1) Ls (.long (x + y) :: St)) : o_Go κ Q h k n pc Ls (.long y :: .long x :: St) := o_sim B (fun p e m below c T target X hx hby st => XT.ladd X hx rfl (hb hby hd) rfl st) K
theorem o_lsub (B : o_BE κ l Z n0 R y bytes ml ret Ef fin) {x y : Int64} (hd : decode bytes pc = .ok (.lsub, 1)) (K : o_Go κ Q h k n (pc + 1) Ls (.long (x - y) :: St)) : o_Go κ Q h k n pc Ls (.long y :: .long x :: St) := o_sim B (fun p e m below c T target X hx hby st => XT.lsub X hx rfl (hb hby hd) rfl st) K
theorem o_lmul (B : o_BE κ l Z n0 R y bytes ml ret Ef fin) {x y : Int64} (hd : decode bytes pc = .ok (.lmul, 1)) (K : o_Go κ Q h k n (pc + 1) Ls (.long (x * y) :: St)) : o_Go κ Q h k n pc Ls (.long y :: .long x :: St) := o_sim B (fun p e m below c T target X hx hby st => XT.lmul X hx rfl (hb hby hd) rfl st) K
theorem o_land (B : o_BE κ l Z n0 R y bytes ml ret Ef fin) {x y : Int64} (hd : decode bytes pc = .ok (.land, 1)) (K : o_Go κ Q h k n (pc + 1) Ls (.long (x &&& y) :: St)) : o_Go κ Q h k n pc Ls (.long y :: .long x :: St) := o_sim B (fun p e m below c T target X hx hby st => XT.land X hx rfl (hb hby hd) rfl st) K
theorem o_lor (B : o_BE κ l Z n0 R y bytes ml ret Ef fin) {x y : Int64} (hd : decode bytes pc = .ok (.lor, 1)) (K : o_Go κ Q h k n (pc + 1) Ls (.long (x ||| y) :: St)) : o_Go κ Q h k n pc Ls (.long y :: .long x :: St) := o_sim B (fun p e m below c T target X hx hby st => XT.lor X hx rfl (hb hby hd) rfl st) K
theorem o_lxor (B : o_BE κ l Z n0 R y bytes ml ret Ef fin) {x y : Int64} (hd : decode bytes pc = .ok (.lxor, 1)) (K : o_Go κ Q h k n (pc + 1) Ls (.long (x ^^^ y) :: St)) : o_Go κ Q h k n pc Ls (.long y :: .long x :: St) := o_sim B (fun p e m below c T target X hx hby st => XT.lxor X hx rfl (hb hby hd) rfl st) K
theorem o_lshl (B : o_BE κ l Z n0 R y bytes ml ret Ef fin) {x : Int64} {y : Int32} (hd : decode bytes pc = .ok (.lshl, 1)) (K : o_Go κ Q h k n (pc + 1) Ls (.long (x <<< (y.toInt64 &&& 63)) :: St)) : o_Go κ Q h k n pc Ls (.int y :: .long x :: St) := o_sim B (fun p e m below c T target X hx hby st => XT.lshl X hx rfl (hb hby hd) rfl st) K
theorem o_lshr (B : o_BE κ l Z n0 R y bytes ml ret Ef fin) {x : Int64} {y : Int32} (hd : decode bytes pc = .ok (.lshr, 1)) (K : o_Go κ Q h k n (pc + 1) Ls (.long (x >>> (y.toInt64 &&& 63)) :: St)) : o_Go κ Q h k n pc Ls (.int y :: .long x :: St) := o_sim B (fun p e m below c T target X hx hby st => XT.lshr X hx rfl (hb hby hd) rfl st) K
theorem o_lushr (B : o_BE κ l Z n0 R y bytes ml ret Ef fin) {x : Int64} {y : Int32} (hd : decode bytes pc = .ok (.lushr, 1)) (K : o_Go κ Q h k n (pc + 1) Ls (.long (XT.ushrL x y) :: St)) : o_Go κ Q h k n pc Ls (.int y :: .long x :: St) := o_sim B (fun p e m below c T target X hx hby st => XT.lushr X hx rfl (hb hby hd) rfl st) K
theorem o_ldiv (B : o_BE κ l Z n0 R y bytes ml ret Ef fin) {x y : Int64} (hd : decode bytes pc = .ok (.ldiv, 1)) (hy : y ≠ 0) (K : o_Go κ Q h k n (pc + 1) Ls (.long (x / y) :: St)) : o_Go κ Q h k n pc Ls (.long y :: .long x :: St) := o_sim B (fun p e m below c T target X hx hby st => XT.ldiv X hx rfl (hb hby hd) rfl hy st) K
theorem o_lrem (B : o_BE κ l Z n0 R y bytes ml ret Ef fin) {x y : Int64} (hd : decode bytes pc = .ok (.lrem, 1)) (hy : y ≠ 0) (K : o_Go κ Q h k n (pc + 1) Ls (.long (x - (x / y) * y) :: St)) : o_Go κ Q h k n pc Ls (.long y :: .long x :: St) := o_sim B (fun p e m below c T target X hx hby st => XT.lrem X hx rfl (hb hby hd) rfl hy st) K
theorem o_lneg (B : o_BE κ l Z n0 R y bytes ml ret Ef fin) {x : Int64} (hd : decode bytes pc = .ok (.lneg, 1)) (K : o_Go κ Q h k n (pc + 1) Ls (.long (-x) :: St)) : o_Go κ Q h k n pc Ls (.long x :: St) := o_sim B (fun p e m below c T target X hx hby st => XT.lneg X hx rfl (hb hby hd) rfl st) K
theorem o_i2l (B : o_BE κ l Z n0 R y bytes ml ret Ef fin) {x : Int32} (hd : decode bytes pc = .ok (.i2l, 1)) (K : o_Go κ Q h k n (pc + 1) Ls (.long x.toInt64 :: St)) : o_Go κ Q h k n pc Ls (.int x :: St) := o_sim B (fun p e m below c T target X hx hby st => XT.i2l X hx rfl (hb hby hd) rfl st) K
theorem o_l2i (B : o_BE κ l Z n0 R y bytes ml ret Ef fin) {x : Int64} (hd : decode bytes pc = .ok (.l2i, 1)) (K : o_Go κ Q h k n (pc + 1) Ls (.int x.toInt32 :: St)) : o_Go κ Q h k n pc Ls (.long x :: St) := o_sim B (fun p e m below c T target X hx hby st => XT.l2i X hx rfl (hb hby hd) rfl st) K
theorem o_lcmp (B : o_BE κ l Z n0 R y bytes ml ret Ef fin) {x y : Int64} (hd : decode bytes pc = .ok (.lcmp, 1)) (K : o_Go κ Q h k n (pc + 1) Ls (.int (XT.cmpL x y) :: St)) : o_Go κ Q h k n pc Ls (.long y :: .long x :: St) := o_sim B (fun p e m below c T target X hx hby st => XT.lcmp X hx rfl (hb hby hd) rfl st) K
theorem o_dup (B : o_BE κ l Z n0 R y bytes ml ret Ef fin) {v : Value} (hd : decode bytes pc = .ok (.dup, 1)) (hv : v.category = 1) (K : o_Go κ Q h k n (pc + 1) Ls (v :: v :: St)) : o_Go κ Q h k n pc Ls (v :: St) := o_sim B (fun p e m below c T target X hx hby st => XS.dup X hx rfl (hb hby hd) rfl hv st) K
theorem o_pop (B : o_BE κ l Z n0 R y bytes ml ret Ef fin) {v : Value} (hd : decode bytes pc = .ok (.pop, 1)) (hv : v.category = 1) (K : o_Go κ Q h k n (pc + 1) Ls (St)) : o_Go κ Q h k n pc Ls (v :: St) := o_sim B (fun p e m below c T target X hx hby st => XT.pop X hx rfl (hb hby hd) rfl hv st) K
theorem o_dup_x1 (B : o_BE κ l Z n0 R y bytes ml ret Ef fin) {v w : Value} (hd : decode bytes pc = .ok (.dup_x1, 1)) (hv : v.category = 1) (hw : w.category = 1) (K : o_Go κ Q h k n (pc + 1) Ls (v :: w :: v :: St)) : o_Go κ Q h k n pc Ls (v :: w :: St) := o_sim B (fun p e m below c T target X hx hby st => XT.dupX1 X hx rfl (hb hby hd) rfl hv hw st) K
theorem o_dup2 (B : o_BE κ l Z n0 R y bytes ml ret Ef fin) {v w : Value} (hd : decode bytes pc = .ok (.dup2, 1)) (hv : v.category = 1) (hw : w.category = 1) (K : o_Go κ Q h k n (pc + 1) Ls (v :: w :: v :: w :: St)) : o_Go κ Q h k n pc Ls (v :: w :: St) := o_sim B (fun p e m below c T target X hx hby st => XT.dup2 X hx rfl (hb hby hd) rfl hv hw st) K
theorem o_dup2L (B : o_BE κ l Z n0 R y bytes ml ret Ef fin) {x : Int64} (hd : decode bytes pc = .ok (.dup2, 1)) (K : o_Go κ Q h k n (pc + 1) Ls (.long x :: .long x :: St)) : o_Go κ Q h k n pc Ls (.long x :: St) := o_sim B (fun p e m below c T target X hx hby st => XT.dup2L X hx rfl (hb hby hd) rfl st) K
theorem o_goto (B : o_BE κ l Z n0 R y bytes ml ret Ef fin) {o : Int} {pc' : Nat} (hd : decode bytes pc = .ok (.goto o, 3)) (ho : 0 ≤ (pc : Int) + o) (hp : ((pc : Int) + o).toNat = pc') (K : o_Go κ Q h k n pc' Ls St) : o_Go κ Q h k n pc Ls St := o_sim B (fun p e m below c T target X hx hby st => XS.goto X hx rfl (pc0 := pc) rfl (hb hby hd) ho hp st) K
theorem o_if_eq (B : o_BE κ l Z n0 R y bytes ml ret Ef fin) {o : Int} {pc' : Nat} {x : Int32} (hd : decode bytes pc = .ok (.ifCond .eq o, 3)) (ho : 0 ≤ (pc : Int) + o) (hp : ((pc : Int) + o).toNat = pc') (K1 : x = 0 → o_Go κ Q h k n pc' Ls St) (K2 : ¬ x = 0 → o_Go κ Q h k n (pc + 3) Ls St) : o_Go κ Q h k n pc Ls (.int x :: St) := by
  by_cases hc : x = 0
  · exact o_sim B (fun p e m below c T target X hx hby st => XS.ifYes X hx rfl (pc0 := pc) rfl (hb hby hd) rfl (XT.i0_eq_t hc) ho hp st) (K1 hc)
  · exact o_sim B (fun p e m below c T target X hx hby st => XS.ifNo X hx rfl (hb hby hd) rfl (XT.i0_eq_f hc) st) (K2 hc)
theorem o_icmp_eq (B : o_BE κ l Z n0 R y bytes ml ret Ef fin) {o : Int} {pc' : Nat} {x w : Int32} (hd : decode bytes pc = .ok (.if_icmp .eq o, 3)) (ho : 0 ≤ (pc : Int) + o) (hp : ((pc : Int) + o).toNat = pc') (K1 : x = w → o_Go κ Q h k n pc' Ls St) (K2 : ¬ x = w → o_Go κ Q h k n (pc + 3) Ls St) : o_Go κ Q h k n pc Ls (.int w :: .int x :: St) := by
  by_cases hc : x = w
  · exact o_sim B (fun p e m below c T target X hx hby st => XS.icmpYes X hx rfl (pc0 := pc) rfl (hb hby hd) rfl (XT.ii_eq_t hc) ho hp st) (K1 hc)
  · exact o_sim B (fun p e m below c T target X hx hby st => XS.icmpNo X hx rfl (hb hby hd) rfl (XT.ii_eq_f hc) st) (K2 hc)
theorem o_lif_eq (B : o_BE κ l Z n0 R y bytes ml ret Ef fin) {o : Int} {pc' : Nat} {x w : Int64} (hd : decode bytes pc = .ok (.ifCond .eq o, 3)) (ho : 0 ≤ (pc : Int) + o) (hp : ((pc : Int) + o).toNat = pc') (K1 : x = w → o_Go κ Q h k n pc' Ls St) (K2 : ¬ x = w → o_Go κ Q h k n (pc + 3) Ls St) : o_Go κ Q h k n pc Ls (.int (XT.cmpL x w) :: St) := by
  by_cases hc : x = w
  · exact o_sim B (fun p e m below c T target X hx hby st => XS.ifYes X hx rfl (pc0 := pc) rfl (hb hby hd) rfl (XT.ll_eq_t hc) ho hp st) (K1 hc)
  · exact o_sim B (fun p e m below c T target X hx hby st => XS.ifNo X hx rfl (hb hby hd) rfl (XT.ll_eq_f hc) st) (K2 hc)
theorem o_if_ne (B : o_BE κ l Z n0 R y bytes ml ret Ef fin) {o : Int} {pc' : Nat} {x : Int32} (hd : decode bytes pc = .ok (.ifCond .ne o, 3)) (ho : 0 ≤ (pc : Int) + o) (hp : ((pc : Int) + o).toNat = pc') (K1 : ¬ x = 0 → o_Go κ Q h k n pc' Ls St) (K2 : x = 0 → o_Go κ Q h k n (pc + 3) Ls St) : o_Go κ Q h k n pc Ls (.int x :: St) := by
  by_cases hc : x = 0
  · exact o_sim B (fun p e m below c T target X hx hby st => XS.ifNo X hx rfl (hb hby hd) rfl (XT.i0_ne_f hc) st) (K2 hc)
  · exact o_sim B (fun p e m below c T target X hx hby st => XS.ifYes X hx rfl (pc0 := pc) rfl (hb hby hd) rfl (XT.i0_ne_t hc) ho hp st) (K1 hc)
theorem o_icmp_ne (B : o_BE κ l Z n0 R y bytes ml ret Ef fin) {o : Int} {pc' : Nat} {x w : Int32} (hd : decode bytes pc = .ok (.if_icmp .ne o, 3)) (ho : 0 ≤ (pc : Int) + o) (hp : ((pc : Int) + o).toNat = pc') (K1 : ¬ x = w → o_Go κ Q h k n pc' Ls St) (K2 : x = w → o_Go κ Q h k n (pc + 3) Ls St) : o_Go κ Q h k n pc Ls (.int w :: .int x :: St) := by
  by_cases hc : x = w
  · exact o_sim B (fun p e m below c T target X hx hby st => XS.icmpNo X hx rfl (hb hby hd) rfl (XT.ii_ne_f hc) st) (K2 hc)
  · exact o_sim B (fun p e m below c T target X hx hby st => XS.icmpYes X hx rfl (pc0 := pc) rfl (hb hby hd) rfl (XT.ii_ne_t hc) ho hp st) (K1 hc)
theorem o_lif_ne (B : o_BE κ l Z n0 R y bytes ml ret Ef fin) {o : Int} {pc' : Nat} {x w : Int64} (hd : decode bytes pc = .ok (.ifCond .ne o, 3)) (ho : 0 ≤ (pc : Int) + o) (hp : ((pc : Int) + o).toNat = pc') (K1 : ¬ x = w → o_Go κ Q h k n pc' Ls St) (K2 : x = w → o_Go κ Q h k n (pc + 3) Ls St) : o_Go κ Q h k n pc Ls (.int (XT.cmpL x w) :: St) := by
  by_cases hc : x = w
  · exact o_sim B (fun p e m below c T target X hx hby st => XS.ifNo X hx rfl (hb hby hd) rfl (XT.ll_ne_f hc) st) (K2 hc)
  · exact o_sim B (fun p e m below c T target X hx hby st => XS.ifYes X hx rfl (pc0 := pc) rfl (hb hby hd) rfl (XT.ll_ne_t hc) ho hp st) (K1 hc)
theorem o_if_lt (B : o_BE κ l Z n0 R y bytes ml ret Ef fin) {o : Int} {pc' : Nat} {x : Int32} (hd : decode bytes pc = .ok (.ifCond .lt o, 3)) (ho : 0 ≤ (pc : Int) + o) (hp : ((pc : Int) + o).toNat = pc') (K1 : x < 0 → o_Go κ Q h k n pc' Ls St) (K2 : ¬ x < 0 → o_Go κ Q h k n (pc + 3) Ls St) : o_Go κ Q h k n pc Ls (.int x :: St) := by
  by_cases hc : x < 0
  · exact o_sim B (fun p e m below c T target X hx hby st => XS.ifYes X hx rfl (pc0 := pc) rfl (hb hby hd) rfl (XT.i0_lt_t hc) ho hp st) (K1 hc)
  · exact o_sim B (fun p e m below c T target X hx hby st => XS.ifNo X hx rfl (hb hby hd) rfl (XT.i0_lt_f hc) st) (K2 hc)
theorem o_icmp_lt (B : o_BE κ l Z n0 R y bytes ml ret Ef fin) {o : Int} {pc' : Nat} {x w : Int32} (hd : decode bytes pc = .ok (.if_icmp .lt o, 3)) (ho : 0 ≤ (pc : Int) + o) (hp : ((pc : Int) + o).toNat = pc') (K1 : x < w → o_Go κ Q h k n pc' Ls St) (K2 : ¬ x < w → o_Go κ Q h k n (pc + 3) Ls St) : o_Go κ Q h k n pc Ls (.int w :: .int x :: St) := by
  by_cases hc : x < w
  · exact o_sim B (fun p e m below c T target X hx hby st => XS.icmpYes X hx rfl (pc0 := pc) rfl (hb hby hd) rfl (XT.ii_lt_t hc) ho hp st) (K1 hc)
  · exact o_sim B (fun p e m below c T target X hx hby st => XS.icmpNo X hx rfl (hb hby hd) rfl (XT.ii_lt_f hc) st) (K2 hc)
theorem o_lif_lt (B : o_BE κ l Z n0 R y bytes ml ret Ef fin) {o : Int} {pc' : Nat} {x w : Int64} (hd : decode bytes pc = .ok (.ifCond .lt o, 3)) (ho : 0 ≤ (pc : Int) + o) (hp : ((pc : Int) + o).toNat = pc') (K1 : x < w → o_Go κ Q h k n pc' Ls St) (K2 : ¬ x < w → o_Go κ Q h k n (pc + 3) Ls St) : o_Go κ Q h k n pc Ls (.int (XT.cmpL x w) :: St) := by
  by_cases hc : x < w
  · exact o_sim B (fun p e m below c T target X hx hby st => XS.ifYes X hx rfl (pc0 := pc) rfl (hb hby hd) rfl (XT.ll_lt_t hc) ho hp st) (K1 hc)
  · exact o_sim B (fun p e m below c T target X hx hby st => XS.ifNo X hx rfl (hb hby hd) rfl (XT.ll_lt_f hc) st) (K2 hc)
theorem o_if_ge (B : o_BE κ l Z n0 R y bytes ml ret Ef fin) {o : Int} {pc' : Nat} {x : Int32} (hd : decode bytes pc = .ok (.ifCond .ge o, 3)) (ho : 0 ≤ (pc : Int) + o) (hp : ((pc : Int) + o).toNat = pc') (K1 : ¬ x < 0 → o_Go κ Q h k n pc' Ls St) (K2 : x < 0 → o_Go κ Q h k n (pc + 3) Ls St) : o_Go κ Q h k n pc Ls (.int x :: St) := by
  by_cases hc : x < 0
  · exact o_sim B (fun p e m below c T target X hx hby st => XS.ifNo X hx rfl (hb hby hd) rfl (XT.i0_ge_f hc) st) (K2 hc)
  · exact o_sim B (fun p e m below c T target X hx hby st => XS.ifYes X hx rfl (pc0 := pc) rfl (hb hby hd) rfl (XT.i0_ge_t hc) ho hp st) (K1 hc)
theorem o_icmp_ge (B : o_BE κ l Z n0 R y bytes ml ret Ef fin) {o : Int} {pc' : Nat} {x w : Int32} (hd : decode bytes pc = .ok (.if_icmp .ge o, 3)) (ho : 0 ≤ (pc : Int) + o) (hp : ((pc : Int) + o).toNat = pc') (K1 : ¬ x < w → o_Go κ Q h k n pc' Ls St) (K2 : x < w → o_Go κ Q h k n (pc + 3) Ls St) : o_Go κ Q h k n pc Ls (.int w :: .int x :: St) := by
  by_cases hc : x < w
  · exact o_sim B (fun p e m below c T target X hx hby st => XS.icmpNo X hx rfl (hb hby hd) rfl (XT.ii_ge_f hc) st) (K2 hc)
  · exact o_sim B (fun p e m below c T target X hx hby st => XS.icmpYes X hx rfl (pc0 := pc) rfl (hb hby hd) rfl (XT.ii_ge_t hc) ho hp st) (K1 hc)
theorem o_lif_ge (B : o_BE κ l Z n0 R y bytes ml ret Ef fin) {o : Int} {pc' : Nat} {x w : Int64} (hd : decode bytes pc = .ok (.ifCond .ge o, 3)) (ho : 0 ≤ (pc : Int) + o) (hp : ((pc : Int) + o).toNat = pc') (K1 : ¬ x < w → o_Go κ Q h k n pc' Ls St) (K2 : x < w → o_Go κ Q h k n (pc + 3) Ls St) : o_Go κ Q h k n pc Ls (.int (XT.cmpL x w) :: St) := by
  by_cases hc : x < w
  · exact o_sim B (fun p e m below c T target X hx hby st => XS.ifNo X hx rfl (hb hby hd) rfl (XT.ll_ge_f hc) st) (K2 hc)
  · exact o_sim B (fun p e m below c T target X hx hby st => XS.ifYes X hx rfl (pc0 := pc) rfl (hb hby hd) rfl (XT.ll_ge_t hc) ho hp st) (K1 hc)
theorem o_if_gt (B : o_BE κ l Z n0 R y bytes ml ret Ef fin) {o : Int} {pc' : Nat} {x : Int32} (hd : decode bytes pc = .ok (.ifCond .gt o, 3)) (ho : 0 ≤ (pc : Int) + o) (hp : ((pc : Int) + o).toNat = pc') (K1 : 0 < x → o_Go κ Q h k n pc' Ls St) (K2 : ¬ 0 < x → o_Go κ Q h k n (pc + 3) Ls St) : o_Go κ Q h k n pc Ls (.int x :: St) := by
  by_cases hc : 0 < x
  · exact o_sim B (fun p e m below c T target X hx hby st => XS.ifYes X hx rfl (pc0 := pc) rfl (hb hby hd) rfl (XT.i0_gt_t hc) ho hp st) (K1 hc)
  · exact o_sim B (fun p e m below c T target X hx hby st => XS.ifNo X hx rfl (hb hby hd) rfl (XT.i0_gt_f hc) st) (K2 hc)
theorem o_icmp_gt (B : o_BE κ l Z n0 R y bytes ml ret Ef fin) {o : Int} {pc' : Nat} {x w : Int32} (hd : decode bytes pc = .ok (.if_icmp .gt o, 3)) (ho : 0 ≤ (pc : Int) + o) (hp : ((pc : Int) + o).toNat = pc') (K1 : w < x → o_Go κ Q h k n pc' Ls St) (K2 : ¬ w < x → o_Go κ Q h k n (pc + 3) Ls St) : o_Go κ Q h k n pc Ls (.int w :: .int x :: St) := by
  by_cases hc : w < x
  · exact o_sim B (fun p e m below c T target X hx hby st => XS.icmpYes X hx rfl (pc0 := pc) rfl (hb hby hd) rfl (XT.ii_gt_t hc) ho hp st) (K1 hc)
  · exact o_sim B (fun p e m below c T target X hx hby st => XS.icmpNo X hx rfl (hb hby hd) rfl (XT.ii_gt_f hc) st) (K2 hc)
theorem o_lif_gt (B : o_BE κ l Z n0 R y bytes ml ret Ef fin) {o : Int} {pc' : Nat} {x w : Int64} (hd : decode bytes pc = .ok (.ifCond .gt o, 3)) (ho : 0 ≤ (pc : Int) + o) (hp : ((pc : Int) + o).toNat = pc') (K1 : w < x → o_Go κ Q h k n pc' Ls St) (K2 : ¬ w < x → o_Go κ Q h k n (pc + 3) Ls St) : o_Go κ Q h k n pc Ls (.int (XT.cmpL x w) :: St) := by
  by_cases hc : w < x
  · exact o_sim B (fun p e m below c T target X hx hby st => XS.ifYes X hx rfl (pc0 := pc) rfl (hb hby hd) rfl (XT.ll_gt_t hc) ho hp st) (K1 hc)
  · exact o_sim B (fun p e m below c T target X hx hby st => XS.ifNo X hx rfl (hb hby hd) rfl (XT.ll_gt_f hc) st) (K2 hc)
theorem o_if_le (B : o_BE κ l Z n0 R y bytes ml ret Ef fin) {o : Int} {pc' : Nat} {x : Int32} (hd : decode bytes pc = .ok (.ifCond .le o, 3)) (ho : 0 ≤ (pc : Int) + o) (hp : ((pc : Int) + o).toNat = pc') (K1 : ¬ 0 < x → o_Go κ Q h k n pc' Ls St) (K2 : 0 < x → o_Go κ Q h k n (pc + 3) Ls St) : o_Go κ Q h k n pc Ls (.int x :: St) := by
  by_cases hc : 0 < x
  · exact o_sim B (fun p e m below c T target X hx hby st => XS.ifNo X hx rfl (hb hby hd) rfl (XT.i0_le_f hc) st) (K2 hc)
  · exact o_sim B (fun p e m below c T target X hx hby st => XS.ifYes X hx rfl (pc0 := pc) rfl (hb hby hd) rfl (XT.i0_le_t hc) ho hp st) (K1 hc)
theorem o_icmp_le (B : o_BE κ l Z n0 R y bytes ml ret Ef fin) {o : Int} {pc' : Nat} {x w : Int32} (hd : decode bytes pc = .ok (.if_icmp .le o, 3)) (ho : 0 ≤ (pc : Int) + o) (hp : ((pc : Int) + o).toNat = pc') (K1 : ¬ w < x → o_Go κ Q h k n pc' Ls St) (K2 : w < x → o_Go κ Q h k n (pc + 3) Ls St) : o_Go κ Q h k n pc Ls (.int w :: .int x :: St) := by
  by_cases hc : w < x
  · exact o_sim B (fun p e m below c T target X hx hby st => XS.icmpNo X hx rfl (hb hby hd) rfl (XT.ii_le_f hc) st) (K2 hc)
  · exact o_sim B (fun p e m below c T target X hx hby st => XS.icmpYes X hx rfl (pc0 := pc) rfl (hb hby hd) rfl (XT.ii_le_t hc) ho hp st) (K1 hc)
theorem o_lif_le (B : o_BE κ l Z n0 R y bytes ml ret Ef fin) {o : Int} {pc' : Nat} {x w : Int64} (hd : decode bytes pc = .ok (.ifCond .le o, 3)) (ho : 0 ≤ (pc : Int) + o) (hp : ((pc : Int) + o).toNat = pc') (K1 : ¬ w < x → o_Go κ Q h k n pc' Ls St) (K2 : w < x → o_Go κ Q h k n (pc + 3) Ls St) : o_Go κ Q h k n pc Ls (.int (XT.cmpL x w) :: St) := by
  by_cases hc : w < x
  · exact o_sim B (fun p e m below c T target X hx hby st => XS.ifNo X hx rfl (hb hby hd) rfl (XT.ll_le_f hc) st) (K2 hc)
  · exact o_sim B (fun p e m below c T target X hx hby st => XS.ifYes X hx rfl (pc0 := pc) rfl (hb hby hd) rfl (XT.ll_le_t hc) ho hp st) (K1 hc)
theorem o_ifnull_N (B : o_BE κ l Z n0 R y bytes ml ret Ef fin) {o : Int} {pc' : Nat} (hd : decode bytes pc = .ok (.ifnull o, 3)) (ho : 0 ≤ (pc : Int) + o) (hp : ((pc : Int) + o).toNat = pc') (K : o_Go κ Q h k n pc' Ls St) : o_Go κ Q h k n pc Ls (.null :: St) := o_sim B (fun p e m below c T target X hx hby st => XS.ifnullYes X hx rfl (pc0 := pc) rfl (hb hby hd) rfl ho hp st) K
theorem o_ifnull_R (B : o_BE κ l Z n0 R y bytes ml ret Ef fin) {o : Int} {b : Addr} (hd : decode bytes pc = .ok (.ifnull o, 3)) (K : o_Go κ Q h k n (pc + 3) Ls St) : o_Go κ Q h k n pc Ls (.ref b :: St) := o_sim B (fun p e m below c T target X hx hby st => XS.ifnullNo X hx rfl (hb hby hd) rfl st) K
theorem o_ifnonnull_R (B : o_BE κ l Z n0 R y bytes ml ret Ef fin) {o : Int} {pc' : Nat} {b : Addr} (hd : decode bytes pc = .ok (.ifnonnull o, 3)) (ho : 0 ≤ (pc : Int) + o) (hp : ((pc : Int) + o).toNat = pc') (K : o_Go κ Q h k n pc' Ls St) : o_Go κ Q h k n pc Ls (.ref b :: St) := o_sim B (fun p e m below c T target X hx hby st => XT.ifnonnullYes X hx rfl (pc0 := pc) rfl (hb hby hd) rfl ho hp st) K
theorem o_ifnonnull_N (B : o_BE κ l Z n0 R y bytes ml ret Ef fin) {o : Int} (hd : decode bytes pc = .ok (.ifnonnull o, 3)) (K : o_Go κ Q h k n (pc + 3) Ls St) : o_Go κ Q h k n pc Ls (.null :: St) := o_sim B (fun p e m below c T target X hx hby st => XT.ifnonnullNo X hx rfl (hb hby hd) rfl st) K
theorem o_acmp_eq (B : o_BE κ l Z n0 R y bytes ml ret Ef fin) {o : Int} {pc' : Nat} {v w : Value} (hv : v.isRef = true) (hw : w.isRef = true) (hd : decode bytes pc = .ok (.if_acmp .eq o, 3)) (ho : 0 ≤ (pc : Int) + o) (hp : ((pc : Int) + o).toNat = pc') (K1 : v = w → o_Go κ Q h k n pc' Ls St) (K2 : ¬ v = w → o_Go κ Q h k n (pc + 3) Ls St) : o_Go κ Q h k n pc Ls (w :: v :: St) := by
  by_cases hc : v = w
  · exact o_sim B (fun p e m below c T target X hx hby st => XT.acmpYes X hx rfl (pc0 := pc) rfl (hb hby hd) rfl hv hw (by simp [XT.acmp, hc]) ho hp st) (K1 hc)
  · exact o_sim B (fun p e m below c T target X hx hby st => XT.acmpNo X hx rfl (hb hby hd) rfl hv hw (by simp [XT.acmp, hc]) st) (K2 hc)
theorem o_acmp_ne (B : o_BE κ l Z n0 R y bytes ml ret Ef fin) {o : Int} {pc' : Nat} {v w : Value} (hv : v.isRef = true) (hw : w.isRef = true) (hd : decode bytes pc = .ok (.if_acmp .ne o, 3)) (ho : 0 ≤ (pc : Int) + o) (hp : ((pc : Int) + o).toNat = pc') (K1 : ¬ v = w → o_Go κ Q h k n pc' Ls St) (K2 : v = w → o_Go κ Q h k n (pc + 3) Ls St) : o_Go κ Q h k n pc Ls (w :: v :: St) := by
  by_cases hc : v = w
  · exact o_sim B (fun p e m below c T target X hx hby st => XT.acmpNo X hx rfl (hb hby hd) rfl hv hw (by simp [XT.acmp, hc]) st) (K2 hc)
  · exact o_sim B (fun p e m below c T target X hx hby st => XT.acmpYes X hx rfl (pc0 := pc) rfl (hb hby hd) rfl hv hw (by simp [XT.acmp, hc]) ho hp st) (K1 hc)
theorem o_ldc (B : o_BE κ l Z n0 R y bytes ml ret Ef fin) {idx : Nat} {x : Int32} (hd : decode bytes pc = .ok (.ldc idx, 2)) (w : (Cond.constant y.cls idx x).before a0 Z = true) (K : o_Go κ Q h k n (pc + 2) Ls (.int x :: St)) : o_Go κ Q h k n pc Ls St := by
  obtain ⟨p, e, s, m, args, below, meth, c, s0, rfl, hs0, hx, hZ, hby, hml, hown, hret, hlk, hnm⟩ := B
  intro T locs X N eT
  obtain ⟨s₂, o, st, r⟩ := K T locs X N eT
  exact ⟨s₂, o, Stand.ldcI X hx hown (mv hZ w) rfl (hb hby hd) st, r⟩
theorem o_ldc_w (B : o_BE κ l Z n0 R y bytes ml ret Ef fin) {idx : Nat} {x : Int32} (hd : decode bytes pc = .ok (.ldc_w idx, 3)) (w : (Cond.constant y.cls idx x).before a0 Z = true) (K : o_Go κ Q h k n (pc + 3) Ls (.int x :: St)) : o_Go κ Q h k n pc Ls St := by
  obtain ⟨p, e, s, m, args, below, meth, c, s0, rfl, hs0, hx, hZ, hby, hml, hown, hret, hlk, hnm⟩ := B
  intro T locs X N eT
  obtain ⟨s₂, o, st, r⟩ := K T locs X N eT
  exact ⟨s₂, o, Stand.ldcWI X hx hown (mv hZ w) rfl (hb hby hd) st, r⟩
theorem o_ldc2_w (B : o_BE κ l Z n0 R y bytes ml ret Ef fin) {idx : Nat} {x : Int64} (hd : decode bytes pc = .ok (.ldc2_w idx, 3)) (w : (Cond.constantLong y.cls idx x).before a0 Z = true) (K : o_Go κ Q h k n (pc + 3) Ls (.long x :: St)) : o_Go κ Q h k n pc Ls St := by
  obtain ⟨p, e, s, m, args, below, meth, c, s0, rfl, hs0, hx, hZ, hby, hml, hown, hret, hlk, hnm⟩ := B
  intro T locs X N eT
  obtain ⟨s₂, o, st, r⟩ := K T locs X N eT
  exact ⟨s₂, o, Stand.ldc2J X hx hown (mv hZ w) rfl (hb hby hd) st, r⟩
theorem o_out (B : o_Bo κ l Z n0 R y bytes ml ret) {v : Option Value} (hv : ret = none → v = none) (hk : k ≤ R.cells) (hn : n ≤ R.slots) (q : Q v h)
    (f : ∀ (p : Program) (e : Env) (s : State) (m : MethodId) (args : Array Value) (below : List Frame) (meth : Method) (c : Code) (T : State) (locs : List Loc), Stand p l e R s m args below meth c T locs k n → p.tables.exec = Jvm.exec → c.code = bytes → meth.sig.returnType = ret → ∀ fs : List Frame, (∀ (f : JFrame) (acts : List Action), f.method = m → f.locked = none → f.entered = [] → (doReturn e (T.setTop f) acts v).1 = T.setFrames fs) → Steps p.tables e below (T.setTop (mkF m pc Ls.toArray St)) (T.setFrames fs)) : o_Go κ Q h k n pc Ls St := by
  obtain ⟨p, e, s, m, args, below, meth, c, s0, rfl, hs0, hx, hZ, hby, hml, hown, hret, hlk, hnm⟩ := B
  cases hs0 rfl
  intro T locs X N eT
  obtain ⟨fs, hr, hrun, hended, hW, hsame⟩ := X.leave (v := v) (fun hh => hv (hret.symm.trans hh)) hlk
  refine ⟨_, _, f p e s m args below meth c T locs X hx hby hret fs hr, hrun, hended, _, _, rfl, ⟨?_, N⟩, ⟨_, rfl⟩, hW, hsame.mono hk hn⟩
  have e1 : (T.setFrames fs).heap = h := eT
  rw [e1]; exact q
theorem o_ireturn (B : o_Bo κ l Z n0 R y bytes ml (some .int)) {x : Int32} (hd : decode bytes pc = .ok (.ireturn, 1)) (hk : k ≤ R.cells) (hn : n ≤ R.slots) (q : Q (some (.int x)) h) : o_Go κ Q h k n pc Ls (.int x :: St) :=
  o_out B (fun hh => by cases hh) hk hn q fun p e s m args below meth c T locs X hx hby hret fs hr => retOut X hx hret rfl (Or.inl ⟨rfl, Or.inl rfl, _, rfl⟩) (hb hby hd) hr
theorem o_zreturn (B : o_Bo κ l Z n0 R y bytes ml (some .boolean)) {x : Int32} (hd : decode bytes pc = .ok (.ireturn, 1)) (hk : k ≤ R.cells) (hn : n ≤ R.slots) (q : Q (some (.int (nar .boolean x))) h) : o_Go κ Q h k n pc Ls (.int x :: St) :=
  o_out B (fun hh => by cases hh) hk hn q fun p e s m args below meth c T locs X hx hby hret fs hr => retN X hx hret (by simp) (hb hby hd) hr
theorem o_lreturn (B : o_Bo κ l Z n0 R y bytes ml (some .long)) {x : Int64} (hd : decode bytes pc = .ok (.lreturn, 1)) (hk : k ≤ R.cells) (hn : n ≤ R.slots) (q : Q (some (.long x)) h) : o_Go κ Q h k n pc Ls (.long x :: St) :=
  o_out B (fun hh => by cases hh) hk hn q fun p e s m args below meth c T locs X hx hby hret fs hr => retOut X hx hret rfl (Or.inr (Or.inl ⟨rfl, rfl, _, rfl⟩)) (hb hby hd) hr
theorem o_areturn {t : FieldType} (B : o_Bo κ l Z n0 R y bytes ml (some t)) {v : Value} (ht : t.isReference = true) (hn' : narrow t v = v) (hv : v.isRef = true) (hd : decode bytes pc = .ok (.areturn, 1)) (hk : k ≤ R.cells) (hn : n ≤ R.slots) (q : Q (some v) h) : o_Go κ Q h k n pc Ls (v :: St) :=
  o_out B (fun hh => by cases hh) hk hn q fun p e s m args below meth c T locs X hx hby hret fs hr => retOut X hx hret hn' (Or.inr (Or.inr (Or.inr (Or.inr ⟨rfl, ht, hv⟩)))) (hb hby hd) hr
theorem o_return (B : o_Bo κ l Z n0 R y bytes ml none) (hd : decode bytes pc = .ok (.return_, 1)) (hk : k ≤ R.cells) (hn : n ≤ R.slots) (q : Q none h) : o_Go κ Q h k n pc Ls [] :=
  o_out B (fun _ => rfl) hk hn q fun p e s m args below meth c T locs X hx hby hret fs hr => X.returnOut hx hret (hb hby hd) hr
theorem o_getF (B : o_BE κ l Z n0 R y bytes ml ret Ef fin) {O nm d : String} {idx : Nat} {a : Addr} {v : Value} (hd : decode bytes pc = .ok (.getfield idx, 3)) (w : (Cond.fieldLink y.cls idx O nm d).before a0 Z = true) (F : Fld Z h a O nm d v) (K : o_Go κ Q h k n (pc + 3) Ls (v :: St)) : o_Go κ Q h k n pc Ls (.ref a :: St) := by
  obtain ⟨p, e, s, m, args, below, meth, c, s0, rfl, hs0, hx, hZ, hby, hml, hown, hret, hlk, hnm⟩ := B
  intro T locs X N eT
  obtain ⟨T', X', e', st'⟩ := getF X hx hZ hown (host := "") (Or.inl w) Via.refl eT F (g := o_F Ef m pc Ls.toArray (.ref a :: St)) rfl rfl (hb hby hd)
  obtain ⟨s₂, o, st, r⟩ := K T' locs X' N e'
  exact ⟨s₂, o, st' _ st, r⟩
theorem o_putF (B : o_BE κ l Z n0 R y bytes ml ret Ef fin) {O nm d C : String} {idx kk : Nat} {a : Addr} {v old : Value} {ty : FieldType} (hd : decode bytes pc = .ok (.putfield idx, 3)) (w : (Cond.fieldLink y.cls idx O nm d).before a0 Z = true) (F : Fld Z h a O nm d old) (E : Exa Z h a C) (L : (Cond.lays C O nm d).before a0 Z = true ∨ ((Cond.laysFinal C O nm d).before a0 Z = true ∧ y.cls = O ∧ y.name = "<init>")) (wi : (Cond.instantiable C kk).before a0 Z = true)
    (hty : parseFieldDescriptor d = some ty) (hn : narrow ty v = v) (hf : fits ty v = true) (ge : n0 ≤ a) (K : ∀ h', Wr h h' a (Jvm.RoadKit.slotOf Z O nm d) v → o_Go κ Q h' k n (pc + 3) Ls St) : o_Go κ Q h k n pc Ls (v :: .ref a :: St) := by
  obtain ⟨p, e, s, m, args, below, meth, c, s0, rfl, hs0, hx, hZ, hby, hml, hown, hret, hlk, hnm⟩ := B
  intro T locs X N eT
  have L' : (Cond.lays C O nm d).before a0 Z = true ∨ ((Cond.laysFinal C O nm d).before a0 Z = true ∧ y.cls = O ∧ meth.name = "<init>") := L.imp id fun q => ⟨q.1, q.2.1, hnm.trans q.2.2⟩
  obtain ⟨T', h', X', e', W, st'⟩ := putF X hx hZ hown (host := "") (Or.inl w) Via.refl eT F E L' wi hty hn hf (g := o_F Ef m pc Ls.toArray (v :: .ref a :: St)) rfl rfl (hb hby hd)
  obtain ⟨s₂, o, st, r⟩ := K h' W T' _ X' (Fr.snoc X' N ge) e'
  exact ⟨s₂, o, st' _ st, r⟩
theorem o_getS (B : o_BE κ l Z n0 R y bytes ml ret Ef fin) {O nm d : String} {idx : Nat} {v : Value} (hd : decode bytes pc = .ok (.getstatic idx, 3)) (w : (Cond.fieldLink y.cls idx O nm d).before a0 Z = true) (F : Sta Z h O nm d v) (K : o_Go κ Q h k n (pc + 3) Ls (v :: St)) : o_Go κ Q h k n pc Ls St := by
  obtain ⟨p, e, s, m, args, below, meth, c, s0, rfl, hs0, hx, hZ, hby, hml, hown, hret, hlk, hnm⟩ := B
  intro T locs X N eT
  obtain ⟨T', X', e', st'⟩ := getS (host := "") X hx hZ hown w Via.refl eT F (g := o_F Ef m pc Ls.toArray St) rfl (hb hby hd)
  obtain ⟨s₂, o, st, r⟩ := K T' locs X' N e'
  exact ⟨s₂, o, st' _ st, r⟩
theorem o_new (B : o_BE κ l Z n0 R y bytes ml ret Ef fin) {C : String} {idx nn : Nat} (hd : decode bytes pc = .ok (.new idx, 3)) (w : (Cond.classLink y.cls idx C).before a0 Z = true) (wi : (Cond.instantiable C nn).before a0 Z = true) (wz : (Cond.initialized C).before a0 Z = true) (hc : k + 1 ≤ R.cells) (hl : n + nn ≤ R.slots)
    (K : ∀ h', Ext h h' → Exa Z h' h.size C → (∀ {O nm d : String} {ty : FieldType}, Laid Z a0 C O nm d → parseFieldDescriptor d = some ty → Fld Z h' h.size O nm d (defaultValue ty)) → Unt h' h.size → o_Go κ Q h' (k + 1) (n + nn) (pc + 3) Ls (.ref h.size :: St)) : o_Go κ Q h k n pc Ls St := by
  obtain ⟨p, e, s, m, args, below, meth, c, s0, rfl, hs0, hx, hZ, hby, hml, hown, hret, hlk, hnm⟩ := B
  intro T locs X N eT
  obtain ⟨T', h', X', e', E, A, D, U, st'⟩ := newO X hx hZ hown w wi wz eT (g := o_F Ef m pc Ls.toArray St) rfl (hb hby hd) hc hl
  obtain ⟨s₂, o, st, r⟩ := K h' E A (fun L q => D L q) U T' _ X' N e'
  exact ⟨s₂, o, st' _ st, r⟩
theorem o_initO (B : o_BE κ l Z n0 R y bytes ml ret Ef fin) {idx W : Nat} {a : Addr} (hd : decode bytes pc = .ok (.invokespecial idx, 3)) (w1 : (Cond.methodLink y.cls idx Lib.objectInit).before a0 Z = true) (w2 : (Cond.instanceMethod Lib.objectInit).before a0 Z = true) (w3 : (Cond.code Lib.objectInit ⟨#[0xb1]⟩ 1 none).before a0 Z = true)
    (hf : 1 ≤ R.frames) (hW : 2 * Ef.2 + (St.map fun v => v.category).sum ≤ W) (hl : W + 12 ≤ R.locals) (hLs : Ls.length = ml) (K : o_Go κ Q h k n (pc + 3) Ls St) : o_Go κ Q h k n pc Ls (.ref a :: St) := by
  obtain ⟨p, e, s, m, args, below, meth, c, s0, rfl, hs0, hx, hZ, hby, hml, hown, hret, hlk, hnm⟩ := B
  intro T locs X N eT
  obtain ⟨T', X', e', st'⟩ := initO X hx hZ hown w1 w2 w3 eT (g := o_F Ef m pc Ls.toArray (.ref a :: St)) rfl (by rw [hml, ← hLs]; simp) rfl (hb hby hd) hf (W := W) (by simpa using hW) hl
  obtain ⟨s₂, o, st, r⟩ := K T' _ X' N e'
  exact ⟨s₂, o, st' _ st, r⟩
/-- an array of the component type ty that holds the list vs -/
def o_AR (Z : State) (h : Heap) (a : Addr) (ty : FieldType) (vs : List Value) : Prop := ∃ c : Cell, Arr Z h a c ty ∧ c.slots = vs.toArray ∧ vs.length < 2 ^ 31
abbrev o_IA (Z : State) (h : Heap) (a : Addr) (L : List Int32) : Prop := o_AR Z h a .int (L.map Value.int)
abbrev o_LA (Z : State) (h : Heap) (a : Addr) (L : List Int64) : Prop := o_AR Z h a .long (L.map Value.long)
abbrev o_ZA (Z : State) (h : Heap) (a : Addr) (L : List Int32) : Prop := o_AR Z h a .boolean (L.map Value.int)
theorem o_AR.lt {h : Heap} {a : Addr} {ty : FieldType} {vs : List Value} (A : o_AR Z h a ty vs) : a < h.size := by obtain ⟨c, A, -⟩ := A; exact A.lt
theorem o_AR.ext {h h' : Heap} {a : Addr} {ty : FieldType} {vs : List Value} (A : o_AR Z h a ty vs) (E : Ext h h') : o_AR Z h' a ty vs := by obtain ⟨c, A, r⟩ := A; exact ⟨c, A.ext E, r⟩
theorem o_AR.other {h h' : Heap} {a b : Addr} {sl : Nat} {v : Value} {ty : FieldType} {vs : List Value} (A : o_AR Z h a ty vs) (W : Wr h h' b sl v) (q : a ≠ b) : o_AR Z h' a ty vs := by obtain ⟨c, A, r⟩ := A; exact ⟨c, A.other W q, r⟩
theorem o_AR.keep {h h' : Heap} {a : Addr} {ws : List Addr} {ty : FieldType} {vs : List Value} (A : o_AR Z h a ty vs) (K : Keep h h' ws) (q : a ∉ ws) : o_AR Z h' a ty vs := by obtain ⟨c, A, r⟩ := A; exact ⟨c, ⟨K.2.1 a c A.1 q, A.2⟩, r⟩
theorem o_AR.same {h h' : Heap} {a : Addr} {i : Nat} {v : Value} {ty : FieldType} {vs : List Value} (A : o_AR Z h a ty vs) (W : Wr h h' a i v) : o_AR Z h' a ty (vs.set i v) := by
  obtain ⟨c, A, e, q⟩ := A
  exact ⟨_, A.same W, by simp [Cell.setSlot, e], by simpa using q⟩
theorem o_IA.same {h h' : Heap} {a : Addr} {i : Nat} {x : Int32} {L : List Int32} (A : o_IA Z h a L) (W : Wr h h' a i (.int x)) : o_IA Z h' a (L.set i x) := by
  have := o_AR.same A W; rwa [← List.map_set] at this
theorem o_LA.same {h h' : Heap} {a : Addr} {i : Nat} {x : Int64} {L : List Int64} (A : o_LA Z h a L) (W : Wr h h' a i (.long x)) : o_LA Z h' a (L.set i x) := by
  have := o_AR.same A W; rwa [← List.map_set] at this
theorem o_ZA.same {h h' : Heap} {a : Addr} {i : Nat} {x : Int32} {L : List Int32} (A : o_ZA Z h a L) (W : Wr h h' a i (.int x)) : o_ZA Z h' a (L.set i x) := by
  have := o_AR.same A W; rwa [← List.map_set] at this
theorem o_IA.len {h : Heap} {a : Addr} {L : List Int32} (A : o_IA Z h a L) : L.length < 2 ^ 31 := by obtain ⟨c, A, e, q⟩ := A; simpa using q
theorem o_LA.len {h : Heap} {a : Addr} {L : List Int64} (A : o_LA Z h a L) : L.length < 2 ^ 31 := by obtain ⟨c, A, e, q⟩ := A; simpa using q
theorem o_nat {i N : Nat} (hi : i < N) (hN : N < 2 ^ 31) : (Int32.ofNat i).toNatClampNeg = i ∧ ¬ (Int32.ofNat i < 0) := by
  have e : (Int32.ofNat i).toInt = i := Int32.toInt_ofNat_of_lt (by omega)
  refine ⟨by simp only [Int32.toNatClampNeg, e]; rfl, ?_⟩
  rw [Int32.lt_iff_toInt_lt, e]; show ¬ (i : Int) < 0; omega
theorem o_in {c : Cell} {vs : List Value} {i : Nat} {j : Int32} (es : c.slots = vs.toArray) (q : vs.length < 2 ^ 31) (hj : j = Int32.ofNat i) (hi : i < vs.length) : ¬ (j < 0 ∨ c.slots.size ≤ j.toNatClampNeg) ∧ j.toNatClampNeg = i := by
  subst hj
  obtain ⟨h1, h2⟩ := o_nat hi q
  refine ⟨?_, h1⟩
  rintro (g | g)
  · exact h2 g
  · rw [h1, es] at g; simp at g; omega
theorem o_iaload (B : o_BE κ l Z n0 R y bytes ml ret Ef fin) {a : Addr} {vs : List Value} {j : Int32} {v : Value} (i : Nat) (hd : decode bytes pc = .ok (.iaload, 1)) (A : o_AR Z h a .int vs) (hj : j = Int32.ofNat i) (hv : vs[i]? = some v) (K : o_Go κ Q h k n (pc + 1) Ls (v :: St)) : o_Go κ Q h k n pc Ls (.int j :: .ref a :: St) := by
  obtain ⟨p, e, s, m, args, below, meth, c, s0, rfl, hs0, hx, hZ, hby, hml, hown, hret, hlk, hnm⟩ := B
  intro T locs X N eT
  obtain ⟨cl, A, es, q⟩ := A
  obtain ⟨hi, hget⟩ := List.getElem?_eq_some_iff.mp hv
  obtain ⟨h1, h2⟩ := o_in es q hj hi
  obtain ⟨s₂, o, st, r⟩ := K T _ X N eT
  exact ⟨s₂, o, X.iaload hx (by rw [eT]; exact A.1) (State.isArrayOf_alike hZ.alike A.2.1) A.2.2 h1 (by rw [h2, es]; simpa using hv) (g := o_F Ef m pc Ls.toArray (.int j :: .ref a :: St)) rfl rfl (hb hby hd) _ st, r⟩
theorem o_laload (B : o_BE κ l Z n0 R y bytes ml ret Ef fin) {a : Addr} {vs : List Value} {j : Int32} {v : Value} (i : Nat) (hd : decode bytes pc = .ok (.laload, 1)) (A : o_AR Z h a .long vs) (hj : j = Int32.ofNat i) (hv : vs[i]? = some v) (K : o_Go κ Q h k n (pc + 1) Ls (v :: St)) : o_Go κ Q h k n pc Ls (.int j :: .ref a :: St) := by
  obtain ⟨p, e, s, m, args, below, meth, c, s0, rfl, hs0, hx, hZ, hby, hml, hown, hret, hlk, hnm⟩ := B
  intro T locs X N eT
  obtain ⟨cl, A, es, q⟩ := A
  obtain ⟨hi, hget⟩ := List.getElem?_eq_some_iff.mp hv
  obtain ⟨h1, h2⟩ := o_in es q hj hi
  obtain ⟨s₂, o, st, r⟩ := K T _ X N eT
  exact ⟨s₂, o, X.laload hx (by rw [eT]; exact A.1) (State.isArrayOf_alike hZ.alike A.2.1) A.2.2 h1 (by rw [h2, es]; simpa using hv) (g := o_F Ef m pc Ls.toArray (.int j :: .ref a :: St)) rfl rfl (hb hby hd) _ st, r⟩
theorem o_baload (B : o_BE κ l Z n0 R y bytes ml ret Ef fin) {a : Addr} {vs : List Value} {j : Int32} {v : Value} (i : Nat) (hd : decode bytes pc = .ok (.baload, 1)) (A : o_AR Z h a .boolean vs) (hj : j = Int32.ofNat i) (hv : vs[i]? = some v) (K : o_Go κ Q h k n (pc + 1) Ls (v :: St)) : o_Go κ Q h k n pc Ls (.int j :: .ref a :: St) := by
  obtain ⟨p, e, s, m, args, below, meth, c, s0, rfl, hs0, hx, hZ, hby, hml, hown, hret, hlk, hnm⟩ := B
  intro T locs X N eT
  obtain ⟨cl, A, es, q⟩ := A
  obtain ⟨hi, hget⟩ := List.getElem?_eq_some_iff.mp hv
  obtain ⟨h1, h2⟩ := o_in es q hj hi
  obtain ⟨s₂, o, st, r⟩ := K T _ X N eT
  exact ⟨s₂, o, X.baloadBooleans hx (by rw [eT]; exact A.1) (State.isArrayOf_alike hZ.alike A.2.1) A.2.2 h1 (by rw [h2, es]; simpa using hv) (g := o_F Ef m pc Ls.toArray (.int j :: .ref a :: St)) rfl rfl (hb hby hd) _ st, r⟩
theorem o_aaload (B : o_BE κ l Z n0 R y bytes ml ret Ef fin) {ty : FieldType} {a : Addr} {vs : List Value} {j : Int32} {v : Value} (i : Nat) (hty : ty.isReference = true) (hd : decode bytes pc = .ok (.aaload, 1)) (A : o_AR Z h a ty vs) (hj : j = Int32.ofNat i) (hv : vs[i]? = some v) (K : o_Go κ Q h k n (pc + 1) Ls (v :: St)) : o_Go κ Q h k n pc Ls (.int j :: .ref a :: St) := by
  obtain ⟨p, e, s, m, args, below, meth, c, s0, rfl, hs0, hx, hZ, hby, hml, hown, hret, hlk, hnm⟩ := B
  intro T locs X N eT
  obtain ⟨cl, A, es, q⟩ := A
  obtain ⟨hi, hget⟩ := List.getElem?_eq_some_iff.mp hv
  obtain ⟨h1, h2⟩ := o_in es q hj hi
  obtain ⟨s₂, o, st, r⟩ := K T _ X N eT
  exact ⟨s₂, o, X.aaload hx (by rw [eT]; exact A.1) (State.isArrayOf_alike hZ.alike A.2.1) hty A.2.2 h1 (by rw [h2, es]; simpa using hv) (g := o_F Ef m pc Ls.toArray (.int j :: .ref a :: St)) rfl rfl (hb hby hd) _ st, r⟩
theorem o_arraylength (B : o_BE κ l Z n0 R y bytes ml ret Ef fin) {ty : FieldType} {a : Addr} {vs : List Value} (hd : decode bytes pc = .ok (.arraylength, 1)) (A : o_AR Z h a ty vs) (K : o_Go κ Q h k n (pc + 1) Ls (.int (Int32.ofNat vs.length) :: St)) : o_Go κ Q h k n pc Ls (.ref a :: St) := by
  obtain ⟨p, e, s, m, args, below, meth, c, s0, rfl, hs0, hx, hZ, hby, hml, hown, hret, hlk, hnm⟩ := B
  intro T locs X N eT
  obtain ⟨cl, A, es, q⟩ := A
  obtain ⟨s₂, o, st, r⟩ := K T _ X N eT
  have ez : cl.slots.size.toInt32 = Int32.ofNat vs.length := by rw [es]; simp
  exact ⟨s₂, o, X.arraylength hx (by rw [eT]; exact A.1) (State.isArrayOf_alike hZ.alike A.2.1) (g := o_F Ef m pc Ls.toArray (.ref a :: St)) rfl rfl (hb hby hd) _ (by rw [ez]; exact st), r⟩
theorem o_iastore (B : o_BE κ l Z n0 R y bytes ml ret Ef fin) {a : Addr} {vs : List Value} {j : Int32} {x : Int32} (i : Nat) (hd : decode bytes pc = .ok (.iastore, 1)) (A : o_AR Z h a .int vs) (hj : j = Int32.ofNat i) (hi : i < vs.length) (ge : n0 ≤ a) (K : ∀ h', Wr h h' a i (.int x) → o_Go κ Q h' k n (pc + 1) Ls St) : o_Go κ Q h k n pc Ls (.int x :: .int j :: .ref a :: St) := by
  obtain ⟨p, e, s, m, args, below, meth, c, s0, rfl, hs0, hx, hZ, hby, hml, hown, hret, hlk, hnm⟩ := B
  intro T locs X N eT
  obtain ⟨cl, A, es, q⟩ := A
  obtain ⟨h1, h2⟩ := o_in es q hj hi
  obtain ⟨T', h', X', e', W, st'⟩ := stI X hx hZ eT A h1 (g := o_F Ef m pc Ls.toArray (.int x :: .int j :: .ref a :: St)) rfl rfl (hb hby hd)
  have W' := W
  rw [h2] at W'
  obtain ⟨s₂, o, st, r⟩ := K h' W' T' _ X' (Fr.snoc X' N ge) e'
  exact ⟨s₂, o, st' _ st, r⟩
theorem o_lastore (B : o_BE κ l Z n0 R y bytes ml ret Ef fin) {a : Addr} {vs : List Value} {j : Int32} {x : Int64} (i : Nat) (hd : decode bytes pc = .ok (.lastore, 1)) (A : o_AR Z h a .long vs) (hj : j = Int32.ofNat i) (hi : i < vs.length) (ge : n0 ≤ a) (K : ∀ h', Wr h h' a i (.long x) → o_Go κ Q h' k n (pc + 1) Ls St) : o_Go κ Q h k n pc Ls (.long x :: .int j :: .ref a :: St) := by
  obtain ⟨p, e, s, m, args, below, meth, c, s0, rfl, hs0, hx, hZ, hby, hml, hown, hret, hlk, hnm⟩ := B
  intro T locs X N eT
  obtain ⟨cl, A, es, q⟩ := A
  obtain ⟨h1, h2⟩ := o_in es q hj hi
  obtain ⟨T', h', X', e', W, st'⟩ := stJ X hx hZ eT A h1 (g := o_F Ef m pc Ls.toArray (.long x :: .int j :: .ref a :: St)) rfl rfl (hb hby hd)
  have W' := W
  rw [h2] at W'
  obtain ⟨s₂, o, st, r⟩ := K h' W' T' _ X' (Fr.snoc X' N ge) e'
  exact ⟨s₂, o, st' _ st, r⟩
theorem o_bastore (B : o_BE κ l Z n0 R y bytes ml ret Ef fin) {a : Addr} {vs : List Value} {j : Int32} {x : Int32} (i : Nat) (hd : decode bytes pc = .ok (.bastore, 1)) (A : o_AR Z h a .boolean vs) (hj : j = Int32.ofNat i) (hi : i < vs.length) (ge : n0 ≤ a) (K : ∀ h', Wr h h' a i (.int (nar .boolean x)) → o_Go κ Q h' k n (pc + 1) Ls St) : o_Go κ Q h k n pc Ls (.int x :: .int j :: .ref a :: St) := by
  obtain ⟨p, e, s, m, args, below, meth, c, s0, rfl, hs0, hx, hZ, hby, hml, hown, hret, hlk, hnm⟩ := B
  intro T locs X N eT
  obtain ⟨cl, A, es, q⟩ := A
  obtain ⟨h1, h2⟩ := o_in es q hj hi
  obtain ⟨T', h', X', e', W, st'⟩ := stZ X hx hZ eT A h1 (g := o_F Ef m pc Ls.toArray (.int x :: .int j :: .ref a :: St)) rfl rfl (hb hby hd)
  have W' := W
  rw [h2] at W'
  obtain ⟨s₂, o, st, r⟩ := K h' W' T' _ X' (Fr.snoc X' N ge) e'
  exact ⟨s₂, o, st' _ st, r⟩
theorem o_newarray (B : o_BE κ l Z n0 R y bytes ml ret Ef fin) {aty : ArrayType} {cnt : Int32} (cN cap : Nat) (hd : decode bytes pc = .ok (.newarray aty, 2)) (w : (Cond.arrayClass (newarray.typeOf aty)).before a0 Z = true) (hcnt : cnt = Int32.ofNat cN) (hcap : cN ≤ cap) (hbig : cap * 8 ≤ 536870912) (hc : k + 1 ≤ R.cells) (hl : n + cap ≤ R.slots)
    (K : ∀ h', Ext h h' → h.size < h'.size → o_AR Z h' h.size (newarray.typeOf aty) (List.replicate cN (defaultValue (newarray.typeOf aty))) → o_Go κ Q h' (k + 1) (n + cap) (pc + 2) Ls (.ref h.size :: St)) : o_Go κ Q h k n pc Ls (.int cnt :: St) := by
  obtain ⟨p, e, s, m, args, below, meth, c, s0, rfl, hs0, hx, hZ, hby, hml, hown, hret, hlk, hnm⟩ := B
  intro T locs X N eT
  obtain ⟨h1, h2⟩ := o_nat (i := cN) (N := cN + 1) (by omega) (by omega)
  obtain ⟨T', h', cA, X', e', E, A, st'⟩ := newP X hx hZ w eT (g := o_F Ef m pc Ls.toArray (.int cnt :: St)) rfl (hb hby hd) rfl (by rw [hcnt]; exact h2) (cap := cap) (by rw [hcnt, h1]; exact hcap) hbig hc hl
  obtain ⟨s₂, o, st, r⟩ := K h' E A.lt ⟨_, A, by simp [newA, hcnt, h1], by simp; omega⟩ T' _ X' N e'
  exact ⟨s₂, o, st' _ st, r⟩
theorem o_iadd_c (B : o_BE κ l Z n0 R y bytes ml ret Ef fin) {x y : Int32} (z : Int32) (hd : decode bytes pc = .ok (.iadd, 1)) (hz : x + y = z) (K : o_Go κ Q h k n (pc + 1) Ls (.int z :: St)) : o_Go κ Q h k n pc Ls (.int y :: .int x :: St) := o_iadd B hd (hz.symm ▸ K)
theorem o_isub_c (B : o_BE κ l Z n0 R y bytes ml ret Ef fin) {x y : Int32} (z : Int32) (hd : decode bytes pc = .ok (.isub, 1)) (hz : x - y = z) (K : o_Go κ Q h k n (pc + 1) Ls (.int z :: St)) : o_Go κ Q h k n pc Ls (.int y :: .int x :: St) := o_isub B hd (hz.symm ▸ K)
theorem o_iand_c (B : o_BE κ l Z n0 R y bytes ml ret Ef fin) {x y : Int32} (z : Int32) (hd : decode bytes pc = .ok (.iand, 1)) (hz : x &&& y = z) (K : o_Go κ Q h k n (pc + 1) Ls (.int z :: St)) : o_Go κ Q h k n pc Ls (.int y :: .int x :: St) := o_iand B hd (hz.symm ▸ K)
theorem o_imul_c (B : o_BE κ l Z n0 R y bytes ml ret Ef fin) {x y : Int32} (z : Int32) (hd : decode bytes pc = .ok (.imul, 1)) (hz : x * y = z) (K : o_Go κ Q h k n (pc + 1) Ls (.int z :: St)) : o_Go κ Q h k n pc Ls (.int y :: .int x :: St) := o_imul B hd (hz.symm ▸ K)
theorem o_ior_c (B : o_BE κ l Z n0 R y bytes ml ret Ef fin) {x y : Int32} (z : Int32) (hd : decode bytes pc = .ok (.ior, 1)) (hz : x ||| y = z) (K : o_Go κ Q h k n (pc + 1) Ls (.int z :: St)) : o_Go κ Q h k n pc Ls (.int y :: .int x :: St) := o_ior B hd (hz.symm ▸ K)
theorem o_ixor_c (B : o_BE κ l Z n0 R y bytes ml ret Ef fin) {x y : Int32} (z : Int32) (hd : decode bytes pc = .ok (.ixor, 1)) (hz : x ^^^ y = z) (K : o_Go κ Q h k n (pc + 1) Ls (.int z :: St)) : o_Go κ Q h k n pc Ls (.int y :: .int x :: St) := o_ixor B hd (hz.symm ▸ K)
theorem o_ishl_c (B : o_BE κ l Z n0 R y bytes ml ret Ef fin) {x y : Int32} (z : Int32) (hd : decode bytes pc = .ok (.ishl, 1)) (hz : x <<< (y &&& 31) = z) (K : o_Go κ Q h k n (pc + 1) Ls (.int z :: St)) : o_Go κ Q h k n pc Ls (.int y :: .int x :: St) := o_ishl B hd (hz.symm ▸ K)
theorem o_ishr_c (B : o_BE κ l Z n0 R y bytes ml ret Ef fin) {x y : Int32} (z : Int32) (hd : decode bytes pc = .ok (.ishr, 1)) (hz : x >>> (y &&& 31) = z) (K : o_Go κ Q h k n (pc + 1) Ls (.int z :: St)) : o_Go κ Q h k n pc Ls (.int y :: .int x :: St) := o_ishr B hd (hz.symm ▸ K)
theorem o_iushr_c (B : o_BE κ l Z n0 R y bytes ml ret Ef fin) {x y : Int32} (z : Int32) (hd : decode bytes pc = .ok (.iushr, 1)) (hz : XT.ushr x y = z) (K : o_Go κ Q h k n (pc + 1) Ls (.int z :: St)) : o_Go κ Q h k n pc Ls (.int y :: .int x :: St) := o_iushr B hd (hz.symm ▸ K)
theorem o_idiv_c (B : o_BE κ l Z n0 R y bytes ml ret Ef fin) {x y : Int32} (z : Int32) (hd : decode bytes pc = .ok (.idiv, 1)) (hy : y ≠ 0) (hz : x / y = z) (K : o_Go κ Q h k n (pc + 1) Ls (.int z :: St)) : o_Go κ Q h k n pc Ls (.int y :: .int x :: St) := o_idiv B hd hy (hz.symm ▸ K)
theorem o_irem_c (B : o_BE κ l Z n0 R y bytes ml ret Ef fin) {x y : Int32} (z : Int32) (hd : decode bytes pc = .ok (.irem, 1)) (hy : y ≠ 0) (hz : x % y = z) (K : o_Go κ Q h k n (pc + 1) Ls (.int z :: St)) : o_Go κ Q h k n pc Ls (.int y :: .int x :: St) := o_irem B hd hy (hz.symm ▸ K)
theorem o_arraylen (B : o_BE κ l Z n0 R y bytes ml ret Ef fin) {ty : FieldType} {a : Addr} {vs : List Value} (z : Int32) (hd : decode bytes pc = .ok (.arraylength, 1)) (A : o_AR Z h a ty vs) (hz : Int32.ofNat vs.length = z) (K : o_Go κ Q h k n (pc + 1) Ls (.int z :: St)) : o_Go κ Q h k n pc Ls (.ref a :: St) := o_arraylength B hd A (hz.symm ▸ K)
/-- an array of references: as o_AR, and P holds of its class -/
def o_RR (Z : State) (h : Heap) (a : Addr) (ty : FieldType) (P : ClassId → Prop) (vs : List Value) : Prop := ∃ c : Cell, Arr Z h a c ty ∧ c.slots = vs.toArray ∧ vs.length < 2 ^ 31 ∧ P c.cls
section RR
variable {Z : State} {h h' : Heap} {a b y : Addr} {ty : FieldType} {P : ClassId → Prop} {vs : List Value} {sl i : Nat} {v : Value} {ws : List Addr} {C : String}
theorem o_RR.ar (A : o_RR Z h a ty P vs) : o_AR Z h a ty vs := by obtain ⟨c, A, e, q, -⟩ := A; exact ⟨c, A, e, q⟩
theorem o_RR.lt (A : o_RR Z h a ty P vs) : a < h.size := A.ar.lt
theorem o_RR.ext (A : o_RR Z h a ty P vs) (E : Ext h h') : o_RR Z h' a ty P vs := by obtain ⟨c, A, r⟩ := A; exact ⟨c, A.ext E, r⟩
theorem o_RR.other (A : o_RR Z h a ty P vs) (W : Wr h h' b sl v) (q : a ≠ b) : o_RR Z h' a ty P vs := by obtain ⟨c, A, r⟩ := A; exact ⟨c, A.other W q, r⟩
theorem o_RR.keep (A : o_RR Z h a ty P vs) (K : Keep h h' ws) (q : a ∉ ws) : o_RR Z h' a ty P vs := by obtain ⟨c, A, r⟩ := A; exact ⟨c, ⟨K.2.1 a c A.1 q, A.2⟩, r⟩
theorem o_RR.same (A : o_RR Z h a ty P vs) (W : Wr h h' a i v) : o_RR Z h' a ty P (vs.set i v) := by
  obtain ⟨c, A, e, q, r⟩ := A
  exact ⟨_, A.same W, by simp [Cell.setSlot, e], by simpa using q, r⟩
theorem o_stoA (A : o_RR Z h a (.array ty) (fun k => OvrA Z k ty C) vs) (E : Exa Z h y C) : Sto Z h a (.ref y) := by
  obtain ⟨c, A, -, -, O⟩ := A; exact Sto.ofVA A rfl O (Ins.self E)
theorem o_stoR (A : o_RR Z h a (.object C) (fun k => Ovr Z k C) vs) (I : Ins Z h y C true) : Sto Z h a (.ref y) := by
  obtain ⟨c, A, -, -, O⟩ := A; exact Sto.ofV A rfl O I
end RR
theorem o_aastore (B : o_BE κ l Z n0 R y bytes ml ret Ef fin) {ty : FieldType} {P : ClassId → Prop} {a : Addr} {vs : List Value} {j : Int32} {v : Value} (i : Nat) (hty : ty.isReference = true) (hd : decode bytes pc = .ok (.aastore, 1)) (A : o_RR Z h a ty P vs) (hj : j = Int32.ofNat i) (hi : i < vs.length) (F : Sto Z h a v) (ge : n0 ≤ a) (K : ∀ h', Wr h h' a i v → o_Go κ Q h' k n (pc + 1) Ls St) : o_Go κ Q h k n pc Ls (v :: .int j :: .ref a :: St) := by
  obtain ⟨p, e, s, m, args, below, meth, c, s0, rfl, hs0, hx, hZ, hby, hml, hown, hret, hlk, hnm⟩ := B
  intro T locs X N eT
  obtain ⟨cl, A, es, q, -⟩ := A
  obtain ⟨h1, h2⟩ := o_in es q hj hi
  obtain ⟨T', h', X', e', W, st'⟩ := stR X hx hZ eT A h1 hty F (g := o_F Ef m pc Ls.toArray (v :: .int j :: .ref a :: St)) rfl rfl (hb hby hd)
  have W' := W
  rw [h2] at W'
  obtain ⟨s₂, o, st, r⟩ := K h' W' T' _ X' (Fr.snoc X' N ge) e'
  exact ⟨s₂, o, st' _ st, r⟩
theorem o_newarrayE (B : o_BE κ l Z n0 R y bytes ml ret Ef fin) {aty : ArrayType} {cnt : Int32} {ad : String} (cN cap : Nat) (had : "[" ++ (newarray.typeOf aty).toString = ad) (hd : decode bytes pc = .ok (.newarray aty, 2)) (w : (Cond.arrayClass (newarray.typeOf aty)).before a0 Z = true) (hcnt : cnt = Int32.ofNat cN) (hcap : cN ≤ cap) (hbig : cap * 8 ≤ 536870912) (hc : k + 1 ≤ R.cells) (hl : n + cap ≤ R.slots)
    (K : ∀ h', Ext h h' → h.size < h'.size → o_AR Z h' h.size (newarray.typeOf aty) (List.replicate cN (defaultValue (newarray.typeOf aty))) → Exa Z h' h.size ad → o_Go κ Q h' (k + 1) (n + cap) (pc + 2) Ls (.ref h.size :: St)) : o_Go κ Q h k n pc Ls (.int cnt :: St) := by
  obtain ⟨p, e, s, m, args, below, meth, c, s0, rfl, hs0, hx, hZ, hby, hml, hown, hret, hlk, hnm⟩ := B
  intro T locs X N eT
  obtain ⟨h1, h2⟩ := o_nat (i := cN) (N := cN + 1) (by omega) (by omega)
  obtain ⟨T', h', cA, X', e', E, A, Ex, st'⟩ := newPE X hx hZ w eT (g := o_F Ef m pc Ls.toArray (.int cnt :: St)) rfl (hb hby hd) rfl (by rw [hcnt]; exact h2) (cap := cap) (by rw [hcnt, h1]; exact hcap) hbig hc hl had
  obtain ⟨s₂, o, st, r⟩ := K h' E A.lt ⟨_, A, by simp [newA, hcnt, h1], by simp; omega⟩ Ex T' _ X' N e'
  exact ⟨s₂, o, st' _ st, r⟩
theorem o_anewA (B : o_BE κ l Z n0 R y bytes ml ret Ef fin) {C ad : String} {ty : FieldType} {idx : Nat} {cnt : Int32} (cN cap : Nat) (hC : (FieldType.array ty).toString = C) (had : "[" ++ C = ad) (hd : decode bytes pc = .ok (.anewarray idx, 3)) (w1 : (Cond.classLink y.cls idx C).before a0 Z = true) (w2 : (Cond.arrayOver (.array ty)).before a0 Z = true) (hcnt : cnt = Int32.ofNat cN) (hcap : cN ≤ cap) (hbig : cap * 8 ≤ 536870912) (hc : k + 1 ≤ R.cells) (hl : n + cap ≤ R.slots)
    (K : ∀ h', Ext h h' → h.size < h'.size → o_RR Z h' h.size (.array ty) (fun k => OvrA Z k ty C) (List.replicate cN .null) → Exa Z h' h.size ad → o_Go κ Q h' (k + 1) (n + cap) (pc + 3) Ls (.ref h.size :: St)) : o_Go κ Q h k n pc Ls (.int cnt :: St) := by
  obtain ⟨p, e, s, m, args, below, meth, c, s0, rfl, hs0, hx, hZ, hby, hml, hown, hret, hlk, hnm⟩ := B
  intro T locs X N eT
  obtain ⟨h1, h2⟩ := o_nat (i := cN) (N := cN + 1) (by omega) (by omega)
  obtain ⟨T', h', cA, X', e', E, A, Ex, O, st'⟩ := newRA X hx hZ hown hC w1 w2 eT (g := o_F Ef m pc Ls.toArray (.int cnt :: St)) rfl (hb hby hd) rfl (by rw [hcnt]; exact h2) (cap := cap) (by rw [hcnt, h1]; exact hcap) hbig hc hl had
  obtain ⟨s₂, o, st, r⟩ := K h' E A.lt ⟨_, A, by simp [newA, hcnt, h1, defaultValue], by simp; omega, O⟩ Ex T' _ X' N e'
  exact ⟨s₂, o, st' _ st, r⟩
theorem o_anewR (B : o_BE κ l Z n0 R y bytes ml ret Ef fin) {C ad : String} {idx : Nat} {cnt : Int32} (cN cap : Nat) (had : "[" ++ (FieldType.object C).toString = ad) (hd : decode bytes pc = .ok (.anewarray idx, 3)) (w1 : (Cond.classLink y.cls idx C).before a0 Z = true) (w2 : (Cond.arrayOver (.object C)).before a0 Z = true) (hcnt : cnt = Int32.ofNat cN) (hcap : cN ≤ cap) (hbig : cap * 8 ≤ 536870912) (hc : k + 1 ≤ R.cells) (hl : n + cap ≤ R.slots)
    (K : ∀ h', Ext h h' → h.size < h'.size → o_RR Z h' h.size (.object C) (fun k => Ovr Z k C) (List.replicate cN .null) → Exa Z h' h.size ad → o_Go κ Q h' (k + 1) (n + cap) (pc + 3) Ls (.ref h.size :: St)) : o_Go κ Q h k n pc Ls (.int cnt :: St) := by
  obtain ⟨p, e, s, m, args, below, meth, c, s0, rfl, hs0, hx, hZ, hby, hml, hown, hret, hlk, hnm⟩ := B
  intro T locs X N eT
  obtain ⟨h1, h2⟩ := o_nat (i := cN) (N := cN + 1) (by omega) (by omega)
  obtain ⟨T', h', cA, X', e', E, A, Ex, O, st'⟩ := newRE X hx hZ hown w1 w2 eT (g := o_F Ef m pc Ls.toArray (.int cnt :: St)) rfl (hb hby hd) rfl (by rw [hcnt]; exact h2) (cap := cap) (by rw [hcnt, h1]; exact hcap) hbig hc hl had
  obtain ⟨s₂, o, st, r⟩ := K h' E A.lt ⟨_, A, by simp [newA, hcnt, h1, defaultValue], by simp; omega, O⟩ Ex T' _ X' N e'
  exact ⟨s₂, o, st' _ st, r⟩
theorem o_callS (B : o_BE κ l Z n0 R y bytes ml ret Ef fin) {yc : MethodName} {bc : ByteArray} {mc : Nat} {rc : Option FieldType} {rm : Room} {as rest : List Value} {Qc : Option Value → Heap → Prop} {idx : Nat} (W : Nat) (hd : decode bytes pc = .ok (.invokestatic idx, 3))
    (w1 : (Cond.methodLink y.cls idx yc).before a0 Z = true) (w2 : (Cond.static yc).before a0 Z = true) (w3 : (Cond.initialized yc.cls).before a0 Z = true) (w4 : (Cond.code yc bc mc rc).before a0 Z = true) (hy : yc.cls ≠ "java/lang/invoke/MethodHandle" ∧ yc.cls ≠ "java/lang/invoke/VarHandle") {ps : List FieldType} {r0 : Option FieldType} (pd : parseMethodDescriptor yc.desc = some ⟨ps, r0⟩) (hlen : as.length = ps.length)
    (hW : 2 * Ef.2 + (rest.map fun v => v.category).sum ≤ W) (hf : rm.frames + 1 ≤ R.frames) (hl : W + (mc + 11) + rm.locals ≤ R.locals) (hc : k + rm.cells ≤ R.cells) (hs : n + rm.slots ≤ R.slots) (hLs : Ls.length = ml)
    (C : o_C l Z n0 yc bc mc rc rm as h Qc) (K : ∀ v h', Qc v h' → o_Go κ Q h' (k + rm.cells) (n + rm.slots) (pc + 3) Ls (v.toList ++ rest)) : o_Go κ Q h k n pc Ls (as.reverse ++ rest) := by
  obtain ⟨p, e, s, m, args, below, meth, c, s0, rfl, hs0, hx, hZ, hby, hml, hown, hret, hlk, hnm⟩ := B
  intro T locs X N eT
  obtain ⟨v, vm1, ⟨T', L', k', n'⟩, -, X', ⟨Lc, hQ, l', y', z'⟩, st'⟩ := Jvm.LawKit.callS X hx (y := yc) hown (mvT hZ w1) (mvT hZ w2) (mvT hZ w3) (mvT hZ w4) hy (backOf (W := W) (Q := fun v h L => Qc v h ∧ Fr n0 L) (C []) hZ w4 w3 hf hl) (g := o_F Ef m pc Ls.toArray (as.reverse ++ rest)) rfl (by rw [hml, ← hLs]; simp) (argsL := as) (rest := rest) (lenOf pd hlen) rfl (by simpa using hW) (hb hby hd) (fun _ _ => ⟨rfl, eT, hc, hs⟩)
  dsimp only [Pt.U, Pt.locs, Pt.cells, Pt.slots] at X' l' y' z' st' hQ
  subst l' y' z'
  obtain ⟨hq, Nc⟩ := hQ
  obtain ⟨s₂, o, st, r⟩ := K v T'.heap hq T' _ X' (Fr.app N Nc) rfl
  exact ⟨s₂, o, st' _ st, r⟩
theorem o_callN (B : o_BE κ l Z n0 R y bytes ml ret Ef fin) {yc : MethodName} {bc : ByteArray} {mc : Nat} {rm : Room} {as rest : List Value} {a : Addr} {Qc : Option Value → Heap → Prop} {idx : Nat} (W : Nat) (hd : decode bytes pc = .ok (.invokespecial idx, 3)) (hin : yc.name = "<init>")
    (w1 : (Cond.methodLink y.cls idx yc).before a0 Z = true) (w2 : (Cond.instanceMethod yc).before a0 Z = true) (w3 : (Cond.initialized yc.cls).before a0 Z = true) (w4 : (Cond.code yc bc mc none).before a0 Z = true) (hy : yc.cls ≠ "java/lang/invoke/MethodHandle" ∧ yc.cls ≠ "java/lang/invoke/VarHandle") {ps : List FieldType} {r0 : Option FieldType} (pd : parseMethodDescriptor yc.desc = some ⟨ps, r0⟩) (hlen : as.length = ps.length)
    (hW : 2 * Ef.2 + (rest.map fun v => v.category).sum ≤ W) (hf : rm.frames + 1 ≤ R.frames) (hl : W + (mc + 11) + rm.locals ≤ R.locals) (hc : k + rm.cells ≤ R.cells) (hs : n + rm.slots ≤ R.slots) (hLs : Ls.length = ml)
    (C : o_C l Z n0 yc bc mc none rm (.ref a :: as) h Qc) (K : ∀ v h', Qc v h' → o_Go κ Q h' (k + rm.cells) (n + rm.slots) (pc + 3) Ls (v.toList ++ rest)) : o_Go κ Q h k n pc Ls (as.reverse ++ .ref a :: rest) := by
  obtain ⟨p, e, s, m, args, below, meth, c, s0, rfl, hs0, hx, hZ, hby, hml, hown, hret, hlk, hnm⟩ := B
  intro T locs X N eT
  obtain ⟨v, vm1, ⟨T', L', k', n'⟩, -, X', ⟨Lc, hQ, l', y', z'⟩, st'⟩ := X.specialBack hx (y := yc) hin hown (mvT hZ w1) (mvT hZ w2) (mvT hZ w4) hy (backOf (W := W) (Q := fun v h L => Qc v h ∧ Fr n0 L) (C []) hZ w4 w3 hf hl) (g := o_F Ef m pc Ls.toArray (as.reverse ++ .ref a :: rest)) rfl (by rw [hml, ← hLs]; simp) (Steps.refl _) (a := a) (argsL := as) (rest := rest) (lenOf pd hlen) rfl (by simpa using hW) (hb hby hd) (fun _ _ => ⟨rfl, eT, hc, hs⟩)
  dsimp only [Pt.U, Pt.locs, Pt.cells, Pt.slots] at X' l' y' z' st' hQ
  subst l' y' z'
  obtain ⟨hq, Nc⟩ := hQ
  obtain ⟨s₂, o, st, r⟩ := K v T'.heap hq T' _ X' (Fr.app N Nc) rfl
  exact ⟨s₂, o, st'.trans st, r⟩
theorem o_callV (B : o_BE κ l Z n0 R y bytes ml ret Ef fin) {yc : MethodName} {Cn : String} {bc : ByteArray} {mc : Nat} {rc : Option FieldType} {rm : Room} {as rest : List Value} {a : Addr} {Qc : Option Value → Heap → Prop} {idx : Nat} (W : Nat) (hd : decode bytes pc = .ok (.invokevirtual idx, 3))
    (w1 : (Cond.methodLink y.cls idx yc).before a0 Z = true) (w2 : (Cond.declares yc).before a0 Z = true) (w5 : (Cond.selects Cn yc yc).before a0 Z = true) (w6 : (Cond.instanceMethod yc).before a0 Z = true) (w3 : (Cond.initialized yc.cls).before a0 Z = true) (w4 : (Cond.code yc bc mc rc).before a0 Z = true) (hy : yc.cls ≠ "java/lang/invoke/MethodHandle" ∧ yc.cls ≠ "java/lang/invoke/VarHandle") {ps : List FieldType} {r0 : Option FieldType} (pd : parseMethodDescriptor yc.desc = some ⟨ps, r0⟩) (hlen : as.length = ps.length)
    (hW : 2 * Ef.2 + (rest.map fun v => v.category).sum ≤ W) (hf : rm.frames + 1 ≤ R.frames) (hl : W + (mc + 11) + rm.locals ≤ R.locals) (hc : k + rm.cells ≤ R.cells) (hs : n + rm.slots ≤ R.slots) (hLs : Ls.length = ml) (E : Exa Z h a Cn)
    (C : o_C l Z n0 yc bc mc rc rm (.ref a :: as) h Qc) (K : ∀ v h', Qc v h' → o_Go κ Q h' (k + rm.cells) (n + rm.slots) (pc + 3) Ls (v.toList ++ rest)) : o_Go κ Q h k n pc Ls (as.reverse ++ .ref a :: rest) := by
  obtain ⟨p, e, s, m, args, below, meth, c, s0, rfl, hs0, hx, hZ, hby, hml, hown, hret, hlk, hnm⟩ := B
  intro T locs X N eT
  obtain ⟨cq, kq, qa, qb, qc⟩ := isOf hZ eT E
  obtain ⟨v, vm1, ⟨T', L', k', n'⟩, -, X', ⟨Lc, hQ, l', y', z'⟩, st'⟩ := X.virtualBack hx (y := yc) (z := yc) hown (mvT hZ w1) (mvT hZ w2) (notFace_of_selects (args := #[]) (mvT hZ w5)) (mvT hZ w5) (mvT hZ w6) hy (backOf (W := W) (Q := fun v h L => Qc v h ∧ Fr n0 L) (C []) hZ w4 w3 hf hl) qa qc (g := o_F Ef m pc Ls.toArray (as.reverse ++ .ref a :: rest)) rfl (by rw [hml, ← hLs]; simp) (Steps.refl _) (argsL := as) (rest := rest) (lenOf pd hlen) rfl (by simpa using hW) (hb hby hd) (fun _ _ => ⟨rfl, eT, hc, hs⟩)
  dsimp only [Pt.U, Pt.locs, Pt.cells, Pt.slots] at X' l' y' z' st' hQ
  subst l' y' z'
  obtain ⟨hq, Nc⟩ := hQ
  obtain ⟨s₂, o, st, r⟩ := K v T'.heap hq T' _ X' (Fr.app N Nc) rfl
  exact ⟨s₂, o, st'.trans st, r⟩
theorem o_callS0 (B : o_BE κ l Z n0 R y bytes ml ret Ef fin) {yc : MethodName} {bc : ByteArray} {mc : Nat} {rc : Option FieldType} {rm : Room} {rest : List Value} {Qc : Option Value → Heap → Prop} {idx : Nat} (W : Nat) (hd : decode bytes pc = .ok (.invokestatic idx, 3)) (w1 : (Cond.methodLink y.cls idx yc).before a0 Z = true) (w2 : (Cond.static yc).before a0 Z = true) (w3 : (Cond.initialized yc.cls).before a0 Z = true) (w4 : (Cond.code yc bc mc rc).before a0 Z = true) (hy : yc.cls ≠ "java/lang/invoke/MethodHandle" ∧ yc.cls ≠ "java/lang/invoke/VarHandle") {ps : List FieldType} {r0 : Option FieldType} (pd : parseMethodDescriptor yc.desc = some ⟨ps, r0⟩) (hlen : 0 = ps.length) (hW : 2 * Ef.2 + (rest.map fun v => v.category).sum ≤ W) (hf : rm.frames + 1 ≤ R.frames) (hl : W + (mc + 11) + rm.locals ≤ R.locals) (hc : k + rm.cells ≤ R.cells) (hs : n + rm.slots ≤ R.slots) (hLs : Ls.length = ml) (C : o_C l Z n0 yc bc mc rc rm [] h Qc) (K : ∀ v h', Qc v h' → o_Go κ Q h' (k + rm.cells) (n + rm.slots) (pc + 3) Ls (v.toList ++ rest)) : o_Go κ Q h k n pc Ls (rest) := o_callS B W hd w1 w2 w3 w4 hy pd (as := []) hlen hW hf hl hc hs hLs C K
theorem o_callN0 (B : o_BE κ l Z n0 R y bytes ml ret Ef fin) {yc : MethodName} {bc : ByteArray} {mc : Nat} {rm : Room} {rest : List Value} {a : Addr} {Qc : Option Value → Heap → Prop} {idx : Nat} (W : Nat) (hd : decode bytes pc = .ok (.invokespecial idx, 3)) (hin : yc.name = "<init>") (w1 : (Cond.methodLink y.cls idx yc).before a0 Z = true) (w2 : (Cond.instanceMethod yc).before a0 Z = true) (w3 : (Cond.initialized yc.cls).before a0 Z = true) (w4 : (Cond.code yc bc mc none).before a0 Z = true) (hy : yc.cls ≠ "java/lang/invoke/MethodHandle" ∧ yc.cls ≠ "java/lang/invoke/VarHandle") {ps : List FieldType} {r0 : Option FieldType} (pd : parseMethodDescriptor yc.desc = some ⟨ps, r0⟩) (hlen : 0 = ps.length) (hW : 2 * Ef.2 + (rest.map fun v => v.category).sum ≤ W) (hf : rm.frames + 1 ≤ R.frames) (hl : W + (mc + 11) + rm.locals ≤ R.locals) (hc : k + rm.cells ≤ R.cells) (hs : n + rm.slots ≤ R.slots) (hLs : Ls.length = ml) (C : o_C l Z n0 yc bc mc none rm (.ref a :: []) h Qc) (K : ∀ v h', Qc v h' → o_Go κ Q h' (k + rm.cells) (n + rm.slots) (pc + 3) Ls (v.toList ++ rest)) : o_Go κ Q h k n pc Ls (.ref a :: rest) := o_callN B W hd hin w1 w2 w3 w4 hy pd (as := []) hlen hW hf hl hc hs hLs C K
theorem o_callV0 (B : o_BE κ l Z n0 R y bytes ml ret Ef fin) {yc : MethodName} {Cn : String} {bc : ByteArray} {mc : Nat} {rc : Option FieldType} {rm : Room} {rest : List Value} {a : Addr} {Qc : Option Value → Heap → Prop} {idx : Nat} (W : Nat) (hd : decode bytes pc = .ok (.invokevirtual idx, 3)) (w1 : (Cond.methodLink y.cls idx yc).before a0 Z = true) (w2 : (Cond.declares yc).before a0 Z = true) (w5 : (Cond.selects Cn yc yc).before a0 Z = true) (w6 : (Cond.instanceMethod yc).before a0 Z = true) (w3 : (Cond.initialized yc.cls).before a0 Z = true) (w4 : (Cond.code yc bc mc rc).before a0 Z = true) (hy : yc.cls ≠ "java/lang/invoke/MethodHandle" ∧ yc.cls ≠ "java/lang/invoke/VarHandle") {ps : List FieldType} {r0 : Option FieldType} (pd : parseMethodDescriptor yc.desc = some ⟨ps, r0⟩) (hlen : 0 = ps.length) (hW : 2 * Ef.2 + (rest.map fun v => v.category).sum ≤ W) (hf : rm.frames + 1 ≤ R.frames) (hl : W + (mc + 11) + rm.locals ≤ R.locals) (hc : k + rm.cells ≤ R.cells) (hs : n + rm.slots ≤ R.slots) (hLs : Ls.length = ml) (E : Exa Z h a Cn) (C : o_C l Z n0 yc bc mc rc rm (.ref a :: []) h Qc) (K : ∀ v h', Qc v h' → o_Go κ Q h' (k + rm.cells) (n + rm.slots) (pc + 3) Ls (v.toList ++ rest)) : o_Go κ Q h k n pc Ls (.ref a :: rest) := o_callV B W hd w1 w2 w5 w6 w3 w4 hy pd (as := []) hlen hW hf hl hc hs hLs E C K
theorem o_callS1 (B : o_BE κ l Z n0 R y bytes ml ret Ef fin) {yc : MethodName} {bc : ByteArray} {mc : Nat} {rc : Option FieldType} {rm : Room} {v0 : Value} {rest : List Value} {Qc : Option Value → Heap → Prop} {idx : Nat} (W : Nat) (hd : decode bytes pc = .ok (.invokestatic idx, 3)) (w1 : (Cond.methodLink y.cls idx yc).before a0 Z = true) (w2 : (Cond.static yc).before a0 Z = true) (w3 : (Cond.initialized yc.cls).before a0 Z = true) (w4 : (Cond.code yc bc mc rc).before a0 Z = true) (hy : yc.cls ≠ "java/lang/invoke/MethodHandle" ∧ yc.cls ≠ "java/lang/invoke/VarHandle") {ps : List FieldType} {r0 : Option FieldType} (pd : parseMethodDescriptor yc.desc = some ⟨ps, r0⟩) (hlen : 1 = ps.length) (hW : 2 * Ef.2 + (rest.map fun v => v.category).sum ≤ W) (hf : rm.frames + 1 ≤ R.frames) (hl : W + (mc + 11) + rm.locals ≤ R.locals) (hc : k + rm.cells ≤ R.cells) (hs : n + rm.slots ≤ R.slots) (hLs : Ls.length = ml) (C : o_C l Z n0 yc bc mc rc rm [v0] h Qc) (K : ∀ v h', Qc v h' → o_Go κ Q h' (k + rm.cells) (n + rm.slots) (pc + 3) Ls (v.toList ++ rest)) : o_Go κ Q h k n pc Ls (v0 :: rest) := o_callS B W hd w1 w2 w3 w4 hy pd (as := [v0]) hlen hW hf hl hc hs hLs C K
theorem o_callN1 (B : o_BE κ l Z n0 R y bytes ml ret Ef fin) {yc : MethodName} {bc : ByteArray} {mc : Nat} {rm : Room} {v0 : Value} {rest : List Value} {a : Addr} {Qc : Option Value → Heap → Prop} {idx : Nat} (W : Nat) (hd : decode bytes pc = .ok (.invokespecial idx, 3)) (hin : yc.name = "<init>") (w1 : (Cond.methodLink y.cls idx yc).before a0 Z = true) (w2 : (Cond.instanceMethod yc).before a0 Z = true) (w3 : (Cond.initialized yc.cls).before a0 Z = true) (w4 : (Cond.code yc bc mc none).before a0 Z = true) (hy : yc.cls ≠ "java/lang/invoke/MethodHandle" ∧ yc.cls ≠ "java/lang/invoke/VarHandle") {ps : List FieldType} {r0 : Option FieldType} (pd : parseMethodDescriptor yc.desc = some ⟨ps, r0⟩) (hlen : 1 = ps.length) (hW : 2 * Ef.2 + (rest.map fun v => v.category).sum ≤ W) (hf : rm.frames + 1 ≤ R.frames) (hl : W + (mc + 11) + rm.locals ≤ R.locals) (hc : k + rm.cells ≤ R.cells) (hs : n + rm.slots ≤ R.slots) (hLs : Ls.length = ml) (C : o_C l Z n0 yc bc mc none rm (.ref a :: [v0]) h Qc) (K : ∀ v h', Qc v h' → o_Go κ Q h' (k + rm.cells) (n + rm.slots) (pc + 3) Ls (v.toList ++ rest)) : o_Go κ Q h k n pc Ls (v0 :: .ref a :: rest) := o_callN B W hd hin w1 w2 w3 w4 hy pd (as := [v0]) hlen hW hf hl hc hs hLs C K
theorem o_callV1 (B : o_BE κ l Z n0 R y bytes ml ret Ef fin) {yc : MethodName} {Cn : String} {bc : ByteArray} {mc : Nat} {rc : Option FieldType} {rm : Room} {v0 : Value} {rest : List Value} {a : Addr} {Qc : Option Value → Heap → Prop} {idx : Nat} (W : Nat) (hd : decode bytes pc = .ok (.invokevirtual idx, 3)) (w1 : (Cond.methodLink y.cls idx yc).before a0 Z = true) (w2 : (Cond.declares yc).before a0 Z = true) (w5 : (Cond.selects Cn yc yc).before a0 Z = true) (w6 : (Cond.instanceMethod yc).before a0 Z = true) (w3 : (Cond.initialized yc.cls).before a0 Z = true) (w4 : (Cond.code yc bc mc rc).before a0 Z = true) (hy : yc.cls ≠ "java/lang/invoke/MethodHandle" ∧ yc.cls ≠ "java/lang/invoke/VarHandle") {ps : List FieldType} {r0 : Option FieldType} (pd : parseMethodDescriptor yc.desc = some ⟨ps, r0⟩) (hlen : 1 = ps.length) (hW : 2 * Ef.2 + (rest.map fun v => v.category).sum ≤ W) (hf : rm.frames + 1 ≤ R.frames) (hl : W + (mc + 11) + rm.locals ≤ R.locals) (hc : k + rm.cells ≤ R.cells) (hs : n + rm.slots ≤ R.slots) (hLs : Ls.length = ml) (E : Exa Z h a Cn) (C : o_C l Z n0 yc bc mc rc rm (.ref a :: [v0]) h Qc) (K : ∀ v h', Qc v h' → o_Go κ Q h' (k + rm.cells) (n + rm.slots) (pc + 3) Ls (v.toList ++ rest)) : o_Go κ Q h k n pc Ls (v0 :: .ref a :: rest) := o_callV B W hd w1 w2 w5 w6 w3 w4 hy pd (as := [v0]) hlen hW hf hl hc hs hLs E C K
theorem o_callS2 (B : o_BE κ l Z n0 R y bytes ml ret Ef fin) {yc : MethodName} {bc : ByteArray} {mc : Nat} {rc : Option FieldType} {rm : Room} {v0 v1 : Value} {rest : List Value} {Qc : Option Value → Heap → Prop} {idx : Nat} (W : Nat) (hd : decode bytes pc = .ok (.invokestatic idx, 3)) (w1 : (Cond.methodLink y.cls idx yc).before a0 Z = true) (w2 : (Cond.static yc).before a0 Z = true) (w3 : (Cond.initialized yc.cls).before a0 Z = true) (w4 : (Cond.code yc bc mc rc).before a0 Z = true) (hy : yc.cls ≠ "java/lang/invoke/MethodHandle" ∧ yc.cls ≠ "java/lang/invoke/VarHandle") {ps : List FieldType} {r0 : Option FieldType} (pd : parseMethodDescriptor yc.desc = some ⟨ps, r0⟩) (hlen : 2 = ps.length) (hW : 2 * Ef.2 + (rest.map fun v => v.category).sum ≤ W) (hf : rm.frames + 1 ≤ R.frames) (hl : W + (mc + 11) + rm.locals ≤ R.locals) (hc : k + rm.cells ≤ R.cells) (hs : n + rm.slots ≤ R.slots) (hLs : Ls.length = ml) (C : o_C l Z n0 yc bc mc rc rm [v0, v1] h Qc) (K : ∀ v h', Qc v h' → o_Go κ Q h' (k + rm.cells) (n + rm.slots) (pc + 3) Ls (v.toList ++ rest)) : o_Go κ Q h k n pc Ls (v1 :: v0 :: rest) := o_callS B W hd w1 w2 w3 w4 hy pd (as := [v0, v1]) hlen hW hf hl hc hs hLs C K
theorem o_callN2 (B : o_BE κ l Z n0 R y bytes ml ret Ef fin) {yc : MethodName} {bc : ByteArray} {mc : Nat} {rm : Room} {v0 v1 : Value} {rest : List Value} {a : Addr} {Qc : Option Value → Heap → Prop} {idx : Nat} (W : Nat) (hd : decode bytes pc = .ok (.invokespecial idx, 3)) (hin : yc.name = "<init>") (w1 : (Cond.methodLink y.cls idx yc).before a0 Z = true) (w2 : (Cond.instanceMethod yc).before a0 Z = true) (w3 : (Cond.initialized yc.cls).before a0 Z = true) (w4 : (Cond.code yc bc mc none).before a0 Z = true) (hy : yc.cls ≠ "java/lang/invoke/MethodHandle" ∧ yc.cls ≠ "java/lang/invoke/VarHandle") {ps : List FieldType} {r0 : Option FieldType} (pd : parseMethodDescriptor yc.desc = some ⟨ps, r0⟩) (hlen : 2 = ps.length) (hW : 2 * Ef.2 + (rest.map fun v => v.category).sum ≤ W) (hf : rm.frames + 1 ≤ R.frames) (hl : W + (mc + 11) + rm.locals ≤ R.locals) (hc : k + rm.cells ≤ R.cells) (hs : n + rm.slots ≤ R.slots) (hLs : Ls.length = ml) (C : o_C l Z n0 yc bc mc none rm (.ref a :: [v0, v1]) h Qc) (K : ∀ v h', Qc v h' → o_Go κ Q h' (k + rm.cells) (n + rm.slots) (pc + 3) Ls (v.toList ++ rest)) : o_Go κ Q h k n pc Ls (v1 :: v0 :: .ref a :: rest) := o_callN B W hd hin w1 w2 w3 w4 hy pd (as := [v0, v1]) hlen hW hf hl hc hs hLs C K
theorem o_callV2 (B : o_BE κ l Z n0 R y bytes ml ret Ef fin) {yc : MethodName} {Cn : String} {bc : ByteArray} {mc : Nat} {rc : Option FieldType} {rm : Room} {v0 v1 : Value} {rest : List Value} {a : Addr} {Qc : Option Value → Heap → Prop} {idx : Nat} (W : Nat) (hd : decode bytes pc = .ok (.invokevirtual idx, 3)) (w1 : (Cond.methodLink y.cls idx yc).before a0 Z = true) (w2 : (Cond.declares yc).before a0 Z = true) (w5 : (Cond.selects Cn yc yc).before a0 Z = true) (w6 : (Cond.instanceMethod yc).before a0 Z = true) (w3 : (Cond.initialized yc.cls).before a0 Z = true) (w4 : (Cond.code yc bc mc rc).before a0 Z = true) (hy : yc.cls ≠ "java/lang/invoke/MethodHandle" ∧ yc.cls ≠ "java/lang/invoke/VarHandle") {ps : List FieldType} {r0 : Option FieldType} (pd : parseMethodDescriptor yc.desc = some ⟨ps, r0⟩) (hlen : 2 = ps.length) (hW : 2 * Ef.2 + (rest.map fun v => v.category).sum ≤ W) (hf : rm.frames + 1 ≤ R.frames) (hl : W + (mc + 11) + rm.locals ≤ R.locals) (hc : k + rm.cells ≤ R.cells) (hs : n + rm.slots ≤ R.slots) (hLs : Ls.length = ml) (E : Exa Z h a Cn) (C : o_C l Z n0 yc bc mc rc rm (.ref a :: [v0, v1]) h Qc) (K : ∀ v h', Qc v h' → o_Go κ Q h' (k + rm.cells) (n + rm.slots) (pc + 3) Ls (v.toList ++ rest)) : o_Go κ Q h k n pc Ls (v1 :: v0 :: .ref a :: rest) := o_callV B W hd w1 w2 w5 w6 w3 w4 hy pd (as := [v0, v1]) hlen hW hf hl hc hs hLs E C K
theorem o_callS3 (B : o_BE κ l Z n0 R y bytes ml ret Ef fin) {yc : MethodName} {bc : ByteArray} {mc : Nat} {rc : Option FieldType} {rm : Room} {v0 v1 v2 : Value} {rest : List Value} {Qc : Option Value → Heap → Prop} {idx : Nat} (W : Nat) (hd : decode bytes pc = .ok (.invokestatic idx, 3)) (w1 : (Cond.methodLink y.cls idx yc).before a0 Z = true) (w2 : (Cond.static yc).before a0 Z = true) (w3 : (Cond.initialized yc.cls).before a0 Z = true) (w4 : (Cond.code yc bc mc rc).before a0 Z = true) (hy : yc.cls ≠ "java/lang/invoke/MethodHandle" ∧ yc.cls ≠ "java/lang/invoke/VarHandle") {ps : List FieldType} {r0 : Option FieldType} (pd : parseMethodDescriptor yc.desc = some ⟨ps, r0⟩) (hlen : 3 = ps.length) (hW : 2 * Ef.2 + (rest.map fun v => v.category).sum ≤ W) (hf : rm.frames + 1 ≤ R.frames) (hl : W + (mc + 11) + rm.locals ≤ R.locals) (hc : k + rm.cells ≤ R.cells) (hs : n + rm.slots ≤ R.slots) (hLs : Ls.length = ml) (C : o_C l Z n0 yc bc mc rc rm [v0, v1, v2] h Qc) (K : ∀ v h', Qc v h' → o_Go κ Q h' (k + rm.cells) (n + rm.slots) (pc + 3) Ls (v.toList ++ rest)) : o_Go κ Q h k n pc Ls (v2 :: v1 :: v0 :: rest) := o_callS B W hd w1 w2 w3 w4 hy pd (as := [v0, v1, v2]) hlen hW hf hl hc hs hLs C K
theorem o_callN3 (B : o_BE κ l Z n0 R y bytes ml ret Ef fin) {yc : MethodName} {bc : ByteArray} {mc : Nat} {rm : Room} {v0 v1 v2 : Value} {rest : List Value} {a : Addr} {Qc : Option Value → Heap → Prop} {idx : Nat} (W : Nat) (hd : decode bytes pc = .ok (.invokespecial idx, 3)) (hin : yc.name = "<init>") (w1 : (Cond.methodLink y.cls idx yc).before a0 Z = true) (w2 : (Cond.instanceMethod yc).before a0 Z = true) (w3 : (Cond.initialized yc.cls).before a0 Z = true) (w4 : (Cond.code yc bc mc none).before a0 Z = true) (hy : yc.cls ≠ "java/lang/invoke/MethodHandle" ∧ yc.cls ≠ "java/lang/invoke/VarHandle") {ps : List FieldType} {r0 : Option FieldType} (pd : parseMethodDescriptor yc.desc = some ⟨ps, r0⟩) (hlen : 3 = ps.length) (hW : 2 * Ef.2 + (rest.map fun v => v.category).sum ≤ W) (hf : rm.frames + 1 ≤ R.frames) (hl : W + (mc + 11) + rm.locals ≤ R.locals) (hc : k + rm.cells ≤ R.cells) (hs : n + rm.slots ≤ R.slots) (hLs : Ls.length = ml) (C : o_C l Z n0 yc bc mc none rm (.ref a :: [v0, v1, v2]) h Qc) (K : ∀ v h', Qc v h' → o_Go κ Q h' (k + rm.cells) (n + rm.slots) (pc + 3) Ls (v.toList ++ rest)) : o_Go κ Q h k n pc Ls (v2 :: v1 :: v0 :: .ref a :: rest) := o_callN B W hd hin w1 w2 w3 w4 hy pd (as := [v0, v1, v2]) hlen hW hf hl hc hs hLs C K
theorem o_callV3 (B : o_BE κ l Z n0 R y bytes ml ret Ef fin) {yc : MethodName} {Cn : String} {bc : ByteArray} {mc : Nat} {rc : Option FieldType} {rm : Room} {v0 v1 v2 : Value} {rest : List Value} {a : Addr} {Qc : Option Value → Heap → Prop} {idx : Nat} (W : Nat) (hd : decode bytes pc = .ok (.invokevirtual idx, 3)) (w1 : (Cond.methodLink y.cls idx yc).before a0 Z = true) (w2 : (Cond.declares yc).before a0 Z = true) (w5 : (Cond.selects Cn yc yc).before a0 Z = true) (w6 : (Cond.instanceMethod yc).before a0 Z = true) (w3 : (Cond.initialized yc.cls).before a0 Z = true) (w4 : (Cond.code yc bc mc rc).before a0 Z = true) (hy : yc.cls ≠ "java/lang/invoke/MethodHandle" ∧ yc.cls ≠ "java/lang/invoke/VarHandle") {ps : List FieldType} {r0 : Option FieldType} (pd : parseMethodDescriptor yc.desc = some ⟨ps, r0⟩) (hlen : 3 = ps.length) (hW : 2 * Ef.2 + (rest.map fun v => v.category).sum ≤ W) (hf : rm.frames + 1 ≤ R.frames) (hl : W + (mc + 11) + rm.locals ≤ R.locals) (hc : k + rm.cells ≤ R.cells) (hs : n + rm.slots ≤ R.slots) (hLs : Ls.length = ml) (E : Exa Z h a Cn) (C : o_C l Z n0 yc bc mc rc rm (.ref a :: [v0, v1, v2]) h Qc) (K : ∀ v h', Qc v h' → o_Go κ Q h' (k + rm.cells) (n + rm.slots) (pc + 3) Ls (v.toList ++ rest)) : o_Go κ Q h k n pc Ls (v2 :: v1 :: v0 :: .ref a :: rest) := o_callV B W hd w1 w2 w5 w6 w3 w4 hy pd (as := [v0, v1, v2]) hlen hW hf hl hc hs hLs E C K
theorem o_callS4 (B : o_BE κ l Z n0 R y bytes ml ret Ef fin) {yc : MethodName} {bc : ByteArray} {mc : Nat} {rc : Option FieldType} {rm : Room} {v0 v1 v2 v3 : Value} {rest : List Value} {Qc : Option Value → Heap → Prop} {idx : Nat} (W : Nat) (hd : decode bytes pc = .ok (.invokestatic idx, 3)) (w1 : (Cond.methodLink y.cls idx yc).before a0 Z = true) (w2 : (Cond.static yc).before a0 Z = true) (w3 : (Cond.initialized yc.cls).before a0 Z = true) (w4 : (Cond.code yc bc mc rc).before a0 Z = true) (hy : yc.cls ≠ "java/lang/invoke/MethodHandle" ∧ yc.cls ≠ "java/lang/invoke/VarHandle") {ps : List FieldType} {r0 : Option FieldType} (pd : parseMethodDescriptor yc.desc = some ⟨ps, r0⟩) (hlen : 4 = ps.length) (hW : 2 * Ef.2 + (rest.map fun v => v.category).sum ≤ W) (hf : rm.frames + 1 ≤ R.frames) (hl : W + (mc + 11) + rm.locals ≤ R.locals) (hc : k + rm.cells ≤ R.cells) (hs : n + rm.slots ≤ R.slots) (hLs : Ls.length = ml) (C : o_C l Z n0 yc bc mc rc rm [v0, v1, v2, v3] h Qc) (K : ∀ v h', Qc v h' → o_Go κ Q h' (k + rm.cells) (n + rm.slots) (pc + 3) Ls (v.toList ++ rest)) : o_Go κ Q h k n pc Ls (v3 :: v2 :: v1 :: v0 :: rest) := o_callS B W hd w1 w2 w3 w4 hy pd (as := [v0, v1, v2, v3]) hlen hW hf hl hc hs hLs C K
theorem o_callN4 (B : o_BE κ l Z n0 R y bytes ml ret Ef fin) {yc : MethodName} {bc : ByteArray} {mc : Nat} {rm : Room} {v0 v1 v2 v3 : Value} {rest : List Value} {a : Addr} {Qc : Option Value → Heap → Prop} {idx : Nat} (W : Nat) (hd : decode bytes pc = .ok (.invokespecial idx, 3)) (hin : yc.name = "<init>") (w1 : (Cond.methodLink y.cls idx yc).before a0 Z = true) (w2 : (Cond.instanceMethod yc).before a0 Z = true) (w3 : (Cond.initialized yc.cls).before a0 Z = true) (w4 : (Cond.code yc bc mc none).before a0 Z = true) (hy : yc.cls ≠ "java/lang/invoke/MethodHandle" ∧ yc.cls ≠ "java/lang/invoke/VarHandle") {ps : List FieldType} {r0 : Option FieldType} (pd : parseMethodDescriptor yc.desc = some ⟨ps, r0⟩) (hlen : 4 = ps.length) (hW : 2 * Ef.2 + (rest.map fun v => v.category).sum ≤ W) (hf : rm.frames + 1 ≤ R.frames) (hl : W + (mc + 11) + rm.locals ≤ R.locals) (hc : k + rm.cells ≤ R.cells) (hs : n + rm.slots ≤ R.slots) (hLs : Ls.length = ml) (C : o_C l Z n0 yc bc mc none rm (.ref a :: [v0, v1, v2, v3]) h Qc) (K : ∀ v h', Qc v h' → o_Go κ Q h' (k + rm.cells) (n + rm.slots) (pc + 3) Ls (v.toList ++ rest)) : o_Go κ Q h k n pc Ls (v3 :: v2 :: v1 :: v0 :: .ref a :: rest) := o_callN B W hd hin w1 w2 w3 w4 hy pd (as := [v0, v1, v2, v3]) hlen hW hf hl hc hs hLs C K
theorem o_callV4 (B : o_BE κ l Z n0 R y bytes ml ret Ef fin) {yc : MethodName} {Cn : String} {bc : ByteArray} {mc : Nat} {rc : Option FieldType} {rm : Room} {v0 v1 v2 v3 : Value} {rest : List Value} {a : Addr} {Qc : Option Value → Heap → Prop} {idx : Nat} (W : Nat) (hd : decode bytes pc = .ok (.invokevirtual idx, 3)) (w1 : (Cond.methodLink y.cls idx yc).before a0 Z = true) (w2 : (Cond.declares yc).before a0 Z = true) (w5 : (Cond.selects Cn yc yc).before a0 Z = true) (w6 : (Cond.instanceMethod yc).before a0 Z = true) (w3 : (Cond.initialized yc.cls).before a0 Z = true) (w4 : (Cond.code yc bc mc rc).before a0 Z = true) (hy : yc.cls ≠ "java/lang/invoke/MethodHandle" ∧ yc.cls ≠ "java/lang/invoke/VarHandle") {ps : List FieldType} {r0 : Option FieldType} (pd : parseMethodDescriptor yc.desc = some ⟨ps, r0⟩) (hlen : 4 = ps.length) (hW : 2 * Ef.2 + (rest.map fun v => v.category).sum ≤ W) (hf : rm.frames + 1 ≤ R.frames) (hl : W + (mc + 11) + rm.locals ≤ R.locals) (hc : k + rm.cells ≤ R.cells) (hs : n + rm.slots ≤ R.slots) (hLs : Ls.length = ml) (E : Exa Z h a Cn) (C : o_C l Z n0 yc bc mc rc rm (.ref a :: [v0, v1, v2, v3]) h Qc) (K : ∀ v h', Qc v h' → o_Go κ Q h' (k + rm.cells) (n + rm.slots) (pc + 3) Ls (v.toList ++ rest)) : o_Go κ Q h k n pc Ls (v3 :: v2 :: v1 :: v0 :: .ref a :: rest) := o_callV B W hd w1 w2 w5 w6 w3 w4 hy pd (as := [v0, v1, v2, v3]) hlen hW hf hl hc hs hLs E C K
theorem o_callS5 (B : o_BE κ l Z n0 R y bytes ml ret Ef fin) {yc : MethodName} {bc : ByteArray} {mc : Nat} {rc : Option FieldType} {rm : Room} {v0 v1 v2 v3 v4 : Value} {rest : List Value} {Qc : Option Value → Heap → Prop} {idx : Nat} (W : Nat) (hd : decode bytes pc = .ok (.invokestatic idx, 3)) (w1 : (Cond.methodLink y.cls idx yc).before a0 Z = true) (w2 : (Cond.static yc).before a0 Z = true) (w3 : (Cond.initialized yc.cls).before a0 Z = true) (w4 : (Cond.code yc bc mc rc).before a0 Z = true) (hy : yc.cls ≠ "java/lang/invoke/MethodHandle" ∧ yc.cls ≠ "java/lang/invoke/VarHandle") {ps : List FieldType} {r0 : Option FieldType} (pd : parseMethodDescriptor yc.desc = some ⟨ps, r0⟩) (hlen : 5 = ps.length) (hW : 2 * Ef.2 + (rest.map fun v => v.category).sum ≤ W) (hf : rm.frames + 1 ≤ R.frames) (hl : W + (mc + 11) + rm.locals ≤ R.locals) (hc : k + rm.cells ≤ R.cells) (hs : n + rm.slots ≤ R.slots) (hLs : Ls.length = ml) (C : o_C l Z n0 yc bc mc rc rm [v0, v1, v2, v3, v4] h Qc) (K : ∀ v h', Qc v h' → o_Go κ Q h' (k + rm.cells) (n + rm.slots) (pc + 3) Ls (v.toList ++ rest)) : o_Go κ Q h k n pc Ls (v4 :: v3 :: v2 :: v1 :: v0 :: rest) := o_callS B W hd w1 w2 w3 w4 hy pd (as := [v0, v1, v2, v3, v4]) hlen hW hf hl hc hs hLs C K
theorem o_callN5 (B : o_BE κ l Z n0 R y bytes ml ret Ef fin) {yc : MethodName} {bc : ByteArray} {mc : Nat} {rm : Room} {v0 v1 v2 v3 v4 : Value} {rest : List Value} {a : Addr} {Qc : Option Value → Heap → Prop} {idx : Nat} (W : Nat) (hd : decode bytes pc = .ok (.invokespecial idx, 3)) (hin : yc.name = "<init>") (w1 : (Cond.methodLink y.cls idx yc).before a0 Z = true) (w2 : (Cond.instanceMethod yc).before a0 Z = true) (w3 : (Cond.initialized yc.cls).before a0 Z = true) (w4 : (Cond.code yc bc mc none).before a0 Z = true) (hy : yc.cls ≠ "java/lang/invoke/MethodHandle" ∧ yc.cls ≠ "java/lang/invoke/VarHandle") {ps : List FieldType} {r0 : Option FieldType} (pd : parseMethodDescriptor yc.desc = some ⟨ps, r0⟩) (hlen : 5 = ps.length) (hW : 2 * Ef.2 + (rest.map fun v => v.category).sum ≤ W) (hf : rm.frames + 1 ≤ R.frames) (hl : W + (mc + 11) + rm.locals ≤ R.locals) (hc : k + rm.cells ≤ R.cells) (hs : n + rm.slots ≤ R.slots) (hLs : Ls.length = ml) (C : o_C l Z n0 yc bc mc none rm (.ref a :: [v0, v1, v2, v3, v4]) h Qc) (K : ∀ v h', Qc v h' → o_Go κ Q h' (k + rm.cells) (n + rm.slots) (pc + 3) Ls (v.toList ++ rest)) : o_Go κ Q h k n pc Ls (v4 :: v3 :: v2 :: v1 :: v0 :: .ref a :: rest) := o_callN B W hd hin w1 w2 w3 w4 hy pd (as := [v0, v1, v2, v3, v4]) hlen hW hf hl hc hs hLs C K
theorem o_callV5 (B : o_BE κ l Z n0 R y bytes ml ret Ef fin) {yc : MethodName} {Cn : String} {bc : ByteArray} {mc : Nat} {rc : Option FieldType} {rm : Room} {v0 v1 v2 v3 v4 : Value} {rest : List Value} {a : Addr} {Qc : Option Value → Heap → Prop} {idx : Nat} (W : Nat) (hd : decode bytes pc = .ok (.invokevirtual idx, 3)) (w1 : (Cond.methodLink y.cls idx yc).before a0 Z = true) (w2 : (Cond.declares yc).before a0 Z = true) (w5 : (Cond.selects Cn yc yc).before a0 Z = true) (w6 : (Cond.instanceMethod yc).before a0 Z = true) (w3 : (Cond.initialized yc.cls).before a0 Z = true) (w4 : (Cond.code yc bc mc rc).before a0 Z = true) (hy : yc.cls ≠ "java/lang/invoke/MethodHandle" ∧ yc.cls ≠ "java/lang/invoke/VarHandle") {ps : List FieldType} {r0 : Option FieldType} (pd : parseMethodDescriptor yc.desc = some ⟨ps, r0⟩) (hlen : 5 = ps.length) (hW : 2 * Ef.2 + (rest.map fun v => v.category).sum ≤ W) (hf : rm.frames + 1 ≤ R.frames) (hl : W + (mc + 11) + rm.locals ≤ R.locals) (hc : k + rm.cells ≤ R.cells) (hs : n + rm.slots ≤ R.slots) (hLs : Ls.length = ml) (E : Exa Z h a Cn) (C : o_C l Z n0 yc bc mc rc rm (.ref a :: [v0, v1, v2, v3, v4]) h Qc) (K : ∀ v h', Qc v h' → o_Go κ Q h' (k + rm.cells) (n + rm.slots) (pc + 3) Ls (v.toList ++ rest)) : o_Go κ Q h k n pc Ls (v4 :: v3 :: v2 :: v1 :: v0 :: .ref a :: rest) := o_callV B W hd w1 w2 w5 w6 w3 w4 hy pd (as := [v0, v1, v2, v3, v4]) hlen hW hf hl hc hs hLs E C K
theorem o_callS6 (B : o_BE κ l Z n0 R y bytes ml ret Ef fin) {yc : MethodName} {bc : ByteArray} {mc : Nat} {rc : Option FieldType} {rm : Room} {v0 v1 v2 v3 v4 v5 : Value} {rest : List Value} {Qc : Option Value → Heap → Prop} {idx : Nat} (W : Nat) (hd : decode bytes pc = .ok (.invokestatic idx, 3)) (w1 : (Cond.methodLink y.cls idx yc).before a0 Z = true) (w2 : (Cond.static yc).before a0 Z = true) (w3 : (Cond.initialized yc.cls).before a0 Z = true) (w4 : (Cond.code yc bc mc rc).before a0 Z = true) (hy : yc.cls ≠ "java/lang/invoke/MethodHandle" ∧ yc.cls ≠ "java/lang/invoke/VarHandle") {ps : List FieldType} {r0 : Option FieldType} (pd : parseMethodDescriptor yc.desc = some ⟨ps, r0⟩) (hlen : 6 = ps.length) (hW : 2 * Ef.2 + (rest.map fun v => v.category).sum ≤ W) (hf : rm.frames + 1 ≤ R.frames) (hl : W + (mc + 11) + rm.locals ≤ R.locals) (hc : k + rm.cells ≤ R.cells) (hs : n + rm.slots ≤ R.slots) (hLs : Ls.length = ml) (C : o_C l Z n0 yc bc mc rc rm [v0, v1, v2, v3, v4, v5] h Qc) (K : ∀ v h', Qc v h' → o_Go κ Q h' (k + rm.cells) (n + rm.slots) (pc + 3) Ls (v.toList ++ rest)) : o_Go κ Q h k n pc Ls (v5 :: v4 :: v3 :: v2 :: v1 :: v0 :: rest) := o_callS B W hd w1 w2 w3 w4 hy pd (as := [v0, v1, v2, v3, v4, v5]) hlen hW hf hl hc hs hLs C K
theorem o_callN6 (B : o_BE κ l Z n0 R y bytes ml ret Ef fin) {yc : MethodName} {bc : ByteArray} {mc : Nat} {rm : Room} {v0 v1 v2 v3 v4 v5 : Value} {rest : List Value} {a : Addr} {Qc : Option Value → Heap → Prop} {idx : Nat} (W : Nat) (hd : decode bytes pc = .ok (.invokespecial idx, 3)) (hin : yc.name = "<init>") (w1 : (Cond.methodLink y.cls idx yc).before a0 Z = true) (w2 : (Cond.instanceMethod yc).before a0 Z = true) (w3 : (Cond.initialized yc.cls).before a0 Z = true) (w4 : (Cond.code yc bc mc none).before a0 Z = true) (hy : yc.cls ≠ "java/lang/invoke/MethodHandle" ∧ yc.cls ≠ "java/lang/invoke/VarHandle") {ps : List FieldType} {r0 : Option FieldType} (pd : parseMethodDescriptor yc.desc = some ⟨ps, r0⟩) (hlen : 6 = ps.length) (hW : 2 * Ef.2 + (rest.map fun v => v.category).sum ≤ W) (hf : rm.frames + 1 ≤ R.frames) (hl : W + (mc + 11) + rm.locals ≤ R.locals) (hc : k + rm.cells ≤ R.cells) (hs : n + rm.slots ≤ R.slots) (hLs : Ls.length = ml) (C : o_C l Z n0 yc bc mc none rm (.ref a :: [v0, v1, v2, v3, v4, v5]) h Qc) (K : ∀ v h', Qc v h' → o_Go κ Q h' (k + rm.cells) (n + rm.slots) (pc + 3) Ls (v.toList ++ rest)) : o_Go κ Q h k n pc Ls (v5 :: v4 :: v3 :: v2 :: v1 :: v0 :: .ref a :: rest) := o_callN B W hd hin w1 w2 w3 w4 hy pd (as := [v0, v1, v2, v3, v4, v5]) hlen hW hf hl hc hs hLs C K
theorem o_callV6 (B : o_BE κ l Z n0 R y bytes ml ret Ef fin) {yc : MethodName} {Cn : String} {bc : ByteArray} {mc : Nat} {rc : Option FieldType} {rm : Room} {v0 v1 v2 v3 v4 v5 : Value} {rest : List Value} {a : Addr} {Qc : Option Value → Heap → Prop} {idx : Nat} (W : Nat) (hd : decode bytes pc = .ok (.invokevirtual idx, 3)) (w1 : (Cond.methodLink y.cls idx yc).before a0 Z = true) (w2 : (Cond.declares yc).before a0 Z = true) (w5 : (Cond.selects Cn yc yc).before a0 Z = true) (w6 : (Cond.instanceMethod yc).before a0 Z = true) (w3 : (Cond.initialized yc.cls).before a0 Z = true) (w4 : (Cond.code yc bc mc rc).before a0 Z = true) (hy : yc.cls ≠ "java/lang/invoke/MethodHandle" ∧ yc.cls ≠ "java/lang/invoke/VarHandle") {ps : List FieldType} {r0 : Option FieldType} (pd : parseMethodDescriptor yc.desc = some ⟨ps, r0⟩) (hlen : 6 = ps.length) (hW : 2 * Ef.2 + (rest.map fun v => v.category).sum ≤ W) (hf : rm.frames + 1 ≤ R.frames) (hl : W + (mc + 11) + rm.locals ≤ R.locals) (hc : k + rm.cells ≤ R.cells) (hs : n + rm.slots ≤ R.slots) (hLs : Ls.length = ml) (E : Exa Z h a Cn) (C : o_C l Z n0 yc bc mc rc rm (.ref a :: [v0, v1, v2, v3, v4, v5]) h Qc) (K : ∀ v h', Qc v h' → o_Go κ Q h' (k + rm.cells) (n + rm.slots) (pc + 3) Ls (v.toList ++ rest)) : o_Go κ Q h k n pc Ls (v5 :: v4 :: v3 :: v2 :: v1 :: v0 :: .ref a :: rest) := o_callV B W hd w1 w2 w5 w6 w3 w4 hy pd (as := [v0, v1, v2, v3, v4, v5]) hlen hW hf hl hc hs hLs E C K
theorem o_callS7 (B : o_BE κ l Z n0 R y bytes ml ret Ef fin) {yc : MethodName} {bc : ByteArray} {mc : Nat} {rc : Option FieldType} {rm : Room} {v0 v1 v2 v3 v4 v5 v6 : Value} {rest : List Value} {Qc : Option Value → Heap → Prop} {idx : Nat} (W : Nat) (hd : decode bytes pc = .ok (.invokestatic idx, 3)) (w1 : (Cond.methodLink y.cls idx yc).before a0 Z = true) (w2 : (Cond.static yc).before a0 Z = true) (w3 : (Cond.initialized yc.cls).before a0 Z = true) (w4 : (Cond.code yc bc mc rc).before a0 Z = true) (hy : yc.cls ≠ "java/lang/invoke/MethodHandle" ∧ yc.cls ≠ "java/lang/invoke/VarHandle") {ps : List FieldType} {r0 : Option FieldType} (pd : parseMethodDescriptor yc.desc = some ⟨ps, r0⟩) (hlen : 7 = ps.length) (hW : 2 * Ef.2 + (rest.map fun v => v.category).sum ≤ W) (hf : rm.frames + 1 ≤ R.frames) (hl : W + (mc + 11) + rm.locals ≤ R.locals) (hc : k + rm.cells ≤ R.cells) (hs : n + rm.slots ≤ R.slots) (hLs : Ls.length = ml) (C : o_C l Z n0 yc bc mc rc rm [v0, v1, v2, v3, v4, v5, v6] h Qc) (K : ∀ v h', Qc v h' → o_Go κ Q h' (k + rm.cells) (n + rm.slots) (pc + 3) Ls (v.toList ++ rest)) : o_Go κ Q h k n pc Ls (v6 :: v5 :: v4 :: v3 :: v2 :: v1 :: v0 :: rest) := o_callS B W hd w1 w2 w3 w4 hy pd (as := [v0, v1, v2, v3, v4, v5, v6]) hlen hW hf hl hc hs hLs C K
theorem o_callN7 (B : o_BE κ l Z n0 R y bytes ml ret Ef fin) {yc : MethodName} {bc : ByteArray} {mc : Nat} {rm : Room} {v0 v1 v2 v3 v4 v5 v6 : Value} {rest : List Value} {a : Addr} {Qc : Option Value → Heap → Prop} {idx : Nat} (W : Nat) (hd : decode bytes pc = .ok (.invokespecial idx, 3)) (hin : yc.name = "<init>") (w1 : (Cond.methodLink y.cls idx yc).before a0 Z = true) (w2 : (Cond.instanceMethod yc).before a0 Z = true) (w3 : (Cond.initialized yc.cls).before a0 Z = true) (w4 : (Cond.code yc bc mc none).before a0 Z = true) (hy : yc.cls ≠ "java/lang/invoke/MethodHandle" ∧ yc.cls ≠ "java/lang/invoke/VarHandle") {ps : List FieldType} {r0 : Option FieldType} (pd : parseMethodDescriptor yc.desc = some ⟨ps, r0⟩) (hlen : 7 = ps.length) (hW : 2 * Ef.2 + (rest.map fun v => v.category).sum ≤ W) (hf : rm.frames + 1 ≤ R.frames) (hl : W + (mc + 11) + rm.locals ≤ R.locals) (hc : k + rm.cells ≤ R.cells) (hs : n + rm.slots ≤ R.slots) (hLs : Ls.length = ml) (C : o_C l Z n0 yc bc mc none rm (.ref a :: [v0, v1, v2, v3, v4, v5, v6]) h Qc) (K : ∀ v h', Qc v h' → o_Go κ Q h' (k + rm.cells) (n + rm.slots) (pc + 3) Ls (v.toList ++ rest)) : o_Go κ Q h k n pc Ls (v6 :: v5 :: v4 :: v3 :: v2 :: v1 :: v0 :: .ref a :: rest) := o_callN B W hd hin w1 w2 w3 w4 hy pd (as := [v0, v1, v2, v3, v4, v5, v6]) hlen hW hf hl hc hs hLs C K
theorem o_callV7 (B : o_BE κ l Z n0 R y bytes ml ret Ef fin) {yc : MethodName} {Cn : String} {bc : ByteArray} {mc : Nat} {rc : Option FieldType} {rm : Room} {v0 v1 v2 v3 v4 v5 v6 : Value} {rest : List Value} {a : Addr} {Qc : Option Value → Heap → Prop} {idx : Nat} (W : Nat) (hd : decode bytes pc = .ok (.invokevirtual idx, 3)) (w1 : (Cond.methodLink y.cls idx yc).before a0 Z = true) (w2 : (Cond.declares yc).before a0 Z = true) (w5 : (Cond.selects Cn yc yc).before a0 Z = true) (w6 : (Cond.instanceMethod yc).before a0 Z = true) (w3 : (Cond.initialized yc.cls).before a0 Z = true) (w4 : (Cond.code yc bc mc rc).before a0 Z = true) (hy : yc.cls ≠ "java/lang/invoke/MethodHandle" ∧ yc.cls ≠ "java/lang/invoke/VarHandle") {ps : List FieldType} {r0 : Option FieldType} (pd : parseMethodDescriptor yc.desc = some ⟨ps, r0⟩) (hlen : 7 = ps.length) (hW : 2 * Ef.2 + (rest.map fun v => v.category).sum ≤ W) (hf : rm.frames + 1 ≤ R.frames) (hl : W + (mc + 11) + rm.locals ≤ R.locals) (hc : k + rm.cells ≤ R.cells) (hs : n + rm.slots ≤ R.slots) (hLs : Ls.length = ml) (E : Exa Z h a Cn) (C : o_C l Z n0 yc bc mc rc rm (.ref a :: [v0, v1, v2, v3, v4, v5, v6]) h Qc) (K : ∀ v h', Qc v h' → o_Go κ Q h' (k + rm.cells) (n + rm.slots) (pc + 3) Ls (v.toList ++ rest)) : o_Go κ Q h k n pc Ls (v6 :: v5 :: v4 :: v3 :: v2 :: v1 :: v0 :: .ref a :: rest) := o_callV B W hd w1 w2 w5 w6 w3 w4 hy pd (as := [v0, v1, v2, v3, v4, v5, v6]) hlen hW hf hl hc hs hLs E C K
theorem o_cast (B : o_BE κ l Z n0 R y bytes ml ret Ef fin) {Kc : String} {idx : Nat} {a : Addr} (hd : decode bytes pc = .ok (.checkcast idx, 3)) (w : (Cond.classLink y.cls idx Kc).before a0 Z = true) (F : Ins Z h a Kc true) (K : o_Go κ Q h k n (pc + 3) Ls (.ref a :: St)) : o_Go κ Q h k n pc Ls (.ref a :: St) := by
  obtain ⟨p, e, s, m, args, below, meth, c, s0, rfl, hs0, hx, hZ, hby, hml, hown, hret, hlk, hnm⟩ := B
  intro T locs X N eT
  obtain ⟨T', X', e', st'⟩ := castY X hx hZ hown w eT F (g := o_F Ef m pc Ls.toArray (.ref a :: St)) rfl rfl (hb hby hd)
  obtain ⟨s₂, o, st, r⟩ := K T' locs X' N e'
  exact ⟨s₂, o, st' _ st, r⟩
/-- the heap's size at the invocation -/
def o_sz (κ : o_K) : Nat := match κ with
  | (p, l, e, R, s, m, args, below, meth, c, Z, n0, s0, Ef) => s.heap.size
theorem o_bound (B : o_BE κ l Z n0 R y bytes ml ret Ef fin) (H : h.size ≤ o_sz κ + k → o_Go κ Q h k n pc Ls St) : o_Go κ Q h k n pc Ls St := by
  obtain ⟨p, e, s, m, args, below, meth, c, s0, rfl, hs0, hx, hZ, hby, hml, hown, hret, hlk, hnm⟩ := B
  intro T locs X N eT
  exact H (by rw [← eT]; exact X.same.2.2.1) T locs X N eT
theorem o_bodyZ {rm : Room} {as : List Value} (hpn : plainFor y = true) (hef : argsToLocals as.toArray ml = Ls.toArray) (H : ∀ κ, o_Bo κ l Z n0 rm y bytes ml ret → o_sz κ = h.size → o_Go κ Q h 0 0 0 Ls []) : o_C l Z n0 y bytes ml ret rm as h Q := by
  intro ws
  refine MetFree.of_bodySF hpn hisR ?_
  intro p e s m args below meth c s₁ Bd hml0 hP hK
  obtain ⟨rfl, hZ, hh⟩ := hP
  have X0 : Stand p l e rm s m as.toArray below meth c s₁ [] 0 0 := Stand.of_body Bd
  have e0 : s₁.heap = h := by rw [← hh, Bd.state]; rfl
  have hown := findClass_of_methodNamed Bd.named
  have hnm := (name_of_methodNamed Bd.named Bd.method).1
  obtain ⟨s₂, o, st, r1, r2, v, L, rfl, ⟨q, N⟩, fe⟩ := H (p, l, e, rm, s, m, as.toArray, below, meth, c, Z, n0, s, ([], 0)) ⟨p, e, s, m, _, below, meth, c, s, rfl, fun _ => rfl, Bd.exec, hZ, Bd.bytes, hml0, hown, Bd.returns, Bd.notSynchronized, hnm⟩ (show s.heap.size = h.size by rw [hh]) s₁ [] X0 (Fr.nil _) e0
  refine ⟨s₂, _, ?_, r1, r2, v, L, rfl, ⟨q, N⟩, fe⟩
  exact castTop (g' := mkF m 0 Ls.toArray []) (by unfold entryFrame; rw [hef]) st
/-- a field by an entry that stands resolved -/
theorem o_getR (B : o_BE κ l Z n0 R y bytes ml ret Ef fin) {O nm d : String} {idx : Nat} {a : Addr} {v : Value} (hd : decode bytes pc = .ok (.getfield idx, 3)) (w : (Cond.fieldRef y.cls idx O nm d).before a0 Z = true) (F : Fld Z h a O nm d v) (K : o_Go κ Q h k n (pc + 3) Ls (v :: St)) : o_Go κ Q h k n pc Ls (.ref a :: St) := by
  obtain ⟨p, e, s, m, args, below, meth, c, s0, rfl, hs0, hx, hZ, hby, hml, hown, hret, hlk, hnm⟩ := B
  intro T locs X N eT
  have hT : Z.Warmed39 T.vm := wtrans hZ X.warmed
  have w' := Cond.fieldRef_warmed39 hT w
  have hcur : (Z.setVm T.vm).vm.findClass y.cls = some m.cls := by
    rw [show (Z.setVm T.vm).vm = T.vm from rfl, X.warmed.alike.findClass]; exact hown
  obtain ⟨cf', k', i', f', hi', hready⟩ := Cond.fieldRef_spec hcur w'
  obtain ⟨cell, cf, k0, i0, f, h1, h2, h3, h4, -, -, h7⟩ := F
  obtain ⟨k2, hi, -⟩ := State.fieldFound?_setVm (s := Z) hT.alike h2
  cases hi.symm.trans hi'
  obtain ⟨s₂, o, st, r⟩ := K T locs X N eT
  refine ⟨s₂, o, ?_, r⟩
  have hdg : decode c.code (o_F Ef m pc Ls.toArray (.ref a :: St)).pc = .ok (.getfield idx, 3) := hb hby hd
  show Steps p.tables e below (T.setTop (o_F Ef m pc Ls.toArray (.ref a :: St))) s₂
  jvm_step X.here [hx, hdg, getfield.wp_ready (e := e) (s := T) (f := o_F Ef m pc Ls.toArray (.ref a :: St)) X.here.top hready h3 rfl (show T.heap[a]? = some cell by rw [eT]; exact h1) h4 h7]
  exact st
/-- a field of a nest mate -/
theorem o_getN (B : o_BE κ l Z n0 R y bytes ml ret Ef fin) {O nm d host : String} {idx : Nat} {a : Addr} {v : Value} (hd : decode bytes pc = .ok (.getfield idx, 3)) (w : (Cond.fieldLinkNest y.cls idx O nm d host).before a0 Z = true) (F : Fld Z h a O nm d v) (K : o_Go κ Q h k n (pc + 3) Ls (v :: St)) : o_Go κ Q h k n pc Ls (.ref a :: St) := by
  obtain ⟨p, e, s, m, args, below, meth, c, s0, rfl, hs0, hx, hZ, hby, hml, hown, hret, hlk, hnm⟩ := B
  intro T locs X N eT
  obtain ⟨T', X', e', st'⟩ := getF X hx hZ hown (host := host) (Or.inr w) Via.refl eT F (g := o_F Ef m pc Ls.toArray (.ref a :: St)) rfl rfl (hb hby hd)
  obtain ⟨s₂, o, st, r⟩ := K T' locs X' N e'
  exact ⟨s₂, o, st' _ st, r⟩
theorem o_pop2L (B : o_BE κ l Z n0 R y bytes ml ret Ef fin) {x : Int64} (hd : decode bytes pc = .ok (.pop2, 1)) (K : o_Go κ Q h k n (pc + 1) Ls St) : o_Go κ Q h k n pc Ls (.long x :: St) := o_sim B (fun p e m below c T target X hx hby st => by
  have hdg : decode c.code (o_F Ef m pc Ls.toArray (.long x :: St)).pc = .ok (.pop2, 1) := hb hby hd
  jvm_step X [X.top, hx, hdg, Value.category]
  exact st) K
/-- a constructor by an entry that stands resolved -/
theorem o_callR (B : o_BE κ l Z n0 R y bytes ml ret Ef fin) {yc : MethodName} {bc : ByteArray} {mc : Nat} {rm : Room} {as rest : List Value} {a : Addr} {Qc : Option Value → Heap → Prop} {idx : Nat} (W : Nat) (hd : decode bytes pc = .ok (.invokespecial idx, 3)) (hin : yc.name = "<init>")
    (w1 : (Cond.methodRef y.cls idx yc).before a0 Z = true) (w2 : (Cond.instanceMethod yc).before a0 Z = true) (w3 : (Cond.initialized yc.cls).before a0 Z = true) (w4 : (Cond.code yc bc mc none).before a0 Z = true) (hy : yc.cls ≠ "java/lang/invoke/MethodHandle" ∧ yc.cls ≠ "java/lang/invoke/VarHandle") {ps : List FieldType} {r0 : Option FieldType} (pd : parseMethodDescriptor yc.desc = some ⟨ps, r0⟩) (hlen : as.length = ps.length)
    (hW : 2 * Ef.2 + (rest.map fun v => v.category).sum ≤ W) (hf : rm.frames + 1 ≤ R.frames) (hl : W + (mc + 11) + rm.locals ≤ R.locals) (hc : k + rm.cells ≤ R.cells) (hs : n + rm.slots ≤ R.slots) (hLs : Ls.length = ml)
    (C : o_C l Z n0 yc bc mc none rm (.ref a :: as) h Qc) (K : ∀ v h', Qc v h' → o_Go κ Q h' (k + rm.cells) (n + rm.slots) (pc + 3) Ls (v.toList ++ rest)) : o_Go κ Q h k n pc Ls (as.reverse ++ .ref a :: rest) := by
  obtain ⟨p, e, s, m, args, below, meth, c, s0, rfl, hs0, hx, hZ, hby, hml, hown, hret, hlk, hnm⟩ := B
  intro T locs X N eT
  have hT : Z.Warmed39 T.vm := wtrans hZ X.warmed
  obtain ⟨mk, methM, hnamed, hmethM, hstM, habM⟩ := Cond.instanceMethod_spec w2
  have w1' := Cond.methodRef_warmed39 hT hnamed hy w1
  have hcur : (Z.setVm T.vm).vm.findClass y.cls = some m.cls := by
    rw [show (Z.setVm T.vm).vm = T.vm from rfl, X.warmed.alike.findClass]; exact hown
  have hnamedT : (Z.setVm T.vm).methodNamed? yc = some mk := by rw [State.methodNamed?_setVm hT.alike]; exact hnamed
  have hmethT : (Z.setVm T.vm).vm.method? mk = some methM := by rw [show (Z.setVm T.vm).vm = T.vm from rfl, hT.alike.method?]; exact hmethM
  obtain ⟨m', c', hfm, hready, hfc, hnr⟩ := Cond.methodRef_named e hcur w1'
  cases hfm.symm.trans (State.methodFound?_of_named hnamedT hy)
  cases hfc.symm.trans (findClass_of_methodNamed hnamedT)
  obtain ⟨kO, hkO, hnO⟩ := className_of_methodNamed hnamedT
  obtain ⟨hnm1, hds1⟩ := name_of_methodNamed hnamedT hmethT
  have hfound : lookupSpecial T.vm mk.cls "<init>" methM.desc = .method mk := by
    rw [hds1, ← hin]; exact lookupSpecial_of_named (s := Z.setVm T.vm) hnamedT hmethT hstM
  obtain ⟨methC, cC, hmC, -, -, -, -, -, -, hsigC⟩ := Cond.code_spec hnamed w4
  cases hmethM.symm.trans hmC
  have hln : as.length = methM.sig.parameters.length := by
    have q := Option.some.inj (pd.symm.trans hsigC); rw [← q]; exact hlen
  have hTn : T.methodNamed? yc = some mk := hnamedT
  obtain ⟨v, ⟨T', L', k', n'⟩, X', ⟨Lc, hQ, l', y', z'⟩, hsteps⟩ := (backOf (args := args) (W := W) (Q := fun v h L => Qc v h ∧ Fr n0 L) (C []) hZ w4 w3 hf hl) m meth c ⟨T, locs, k, n⟩ (o_F Ef m pc Ls.toArray rest) (.invokespecial idx) mk (.ref a :: as).toArray X rfl (by rw [hml, ← hLs]; simp) (hb hby hd) (by simpa using hW) hTn ⟨rfl, eT, hc, hs⟩
  dsimp only [Pt.U, Pt.locs, Pt.cells, Pt.slots] at X' l' y' z' hsteps hQ
  subst l' y' z'
  obtain ⟨hq, Nc⟩ := hQ
  obtain ⟨s₂, o, st, r⟩ := K v T'.heap hq T' _ X' (Fr.app N Nc) rfl
  refine ⟨s₂, o, ?_, r⟩
  have hdg : decode c.code (o_F Ef m pc Ls.toArray (as.reverse ++ .ref a :: rest)).pc = .ok (.invokespecial idx, 3) := hb hby hd
  show Steps p.tables e below (T.setTop (o_F Ef m pc Ls.toArray (as.reverse ++ .ref a :: rest))) s₂
  jvm_step X.here [hx, hdg, invokespecial.wp_init (e := e) (s := T) (k := kO) (meth := methM) (m := mk) (a := a) (args := as) (rest := rest) (f := o_F Ef m pc Ls.toArray (as.reverse ++ .ref a :: rest)) X.here.top hnr hready hkO hmethT (by rw [hnm1]; exact hin) hstM habM hfound hln rfl]
  intro acts
  rw [doInvoke_state]
  exact hsteps.trans st
/-- a private method by invokevirtual -/
theorem o_callP (B : o_BE κ l Z n0 R y bytes ml ret Ef fin) {yc : MethodName} {kk : Nat} {bc : ByteArray} {mc : Nat} {rc : Option FieldType} {rm : Room} {as rest : List Value} {a : Addr} {Qc : Option Value → Heap → Prop} {idx : Nat} (W : Nat) (hd : decode bytes pc = .ok (.invokevirtual idx, 3))
    (w1 : (Cond.methodLink y.cls idx yc).before a0 Z = true) (w2 : (Cond.instanceMethod yc).before a0 Z = true) (wp : (Cond.privateMethod yc).before a0 Z = true) (wi : (Cond.instantiable yc.cls kk).before a0 Z = true) (w3 : (Cond.initialized yc.cls).before a0 Z = true) (w4 : (Cond.code yc bc mc rc).before a0 Z = true) (hy : yc.cls ≠ "java/lang/invoke/MethodHandle" ∧ yc.cls ≠ "java/lang/invoke/VarHandle") {ps : List FieldType} {r0 : Option FieldType} (pd : parseMethodDescriptor yc.desc = some ⟨ps, r0⟩) (hlen : as.length = ps.length)
    (hW : 2 * Ef.2 + (rest.map fun v => v.category).sum ≤ W) (hf : rm.frames + 1 ≤ R.frames) (hl : W + (mc + 11) + rm.locals ≤ R.locals) (hc : k + rm.cells ≤ R.cells) (hs : n + rm.slots ≤ R.slots) (hLs : Ls.length = ml) {Cn : String} (E : Exa Z h a Cn)
    (C : o_C l Z n0 yc bc mc rc rm (.ref a :: as) h Qc) (K : ∀ v h', Qc v h' → o_Go κ Q h' (k + rm.cells) (n + rm.slots) (pc + 3) Ls (v.toList ++ rest)) : o_Go κ Q h k n pc Ls (as.reverse ++ .ref a :: rest) := by
  obtain ⟨p, e, s, m, args, below, meth, c, s0, rfl, hs0, hx, hZ, hby, hml, hown, hret, hlk, hnm⟩ := B
  intro T locs X N eT
  obtain ⟨cl, hcl, hst⟩ := E.cell
  obtain ⟨ci, ki, q1, q2, q3, q4, -⟩ := Cond.instantiable_spec (mv (args := args) hZ wi)
  have hni : ki.isInterface = false := (Bool.or_eq_false_iff.mp q4).1
  have hpriv := Cond.privateMethod_at (mvP (args := args) hZ wp)
  have hinst : (Cond.instanceMethod yc).before args s = true := mvT hZ w2
  have hsel := selects_self_of_private q1 q2 hni hpriv hinst hy
  obtain ⟨v, vm1, ⟨T', L', k', n'⟩, -, X', ⟨Lc, hQ, l', y', z'⟩, st'⟩ := X.privateBack hx (y := yc) hown (mvT hZ w1) hinst hsel hpriv (mvT hZ w4) hy (backOf (W := W) (Q := fun v h L => Qc v h ∧ Fr n0 L) (C []) hZ w4 w3 hf hl) (g := o_F Ef m pc Ls.toArray (as.reverse ++ .ref a :: rest)) rfl (by rw [hml, ← hLs]; simp) (Steps.refl _) (show T.heap[a]? = some cl by rw [eT]; exact hcl) hst (argsL := as) (rest := rest) (lenOf pd hlen) rfl (by simpa using hW) (hb hby hd) (fun _ _ => ⟨rfl, eT, hc, hs⟩)
  dsimp only [Pt.U, Pt.locs, Pt.cells, Pt.slots] at X' l' y' z' st' hQ
  subst l' y' z'
  obtain ⟨hq, Nc⟩ := hQ
  obtain ⟨s₂, o, st, r⟩ := K v T'.heap hq T' _ X' (Fr.app N Nc) rfl
  exact ⟨s₂, o, st'.trans st, r⟩
/-- one cell's monitor is changed -/
def o_Mo (h h' : Heap) (a : Addr) : Prop := Mon h h' ∧ ∀ b, b ≠ a → h'[b]? = h[b]?
theorem o_Mo.keep {h' : Heap} {a : Addr} (M : o_Mo h h' a) : Keep h h' [a] := ⟨Nat.le_of_eq M.1.1.symm, fun x c q r => by rw [M.2 x (fun z => r (by simp [z]))]; exact q, fun x c q => by obtain ⟨mo, q'⟩ := M.1.2 x c q; exact ⟨_, q', rfl, rfl, rfl⟩⟩
/-- κ' : κ within the monitor of a -/
def o_Sub (κ κ' : o_K) (a : Addr) : Prop := ∃ (p : Program) (l : Launch) (e : Env) (R : Room) (s : State) (m : MethodId) (args : Array Value) (below : List Frame) (meth : Method) (c : Code) (Z : State) (n0 : Nat) (s0 : State) (Ef : List Addr × Nat) (cell : Cell),
  κ = (p, l, e, R, s, m, args, below, meth, c, Z, n0, s0, Ef) ∧ κ' = (p, l, e, R, s.setCell a (cell.withEntry s.cur), m, args, below, meth, c, Z, n0, s0, ([a], 1)) ∧ s.heap[a]? = some cell ∧ cell.monitor = {} ∧ cell.vm = .none
theorem o_enter (B : o_BE κ l Z n0 R y bytes ml ret ([], 0) fin) {a : Addr} (O : o_old κ a) (U : Unt h a) (hd : decode bytes pc = .ok (.monitorenter, 1)) (hcl : y.name ≠ "<clinit>") (hroom : 2 + (St.map fun v => v.category).sum ≤ R.locals) (hLs : Ls.length = ml)
    (K : ∀ κ' h', o_BE κ' l Z n0 R y bytes ml ret ([a], 1) false → o_Sub κ κ' a → o_Mo h h' a → o_Go κ' Q h' k n (pc + 1) Ls St) : o_Go κ Q h k n pc Ls (.ref a :: St) := by
  obtain ⟨p, e, s, m, args, below, meth, c, s0, rfl, hs0, hx, hZ, hby, hml, hown, hret, hlk, hnm⟩ := B
  intro T locs X N eT
  have O' : a < s.heap.size := O
  have hs : s.heap[a]? = some s.heap[a] := by simp [O']
  obtain ⟨cT, hT, e2, -⟩ := X.cellAt hs
  obtain ⟨cu, u1, u2, u3⟩ := U
  rw [← eT, hT] at u1
  cases u1
  have hmo : (s.heap[a]).monitor = {} := by rw [e2] at u3; exact u3
  have hvm : (s.heap[a]).vm = .none := by rw [e2] at u2; exact u2
  have hcur : T.cur = s.cur := X.cur_eq
  have hsy : meth.isSynchronized = false := by
    have q := hlk
    unfold Method.locks at q
    rw [hnm] at q
    simpa [hcl] using q
  obtain ⟨X', st'⟩ := X.monitorenterAt hx (g := o_F ([], 0) m pc Ls.toArray (.ref a :: St)) rfl (by rw [hml, ← hLs]; simp) rfl (hb hby hd) hs hT (Or.inl (by rw [u3])) hsy (by simpa using hroom)
  rw [hcur] at X' st'
  have hlt : a < T.heap.size := (Array.getElem?_eq_some_iff.mp hT).1
  obtain ⟨s₂, o, st, r⟩ := K (p, l, e, R, s.setCell a ((s.heap[a]).withEntry s.cur), m, args, below, meth, c, Z, n0, s0, ([a], 1)) (T.setCell a (cT.withEntry s.cur)).heap ⟨p, e, _, m, args, below, meth, c, s0, rfl, (fun q => by cases q), hx, hZ, hby, hml, hown, hret, hlk, hnm⟩ ⟨p, l, e, R, s, m, args, below, meth, c, Z, n0, s0, _, _, rfl, rfl, hs, hmo, hvm⟩
    ⟨by rw [← eT]; exact mon_set hT _, fun b hb => by rw [← eT]; exact State.heap_setCell_other (fun z => hb z.symm)⟩ (T.setCell a (cT.withEntry s.cur)) locs X' N rfl
  exact ⟨s₂, o, st' _ st, r⟩
theorem o_exit {κ' : o_K} {a : Addr} (S : o_Sub κ κ' a) (B : o_BE κ l Z n0 R y bytes ml ret ([], 0) fin) (hd : decode bytes pc = .ok (.monitorexit, 1))
    (K : ∀ κ'' h', o_BE κ'' l Z n0 R y bytes ml ret ([], 1) fin → o_Mo h h' a → Unt h' a → o_Go κ'' Q h' k n (pc + 1) Ls St) : o_Go κ' Q h k n pc Ls (.ref a :: St) := by
  obtain ⟨p, e, s, m, args, below, meth, c, s0, rfl, hs0, hx, hZ, hby, hml, hown, hret, hlk, hnm⟩ := B
  obtain ⟨p', l', e', R', s', m', args', below', meth', c', Z', n0', s0', Ef', cell, ek, rfl, hs, hmo, hvm⟩ := S
  cases ek
  intro T locs X N eT
  have hlt : a < s.heap.size := (Array.getElem?_eq_some_iff.mp hs).1
  have hs' : (s.setCell a (cell.withEntry s.cur)).heap[a]? = some (cell.withEntry s.cur) := by
    show (s.heap.setIfInBounds a (cell.withEntry s.cur))[a]? = _
    simp [hlt]
  obtain ⟨cT, hT, e2, -⟩ := X.cellAt hs'
  have hcur : T.cur = s.cur := X.cur_eq
  have hent : cell.enterable s.cur := Or.inl (by rw [hmo]; exact ⟨rfl, rfl⟩)
  have hmT : cT.monitor = (cell.withEntry s.cur).monitor := by rw [e2]
  have how : cT.monitor.owner = some T.cur := by rw [hmT, hcur]; rfl
  obtain ⟨X', st'⟩ := X.monitorexitAt hx (g := o_F ([a], 1) m pc Ls.toArray (.ref a :: St)) rfl (more := []) rfl (hb hby hd) hs hent hT how rfl
  have hltT : a < T.heap.size := (Array.getElem?_eq_some_iff.mp hT).1
  have hleft : cT.left = { cT with monitor := cell.monitor } := by
    have q := Cell.left_withSlots (cell.withEntry s.cur) cT.slots
    rw [← e2, Cell.left_withEntry' hent] at q
    rw [q, e2]; rfl
  obtain ⟨s₂, o, st, r⟩ := K (p, l, e, R, s, m, args, below, meth, c, Z, n0, s0, ([], 1)) (T.setCell a cT.left).heap ⟨p, e, s, m, args, below, meth, c, s0, rfl, hs0, hx, hZ, hby, hml, hown, hret, hlk, hnm⟩
    ⟨by rw [← eT, hleft]; exact mon_set hT _, fun b hb => by rw [← eT]; exact State.heap_setCell_other (fun z => hb z.symm)⟩ ⟨cT.left, by show (T.heap.setIfInBounds a _)[a]? = _; simp [hltT], by rw [hleft, e2]; exact hvm, by rw [hleft]; exact hmo⟩ (T.setCell a cT.left) locs X' N rfl
  exact ⟨s₂, o, st' _ st, r⟩
theorem o_lreturnE {mr : Nat} (B : o_BE κ l Z n0 R y bytes ml (some .long) ([], mr) true) {x : Int64} (hd : decode bytes pc = .ok (.lreturn, 1)) (hk : k ≤ R.cells) (hn : n ≤ R.slots) (q : Q (some (.long x)) h) : o_Go κ Q h k n pc Ls (.long x :: St) := by
  obtain ⟨p, e, s, m, args, below, meth, c, s0, rfl, hs0, hx, hZ, hby, hml, hown, hret, hlk, hnm⟩ := B
  cases hs0 rfl
  intro T locs X N eT
  obtain ⟨fs, hr, hrun, hended, hW, hsame⟩ := X.leave (v := some (.long x)) (fun hh => by rw [hret] at hh; cases hh) hlk
  refine ⟨T.setFrames fs, _, ?_, hrun, hended, _, _, rfl, ⟨?_, N⟩, ⟨_, rfl⟩, hW, hsame.mono hk hn⟩
  · have hdg : decode c.code pc = .ok (.lreturn, 1) := hb hby hd
    have hm' : T.vm.method? m = some meth := X.method'
    show Steps p.tables e below (T.setTop { method := m, pc := pc, locals := Ls.toArray, stack := .long x :: St, locked := none, entered := [], monitorRoom := mr }) _
    jvm_step X.here [X.here.top, hx, hdg, hm', hret, narrow]
    first | (intro acts; rw [hr _ acts rfl rfl rfl]) | rw [hr _ _ rfl rfl rfl]
    exact Steps.refl _
  · have e1 : (T.setFrames fs).heap = h := eT
    rw [e1]; exact q
/-- the contract of a method with an exception table -/
def o_CH (l : Launch) (Z : State) (n0 : Nat) (y : MethodName) (bytes : ByteArray) (ml : Nat) (ret : Option FieldType) (hs : List (Nat × Nat × Nat × Nat)) (rm : Room) (as : List Value) (h : Heap) (Q : Option Value → Heap → Prop) : Prop :=
  ∀ ws : List Jvm.Cond, MetFree l y (head1 (Jvm.Cond.codeWith y bytes ml ret hs :: ws) rm) (fun a U => a = as.toArray ∧ Z.Warmed39 U.vm ∧ U.heap = h) (fun _ _ _ _ _ => True) (fun _ U o U' => ∃ v L, o = .returned v ∧ (Q v U'.heap ∧ Fr n0 L) ∧ FrameEnd U o U' L rm.cells rm.slots)
theorem o_bodyH {hs : List (Nat × Nat × Nat × Nat)} {rm : Room} {as : List Value} (hpn : plainFor y = true) (hef : argsToLocals as.toArray ml = Ls.toArray) (H : ∀ κ, o_Bo κ l Z n0 rm y bytes ml ret → (∀ a, a < h.size → o_old κ a) → o_Go κ Q h 0 0 0 Ls []) : o_CH l Z n0 y bytes ml ret hs rm as h Q := by
  intro ws
  refine MetFree.of_bodySF hpn hisWith ?_
  intro p e s m args below meth c s₁ Bd hml0 hP hK
  obtain ⟨rfl, hZ, hh⟩ := hP
  have X0 : Stand p l e rm s m as.toArray below meth c s₁ [] 0 0 := Stand.of_body Bd
  have e0 : s₁.heap = h := by rw [← hh, Bd.state]; rfl
  have hown := findClass_of_methodNamed Bd.named
  have hnm := (name_of_methodNamed Bd.named Bd.method).1
  obtain ⟨s₂, o, st, r1, r2, v, L, rfl, ⟨q, N⟩, fe⟩ := H (p, l, e, rm, s, m, as.toArray, below, meth, c, Z, n0, s, ([], 0)) ⟨p, e, s, m, _, below, meth, c, s, rfl, fun _ => rfl, Bd.exec, hZ, Bd.bytes, hml0, hown, Bd.returns, Bd.notSynchronized, hnm⟩ (fun a ha => show a < s.heap.size by rw [hh]; exact ha) s₁ [] X0 (Fr.nil _) e0
  refine ⟨s₂, _, ?_, r1, r2, v, L, rfl, ⟨q, N⟩, fe⟩
  exact castTop (g' := mkF m 0 Ls.toArray []) (by unfold entryFrame; rw [hef]) st
theorem o_callVH (B : o_BE κ l Z n0 R y bytes ml ret Ef fin) {yc : MethodName} {Cn : String} {bc : ByteArray} {mc : Nat} {rc : Option FieldType} {hsd : List (Nat × Nat × Nat × Nat)} {rm : Room} {as rest : List Value} {a : Addr} {Qc : Option Value → Heap → Prop} {idx : Nat} (W : Nat) (hd : decode bytes pc = .ok (.invokevirtual idx, 3))
    (w1 : (Cond.methodLink y.cls idx yc).before a0 Z = true) (w2 : (Cond.declares yc).before a0 Z = true) (w5 : (Cond.selects Cn yc yc).before a0 Z = true) (w6 : (Cond.instanceMethod yc).before a0 Z = true) (w3 : (Cond.initialized yc.cls).before a0 Z = true) (w4 : (Cond.codeWith yc bc mc rc hsd).before a0 Z = true) (hy : yc.cls ≠ "java/lang/invoke/MethodHandle" ∧ yc.cls ≠ "java/lang/invoke/VarHandle") {ps : List FieldType} {r0 : Option FieldType} (pd : parseMethodDescriptor yc.desc = some ⟨ps, r0⟩) (hlen : as.length = ps.length)
    (hW : 2 * Ef.2 + (rest.map fun v => v.category).sum ≤ W) (hf : rm.frames + 1 ≤ R.frames) (hl : W + (mc + 11) + rm.locals ≤ R.locals) (hc : k + rm.cells ≤ R.cells) (hs : n + rm.slots ≤ R.slots) (hLs : Ls.length = ml) (E : Exa Z h a Cn)
    (C : o_CH l Z n0 yc bc mc rc hsd rm (.ref a :: as) h Qc) (K : ∀ v h', Qc v h' → o_Go κ Q h' (k + rm.cells) (n + rm.slots) (pc + 3) Ls (v.toList ++ rest)) : o_Go κ Q h k n pc Ls (as.reverse ++ .ref a :: rest) := by
  obtain ⟨p, e, s, m, args, below, meth, c, s0, rfl, hs0, hx, hZ, hby, hml, hown, hret, hlk, hnm⟩ := B
  intro T locs X N eT
  obtain ⟨cq, kq, qa, qb, qc⟩ := isOf hZ eT E
  obtain ⟨v, vm1, ⟨T', L', k', n'⟩, -, X', ⟨Lc, hQ, l', y', z'⟩, st'⟩ := X.virtualBack hx (y := yc) (z := yc) hown (mvT hZ w1) (mvT hZ w2) (notFace_of_selects (args := #[]) (mvT hZ w5)) (mvT hZ w5) (mvT hZ w6) hy (backOfWith (W := W) (Q := fun v h L => Qc v h ∧ Fr n0 L) (C []) hZ w4 w3 hf hl) qa qc (g := o_F Ef m pc Ls.toArray (as.reverse ++ .ref a :: rest)) rfl (by rw [hml, ← hLs]; simp) (Steps.refl _) (argsL := as) (rest := rest) (lenOf pd hlen) rfl (by simpa using hW) (hb hby hd) (fun _ _ => ⟨rfl, eT, hc, hs⟩)
  dsimp only [Pt.U, Pt.locs, Pt.cells, Pt.slots] at X' l' y' z' st' hQ
  subst l' y' z'
  obtain ⟨hq, Nc⟩ := hQ
  obtain ⟨s₂, o, st, r⟩ := K v T'.heap hq T' _ X' (Fr.app N Nc) rfl
  exact ⟨s₂, o, st'.trans st, r⟩
theorem o_callR0 (B : o_BE κ l Z n0 R y bytes ml ret Ef fin) {yc : MethodName} {bc : ByteArray} {mc : Nat} {rm : Room} {rest : List Value} {a : Addr} {Qc : Option Value → Heap → Prop} {idx : Nat} (W : Nat) (hd : decode bytes pc = .ok (.invokespecial idx, 3)) (hin : yc.name = "<init>")
    (w1 : (Cond.methodRef y.cls idx yc).before a0 Z = true) (w2 : (Cond.instanceMethod yc).before a0 Z = true) (w3 : (Cond.initialized yc.cls).before a0 Z = true) (w4 : (Cond.code yc bc mc none).before a0 Z = true) (hy : yc.cls ≠ "java/lang/invoke/MethodHandle" ∧ yc.cls ≠ "java/lang/invoke/VarHandle") {ps : List FieldType} {r0 : Option FieldType} (pd : parseMethodDescriptor yc.desc = some ⟨ps, r0⟩) (hlen : 0 = ps.length)
    (hW : 2 * Ef.2 + (rest.map fun v => v.category).sum ≤ W) (hf : rm.frames + 1 ≤ R.frames) (hl : W + (mc + 11) + rm.locals ≤ R.locals) (hc : k + rm.cells ≤ R.cells) (hs : n + rm.slots ≤ R.slots) (hLs : Ls.length = ml)
    (C : o_C l Z n0 yc bc mc none rm (.ref a :: []) h Qc) (K : ∀ v h', Qc v h' → o_Go κ Q h' (k + rm.cells) (n + rm.slots) (pc + 3) Ls (v.toList ++ rest)) : o_Go κ Q h k n pc Ls (.ref a :: rest) := o_callR B W hd hin w1 w2 w3 w4 hy pd (as := []) hlen hW hf hl hc hs hLs C K
theorem o_callR1 (B : o_BE κ l Z n0 R y bytes ml ret Ef fin) {yc : MethodName} {bc : ByteArray} {mc : Nat} {rm : Room} {v0 : Value} {rest : List Value} {a : Addr} {Qc : Option Value → Heap → Prop} {idx : Nat} (W : Nat) (hd : decode bytes pc = .ok (.invokespecial idx, 3)) (hin : yc.name = "<init>")
    (w1 : (Cond.methodRef y.cls idx yc).before a0 Z = true) (w2 : (Cond.instanceMethod yc).before a0 Z = true) (w3 : (Cond.initialized yc.cls).before a0 Z = true) (w4 : (Cond.code yc bc mc none).before a0 Z = true) (hy : yc.cls ≠ "java/lang/invoke/MethodHandle" ∧ yc.cls ≠ "java/lang/invoke/VarHandle") {ps : List FieldType} {r0 : Option FieldType} (pd : parseMethodDescriptor yc.desc = some ⟨ps, r0⟩) (hlen : 1 = ps.length)
    (hW : 2 * Ef.2 + (rest.map fun v => v.category).sum ≤ W) (hf : rm.frames + 1 ≤ R.frames) (hl : W + (mc + 11) + rm.locals ≤ R.locals) (hc : k + rm.cells ≤ R.cells) (hs : n + rm.slots ≤ R.slots) (hLs : Ls.length = ml)
    (C : o_C l Z n0 yc bc mc none rm (.ref a :: [v0]) h Qc) (K : ∀ v h', Qc v h' → o_Go κ Q h' (k + rm.cells) (n + rm.slots) (pc + 3) Ls (v.toList ++ rest)) : o_Go κ Q h k n pc Ls (v0 :: .ref a :: rest) := o_callR B W hd hin w1 w2 w3 w4 hy pd (as := [v0]) hlen hW hf hl hc hs hLs C K
theorem o_callR2 (B : o_BE κ l Z n0 R y bytes ml ret Ef fin) {yc : MethodName} {bc : ByteArray} {mc : Nat} {rm : Room} {v0 v1 : Value} {rest : List Value} {a : Addr} {Qc : Option Value → Heap → Prop} {idx : Nat} (W : Nat) (hd : decode bytes pc = .ok (.invokespecial idx, 3)) (hin : yc.name = "<init>")
    (w1 : (Cond.methodRef y.cls idx yc).before a0 Z = true) (w2 : (Cond.instanceMethod yc).before a0 Z = true) (w3 : (Cond.initialized yc.cls).before a0 Z = true) (w4 : (Cond.code yc bc mc none).before a0 Z = true) (hy : yc.cls ≠ "java/lang/invoke/MethodHandle" ∧ yc.cls ≠ "java/lang/invoke/VarHandle") {ps : List FieldType} {r0 : Option FieldType} (pd : parseMethodDescriptor yc.desc = some ⟨ps, r0⟩) (hlen : 2 = ps.length)
    (hW : 2 * Ef.2 + (rest.map fun v => v.category).sum ≤ W) (hf : rm.frames + 1 ≤ R.frames) (hl : W + (mc + 11) + rm.locals ≤ R.locals) (hc : k + rm.cells ≤ R.cells) (hs : n + rm.slots ≤ R.slots) (hLs : Ls.length = ml)
    (C : o_C l Z n0 yc bc mc none rm (.ref a :: [v0, v1]) h Qc) (K : ∀ v h', Qc v h' → o_Go κ Q h' (k + rm.cells) (n + rm.slots) (pc + 3) Ls (v.toList ++ rest)) : o_Go κ Q h k n pc Ls (v1 :: v0 :: .ref a :: rest) := o_callR B W hd hin w1 w2 w3 w4 hy pd (as := [v0, v1]) hlen hW hf hl hc hs hLs C K
theorem o_callR3 (B : o_BE κ l Z n0 R y bytes ml ret Ef fin) {yc : MethodName} {bc : ByteArray} {mc : Nat} {rm : Room} {v0 v1 v2 : Value} {rest : List Value} {a : Addr} {Qc : Option Value → Heap → Prop} {idx : Nat} (W : Nat) (hd : decode bytes pc = .ok (.invokespecial idx, 3)) (hin : yc.name = "<init>")
    (w1 : (Cond.methodRef y.cls idx yc).before a0 Z = true) (w2 : (Cond.instanceMethod yc).before a0 Z = true) (w3 : (Cond.initialized yc.cls).before a0 Z = true) (w4 : (Cond.code yc bc mc none).before a0 Z = true) (hy : yc.cls ≠ "java/lang/invoke/MethodHandle" ∧ yc.cls ≠ "java/lang/invoke/VarHandle") {ps : List FieldType} {r0 : Option FieldType} (pd : parseMethodDescriptor yc.desc = some ⟨ps, r0⟩) (hlen : 3 = ps.length)
    (hW : 2 * Ef.2 + (rest.map fun v => v.category).sum ≤ W) (hf : rm.frames + 1 ≤ R.frames) (hl : W + (mc + 11) + rm.locals ≤ R.locals) (hc : k + rm.cells ≤ R.cells) (hs : n + rm.slots ≤ R.slots) (hLs : Ls.length = ml)
    (C : o_C l Z n0 yc bc mc none rm (.ref a :: [v0, v1, v2]) h Qc) (K : ∀ v h', Qc v h' → o_Go κ Q h' (k + rm.cells) (n + rm.slots) (pc + 3) Ls (v.toList ++ rest)) : o_Go κ Q h k n pc Ls (v2 :: v1 :: v0 :: .ref a :: rest) := o_callR B W hd hin w1 w2 w3 w4 hy pd (as := [v0, v1, v2]) hlen hW hf hl hc hs hLs C K
theorem o_callP0 (B : o_BE κ l Z n0 R y bytes ml ret Ef fin) {yc : MethodName} {kk : Nat} {bc : ByteArray} {mc : Nat} {rc : Option FieldType} {rm : Room} {rest : List Value} {a : Addr} {Qc : Option Value → Heap → Prop} {idx : Nat} (W : Nat) (hd : decode bytes pc = .ok (.invokevirtual idx, 3))
    (w1 : (Cond.methodLink y.cls idx yc).before a0 Z = true) (w2 : (Cond.instanceMethod yc).before a0 Z = true) (wp : (Cond.privateMethod yc).before a0 Z = true) (wi : (Cond.instantiable yc.cls kk).before a0 Z = true) (w3 : (Cond.initialized yc.cls).before a0 Z = true) (w4 : (Cond.code yc bc mc rc).before a0 Z = true) (hy : yc.cls ≠ "java/lang/invoke/MethodHandle" ∧ yc.cls ≠ "java/lang/invoke/VarHandle") {ps : List FieldType} {r0 : Option FieldType} (pd : parseMethodDescriptor yc.desc = some ⟨ps, r0⟩) (hlen : 0 = ps.length)
    (hW : 2 * Ef.2 + (rest.map fun v => v.category).sum ≤ W) (hf : rm.frames + 1 ≤ R.frames) (hl : W + (mc + 11) + rm.locals ≤ R.locals) (hc : k + rm.cells ≤ R.cells) (hs : n + rm.slots ≤ R.slots) (hLs : Ls.length = ml) {Cn : String} (E : Exa Z h a Cn)
    (C : o_C l Z n0 yc bc mc rc rm (.ref a :: []) h Qc) (K : ∀ v h', Qc v h' → o_Go κ Q h' (k + rm.cells) (n + rm.slots) (pc + 3) Ls (v.toList ++ rest)) : o_Go κ Q h k n pc Ls (.ref a :: rest) := o_callP B W hd w1 w2 wp wi w3 w4 hy pd (as := []) hlen hW hf hl hc hs hLs E C K
theorem o_callP1 (B : o_BE κ l Z n0 R y bytes ml ret Ef fin) {yc : MethodName} {kk : Nat} {bc : ByteArray} {mc : Nat} {rc : Option FieldType} {rm : Room} {v0 : Value} {rest : List Value} {a : Addr} {Qc : Option Value → Heap → Prop} {idx : Nat} (W : Nat) (hd : decode bytes pc = .ok (.invokevirtual idx, 3))
    (w1 : (Cond.methodLink y.cls idx yc).before a0 Z = true) (w2 : (Cond.instanceMethod yc).before a0 Z = true) (wp : (Cond.privateMethod yc).before a0 Z = true) (wi : (Cond.instantiable yc.cls kk).before a0 Z = true) (w3 : (Cond.initialized yc.cls).before a0 Z = true) (w4 : (Cond.code yc bc mc rc).before a0 Z = true) (hy : yc.cls ≠ "java/lang/invoke/MethodHandle" ∧ yc.cls ≠ "java/lang/invoke/VarHandle") {ps : List FieldType} {r0 : Option FieldType} (pd : parseMethodDescriptor yc.desc = some ⟨ps, r0⟩) (hlen : 1 = ps.length)
    (hW : 2 * Ef.2 + (rest.map fun v => v.category).sum ≤ W) (hf : rm.frames + 1 ≤ R.frames) (hl : W + (mc + 11) + rm.locals ≤ R.locals) (hc : k + rm.cells ≤ R.cells) (hs : n + rm.slots ≤ R.slots) (hLs : Ls.length = ml) {Cn : String} (E : Exa Z h a Cn)
    (C : o_C l Z n0 yc bc mc rc rm (.ref a :: [v0]) h Qc) (K : ∀ v h', Qc v h' → o_Go κ Q h' (k + rm.cells) (n + rm.slots) (pc + 3) Ls (v.toList ++ rest)) : o_Go κ Q h k n pc Ls (v0 :: .ref a :: rest) := o_callP B W hd w1 w2 wp wi w3 w4 hy pd (as := [v0]) hlen hW hf hl hc hs hLs E C K
theorem o_callP2 (B : o_BE κ l Z n0 R y bytes ml ret Ef fin) {yc : MethodName} {kk : Nat} {bc : ByteArray} {mc : Nat} {rc : Option FieldType} {rm : Room} {v0 v1 : Value} {rest : List Value} {a : Addr} {Qc : Option Value → Heap → Prop} {idx : Nat} (W : Nat) (hd : decode bytes pc = .ok (.invokevirtual idx, 3))
    (w1 : (Cond.methodLink y.cls idx yc).before a0 Z = true) (w2 : (Cond.instanceMethod yc).before a0 Z = true) (wp : (Cond.privateMethod yc).before a0 Z = true) (wi : (Cond.instantiable yc.cls kk).before a0 Z = true) (w3 : (Cond.initialized yc.cls).before a0 Z = true) (w4 : (Cond.code yc bc mc rc).before a0 Z = true) (hy : yc.cls ≠ "java/lang/invoke/MethodHandle" ∧ yc.cls ≠ "java/lang/invoke/VarHandle") {ps : List FieldType} {r0 : Option FieldType} (pd : parseMethodDescriptor yc.desc = some ⟨ps, r0⟩) (hlen : 2 = ps.length)
    (hW : 2 * Ef.2 + (rest.map fun v => v.category).sum ≤ W) (hf : rm.frames + 1 ≤ R.frames) (hl : W + (mc + 11) + rm.locals ≤ R.locals) (hc : k + rm.cells ≤ R.cells) (hs : n + rm.slots ≤ R.slots) (hLs : Ls.length = ml) {Cn : String} (E : Exa Z h a Cn)
    (C : o_C l Z n0 yc bc mc rc rm (.ref a :: [v0, v1]) h Qc) (K : ∀ v h', Qc v h' → o_Go κ Q h' (k + rm.cells) (n + rm.slots) (pc + 3) Ls (v.toList ++ rest)) : o_Go κ Q h k n pc Ls (v1 :: v0 :: .ref a :: rest) := o_callP B W hd w1 w2 wp wi w3 w4 hy pd (as := [v0, v1]) hlen hW hf hl hc hs hLs E C K
theorem o_callP3 (B : o_BE κ l Z n0 R y bytes ml ret Ef fin) {yc : MethodName} {kk : Nat} {bc : ByteArray} {mc : Nat} {rc : Option FieldType} {rm : Room} {v0 v1 v2 : Value} {rest : List Value} {a : Addr} {Qc : Option Value → Heap → Prop} {idx : Nat} (W : Nat) (hd : decode bytes pc = .ok (.invokevirtual idx, 3))
    (w1 : (Cond.methodLink y.cls idx yc).before a0 Z = true) (w2 : (Cond.instanceMethod yc).before a0 Z = true) (wp : (Cond.privateMethod yc).before a0 Z = true) (wi : (Cond.instantiable yc.cls kk).before a0 Z = true) (w3 : (Cond.initialized yc.cls).before a0 Z = true) (w4 : (Cond.code yc bc mc rc).before a0 Z = true) (hy : yc.cls ≠ "java/lang/invoke/MethodHandle" ∧ yc.cls ≠ "java/lang/invoke/VarHandle") {ps : List FieldType} {r0 : Option FieldType} (pd : parseMethodDescriptor yc.desc = some ⟨ps, r0⟩) (hlen : 3 = ps.length)
    (hW : 2 * Ef.2 + (rest.map fun v => v.category).sum ≤ W) (hf : rm.frames + 1 ≤ R.frames) (hl : W + (mc + 11) + rm.locals ≤ R.locals) (hc : k + rm.cells ≤ R.cells) (hs : n + rm.slots ≤ R.slots) (hLs : Ls.length = ml) {Cn : String} (E : Exa Z h a Cn)
    (C : o_C l Z n0 yc bc mc rc rm (.ref a :: [v0, v1, v2]) h Qc) (K : ∀ v h', Qc v h' → o_Go κ Q h' (k + rm.cells) (n + rm.slots) (pc + 3) Ls (v.toList ++ rest)) : o_Go κ Q h k n pc Ls (v2 :: v1 :: v0 :: .ref a :: rest) := o_callP B W hd w1 w2 wp wi w3 w4 hy pd (as := [v0, v1, v2]) hlen hW hf hl hc hs hLs E C K
theorem o_callVH0 (B : o_BE κ l Z n0 R y bytes ml ret Ef fin) {yc : MethodName} {Cn : String} {bc : ByteArray} {mc : Nat} {rc : Option FieldType} {hsd : List (Nat × Nat × Nat × Nat)} {rm : Room} {rest : List Value} {a : Addr} {Qc : Option Value → Heap → Prop} {idx : Nat} (W : Nat) (hd : decode bytes pc = .ok (.invokevirtual idx, 3))
    (w1 : (Cond.methodLink y.cls idx yc).before a0 Z = true) (w2 : (Cond.declares yc).before a0 Z = true) (w5 : (Cond.selects Cn yc yc).before a0 Z = true) (w6 : (Cond.instanceMethod yc).before a0 Z = true) (w3 : (Cond.initialized yc.cls).before a0 Z = true) (w4 : (Cond.codeWith yc bc mc rc hsd).before a0 Z = true) (hy : yc.cls ≠ "java/lang/invoke/MethodHandle" ∧ yc.cls ≠ "java/lang/invoke/VarHandle") {ps : List FieldType} {r0 : Option FieldType} (pd : parseMethodDescriptor yc.desc = some ⟨ps, r0⟩) (hlen : 0 = ps.length)
    (hW : 2 * Ef.2 + (rest.map fun v => v.category).sum ≤ W) (hf : rm.frames + 1 ≤ R.frames) (hl : W + (mc + 11) + rm.locals ≤ R.locals) (hc : k + rm.cells ≤ R.cells) (hs : n + rm.slots ≤ R.slots) (hLs : Ls.length = ml) (E : Exa Z h a Cn)
    (C : o_CH l Z n0 yc bc mc rc hsd rm (.ref a :: []) h Qc) (K : ∀ v h', Qc v h' → o_Go κ Q h' (k + rm.cells) (n + rm.slots) (pc + 3) Ls (v.toList ++ rest)) : o_Go κ Q h k n pc Ls (.ref a :: rest) := o_callVH B W hd w1 w2 w5 w6 w3 w4 hy pd (as := []) hlen hW hf hl hc hs hLs E C K
theorem o_callVH1 (B : o_BE κ l Z n0 R y bytes ml ret Ef fin) {yc : MethodName} {Cn : String} {bc : ByteArray} {mc : Nat} {rc : Option FieldType} {hsd : List (Nat × Nat × Nat × Nat)} {rm : Room} {v0 : Value} {rest : List Value} {a : Addr} {Qc : Option Value → Heap → Prop} {idx : Nat} (W : Nat) (hd : decode bytes pc = .ok (.invokevirtual idx, 3))
    (w1 : (Cond.methodLink y.cls idx yc).before a0 Z = true) (w2 : (Cond.declares yc).before a0 Z = true) (w5 : (Cond.selects Cn yc yc).before a0 Z = true) (w6 : (Cond.instanceMethod yc).before a0 Z = true) (w3 : (Cond.initialized yc.cls).before a0 Z = true) (w4 : (Cond.codeWith yc bc mc rc hsd).before a0 Z = true) (hy : yc.cls ≠ "java/lang/invoke/MethodHandle" ∧ yc.cls ≠ "java/lang/invoke/VarHandle") {ps : List FieldType} {r0 : Option FieldType} (pd : parseMethodDescriptor yc.desc = some ⟨ps, r0⟩) (hlen : 1 = ps.length)
    (hW : 2 * Ef.2 + (rest.map fun v => v.category).sum ≤ W) (hf : rm.frames + 1 ≤ R.frames) (hl : W + (mc + 11) + rm.locals ≤ R.locals) (hc : k + rm.cells ≤ R.cells) (hs : n + rm.slots ≤ R.slots) (hLs : Ls.length = ml) (E : Exa Z h a Cn)
    (C : o_CH l Z n0 yc bc mc rc hsd rm (.ref a :: [v0]) h Qc) (K : ∀ v h', Qc v h' → o_Go κ Q h' (k + rm.cells) (n + rm.slots) (pc + 3) Ls (v.toList ++ rest)) : o_Go κ Q h k n pc Ls (v0 :: .ref a :: rest) := o_callVH B W hd w1 w2 w5 w6 w3 w4 hy pd (as := [v0]) hlen hW hf hl hc hs hLs E C K
theorem o_callVH2 (B : o_BE κ l Z n0 R y bytes ml ret Ef fin) {yc : MethodName} {Cn : String} {bc : ByteArray} {mc : Nat} {rc : Option FieldType} {hsd : List (Nat × Nat × Nat × Nat)} {rm : Room} {v0 v1 : Value} {rest : List Value} {a : Addr} {Qc : Option Value → Heap → Prop} {idx : Nat} (W : Nat) (hd : decode bytes pc = .ok (.invokevirtual idx, 3))
    (w1 : (Cond.methodLink y.cls idx yc).before a0 Z = true) (w2 : (Cond.declares yc).before a0 Z = true) (w5 : (Cond.selects Cn yc yc).before a0 Z = true) (w6 : (Cond.instanceMethod yc).before a0 Z = true) (w3 : (Cond.initialized yc.cls).before a0 Z = true) (w4 : (Cond.codeWith yc bc mc rc hsd).before a0 Z = true) (hy : yc.cls ≠ "java/lang/invoke/MethodHandle" ∧ yc.cls ≠ "java/lang/invoke/VarHandle") {ps : List FieldType} {r0 : Option FieldType} (pd : parseMethodDescriptor yc.desc = some ⟨ps, r0⟩) (hlen : 2 = ps.length)
    (hW : 2 * Ef.2 + (rest.map fun v => v.category).sum ≤ W) (hf : rm.frames + 1 ≤ R.frames) (hl : W + (mc + 11) + rm.locals ≤ R.locals) (hc : k + rm.cells ≤ R.cells) (hs : n + rm.slots ≤ R.slots) (hLs : Ls.length = ml) (E : Exa Z h a Cn)
    (C : o_CH l Z n0 yc bc mc rc hsd rm (.ref a :: [v0, v1]) h Qc) (K : ∀ v h', Qc v h' → o_Go κ Q h' (k + rm.cells) (n + rm.slots) (pc + 3) Ls (v.toList ++ rest)) : o_Go κ Q h k n pc Ls (v1 :: v0 :: .ref a :: rest) := o_callVH B W hd w1 w2 w5 w6 w3 w4 hy pd (as := [v0, v1]) hlen hW hf hl hc hs hLs E C K
theorem o_callVH3 (B : o_BE κ l Z n0 R y bytes ml ret Ef fin) {yc : MethodName} {Cn : String} {bc : ByteArray} {mc : Nat} {rc : Option FieldType} {hsd : List (Nat × Nat × Nat × Nat)} {rm : Room} {v0 v1 v2 : Value} {rest : List Value} {a : Addr} {Qc : Option Value → Heap → Prop} {idx : Nat} (W : Nat) (hd : decode bytes pc = .ok (.invokevirtual idx, 3))
    (w1 : (Cond.methodLink y.cls idx yc).before a0 Z = true) (w2 : (Cond.declares yc).before a0 Z = true) (w5 : (Cond.selects Cn yc yc).before a0 Z = true) (w6 : (Cond.instanceMethod yc).before a0 Z = true) (w3 : (Cond.initialized yc.cls).before a0 Z = true) (w4 : (Cond.codeWith yc bc mc rc hsd).before a0 Z = true) (hy : yc.cls ≠ "java/lang/invoke/MethodHandle" ∧ yc.cls ≠ "java/lang/invoke/VarHandle") {ps : List FieldType} {r0 : Option FieldType} (pd : parseMethodDescriptor yc.desc = some ⟨ps, r0⟩) (hlen : 3 = ps.length)
    (hW : 2 * Ef.2 + (rest.map fun v => v.category).sum ≤ W) (hf : rm.frames + 1 ≤ R.frames) (hl : W + (mc + 11) + rm.locals ≤ R.locals) (hc : k + rm.cells ≤ R.cells) (hs : n + rm.slots ≤ R.slots) (hLs : Ls.length = ml) (E : Exa Z h a Cn)
    (C : o_CH l Z n0 yc bc mc rc hsd rm (.ref a :: [v0, v1, v2]) h Qc) (K : ∀ v h', Qc v h' → o_Go κ Q h' (k + rm.cells) (n + rm.slots) (pc + 3) Ls (v.toList ++ rest)) : o_Go κ Q h k n pc Ls (v2 :: v1 :: v0 :: .ref a :: rest) := o_callVH B W hd w1 w2 w5 w6 w3 w4 hy pd (as := [v0, v1, v2]) hlen hW hf hl hc hs hLs E C K
end Fw
section Pats
variable {κ : o_K} {l : Launch} {Z : State} {n0 : Nat} {R : Room} {y : MethodName} {bytes : ByteArray} {ml : Nat} {ret : Option FieldType} {Q : Option Value → Heap → Prop} {h : Heap} {k n pc : Nat} {St : List Value}
theorem o_astoreN_5_1 {Ef : List Addr × Nat} {fin : Bool} (B : o_BE κ l Z n0 R y bytes ml ret Ef fin) {s0 s1 s2 s3 s4 : Slot} {v : Value} (hd : decode bytes pc = .ok (.astore_n 1, 1)) (hv : v.isRef = true) (ho : o_ok1 s1 = true) (K : o_Go κ Q h k n (pc + 1) [s0, .val v, s2, s3, s4] St) : o_Go κ Q h k n pc [s0, s1, s2, s3, s4] (v :: St) := o_astoreN B hd hv rfl ho K
theorem o_astoreN_5_2 {Ef : List Addr × Nat} {fin : Bool} (B : o_BE κ l Z n0 R y bytes ml ret Ef fin) {s0 s1 s2 s3 s4 : Slot} {v : Value} (hd : decode bytes pc = .ok (.astore_n 2, 1)) (hv : v.isRef = true) (ho : o_ok1 s2 = true) (K : o_Go κ Q h k n (pc + 1) [s0, s1, .val v, s3, s4] St) : o_Go κ Q h k n pc [s0, s1, s2, s3, s4] (v :: St) := o_astoreN B hd hv rfl ho K
theorem o_astoreN_7_3 {Ef : List Addr × Nat} {fin : Bool} (B : o_BE κ l Z n0 R y bytes ml ret Ef fin) {s0 s1 s2 s3 s4 s5 s6 : Slot} {v : Value} (hd : decode bytes pc = .ok (.astore_n 3, 1)) (hv : v.isRef = true) (ho : o_ok1 s3 = true) (K : o_Go κ Q h k n (pc + 1) [s0, s1, s2, .val v, s4, s5, s6] St) : o_Go κ Q h k n pc [s0, s1, s2, s3, s4, s5, s6] (v :: St) := o_astoreN B hd hv rfl ho K
theorem o_astore_7_6 {Ef : List Addr × Nat} {fin : Bool} (B : o_BE κ l Z n0 R y bytes ml ret Ef fin) {s0 s1 s2 s3 s4 s5 s6 : Slot} {v : Value} (hd : decode bytes pc = .ok (.astore 6, 2)) (hv : v.isRef = true) (ho : o_ok1 s6 = true) (K : o_Go κ Q h k n (pc + 2) [s0, s1, s2, s3, s4, s5, .val v] St) : o_Go κ Q h k n pc [s0, s1, s2, s3, s4, s5, s6] (v :: St) := o_astore B hd hv rfl ho K
theorem o_astore_13_7 {Ef : List Addr × Nat} {fin : Bool} (B : o_BE κ l Z n0 R y bytes ml ret Ef fin) {s0 s1 s2 s3 s4 s5 s6 s7 s8 s9 s10 s11 s12 : Slot} {v : Value} (hd : decode bytes pc = .ok (.astore 7, 2)) (hv : v.isRef = true) (ho : o_ok1 s7 = true) (K : o_Go κ Q h k n (pc + 2) [s0, s1, s2, s3, s4, s5, s6, .val v, s8, s9, s10, s11, s12] St) : o_Go κ Q h k n pc [s0, s1, s2, s3, s4, s5, s6, s7, s8, s9, s10, s11, s12] (v :: St) := o_astore B hd hv rfl ho K
theorem o_astore_13_8 {Ef : List Addr × Nat} {fin : Bool} (B : o_BE κ l Z n0 R y bytes ml ret Ef fin) {s0 s1 s2 s3 s4 s5 s6 s7 s8 s9 s10 s11 s12 : Slot} {v : Value} (hd : decode bytes pc = .ok (.astore 8, 2)) (hv : v.isRef = true) (ho : o_ok1 s8 = true) (K : o_Go κ Q h k n (pc + 2) [s0, s1, s2, s3, s4, s5, s6, s7, .val v, s9, s10, s11, s12] St) : o_Go κ Q h k n pc [s0, s1, s2, s3, s4, s5, s6, s7, s8, s9, s10, s11, s12] (v :: St) := o_astore B hd hv rfl ho K
theorem o_astore_13_10 {Ef : List Addr × Nat} {fin : Bool} (B : o_BE κ l Z n0 R y bytes ml ret Ef fin) {s0 s1 s2 s3 s4 s5 s6 s7 s8 s9 s10 s11 s12 : Slot} {v : Value} (hd : decode bytes pc = .ok (.astore 10, 2)) (hv : v.isRef = true) (ho : o_ok1 s10 = true) (K : o_Go κ Q h k n (pc + 2) [s0, s1, s2, s3, s4, s5, s6, s7, s8, s9, .val v, s11, s12] St) : o_Go κ Q h k n pc [s0, s1, s2, s3, s4, s5, s6, s7, s8, s9, s10, s11, s12] (v :: St) := o_astore B hd hv rfl ho K
theorem o_iinc_2_1 {Ef : List Addr × Nat} {fin : Bool} (B : o_BE κ l Z n0 R y bytes ml ret Ef fin) {s0 : Slot} {x : Int32} {cst : Int} (v z : Int32) (hd : decode bytes pc = .ok (.iinc 1 cst, 3)) (hv : Int32.ofInt cst = v) (hz : x + v = z) (K : o_Go κ Q h k n (pc + 3) [s0, .val (.int z)] St) : o_Go κ Q h k n pc [s0, .val (.int x)] St := o_iinc B v hd hv rfl (hz.symm ▸ K)
theorem o_iinc_5_3 {Ef : List Addr × Nat} {fin : Bool} (B : o_BE κ l Z n0 R y bytes ml ret Ef fin) {s0 s1 s2 s4 : Slot} {x : Int32} {cst : Int} (v z : Int32) (hd : decode bytes pc = .ok (.iinc 3 cst, 3)) (hv : Int32.ofInt cst = v) (hz : x + v = z) (K : o_Go κ Q h k n (pc + 3) [s0, s1, s2, .val (.int z), s4] St) : o_Go κ Q h k n pc [s0, s1, s2, .val (.int x), s4] St := o_iinc B v hd hv rfl (hz.symm ▸ K)
theorem o_iinc_6_5 {Ef : List Addr × Nat} {fin : Bool} (B : o_BE κ l Z n0 R y bytes ml ret Ef fin) {s0 s1 s2 s3 s4 : Slot} {x : Int32} {cst : Int} (v z : Int32) (hd : decode bytes pc = .ok (.iinc 5 cst, 3)) (hv : Int32.ofInt cst = v) (hz : x + v = z) (K : o_Go κ Q h k n (pc + 3) [s0, s1, s2, s3, s4, .val (.int z)] St) : o_Go κ Q h k n pc [s0, s1, s2, s3, s4, .val (.int x)] St := o_iinc B v hd hv rfl (hz.symm ▸ K)
theorem o_iinc_7_5 {Ef : List Addr × Nat} {fin : Bool} (B : o_BE κ l Z n0 R y bytes ml ret Ef fin) {s0 s1 s2 s3 s4 s6 : Slot} {x : Int32} {cst : Int} (v z : Int32) (hd : decode bytes pc = .ok (.iinc 5 cst, 3)) (hv : Int32.ofInt cst = v) (hz : x + v = z) (K : o_Go κ Q h k n (pc + 3) [s0, s1, s2, s3, s4, .val (.int z), s6] St) : o_Go κ Q h k n pc [s0, s1, s2, s3, s4, .val (.int x), s6] St := o_iinc B v hd hv rfl (hz.symm ▸ K)
theorem o_istoreN_2_0 {Ef : List Addr × Nat} {fin : Bool} (B : o_BE κ l Z n0 R y bytes ml ret Ef fin) {s0 s1 : Slot} {x : Int32} (hd : decode bytes pc = .ok (.istore_n 0, 1)) (ho : o_ok1 s0 = true) (K : o_Go κ Q h k n (pc + 1) [.val (.int x), s1] St) : o_Go κ Q h k n pc [s0, s1] (.int x :: St) := o_istoreN B hd rfl ho K
theorem o_istoreN_2_1 {Ef : List Addr × Nat} {fin : Bool} (B : o_BE κ l Z n0 R y bytes ml ret Ef fin) {s0 s1 : Slot} {x : Int32} (hd : decode bytes pc = .ok (.istore_n 1, 1)) (ho : o_ok1 s1 = true) (K : o_Go κ Q h k n (pc + 1) [s0, .val (.int x)] St) : o_Go κ Q h k n pc [s0, s1] (.int x :: St) := o_istoreN B hd rfl ho K
theorem o_istoreN_5_3 {Ef : List Addr × Nat} {fin : Bool} (B : o_BE κ l Z n0 R y bytes ml ret Ef fin) {s0 s1 s2 s3 s4 : Slot} {x : Int32} (hd : decode bytes pc = .ok (.istore_n 3, 1)) (ho : o_ok1 s3 = true) (K : o_Go κ Q h k n (pc + 1) [s0, s1, s2, .val (.int x), s4] St) : o_Go κ Q h k n pc [s0, s1, s2, s3, s4] (.int x :: St) := o_istoreN B hd rfl ho K
theorem o_istore_5_4 {Ef : List Addr × Nat} {fin : Bool} (B : o_BE κ l Z n0 R y bytes ml ret Ef fin) {s0 s1 s2 s3 s4 : Slot} {x : Int32} (hd : decode bytes pc = .ok (.istore 4, 2)) (ho : o_ok1 s4 = true) (K : o_Go κ Q h k n (pc + 2) [s0, s1, s2, s3, .val (.int x)] St) : o_Go κ Q h k n pc [s0, s1, s2, s3, s4] (.int x :: St) := o_istore B hd rfl ho K
theorem o_istore_6_5 {Ef : List Addr × Nat} {fin : Bool} (B : o_BE κ l Z n0 R y bytes ml ret Ef fin) {s0 s1 s2 s3 s4 s5 : Slot} {x : Int32} (hd : decode bytes pc = .ok (.istore 5, 2)) (ho : o_ok1 s5 = true) (K : o_Go κ Q h k n (pc + 2) [s0, s1, s2, s3, s4, .val (.int x)] St) : o_Go κ Q h k n pc [s0, s1, s2, s3, s4, s5] (.int x :: St) := o_istore B hd rfl ho K
theorem o_istore_7_4 {Ef : List Addr × Nat} {fin : Bool} (B : o_BE κ l Z n0 R y bytes ml ret Ef fin) {s0 s1 s2 s3 s4 s5 s6 : Slot} {x : Int32} (hd : decode bytes pc = .ok (.istore 4, 2)) (ho : o_ok1 s4 = true) (K : o_Go κ Q h k n (pc + 2) [s0, s1, s2, s3, .val (.int x), s5, s6] St) : o_Go κ Q h k n pc [s0, s1, s2, s3, s4, s5, s6] (.int x :: St) := o_istore B hd rfl ho K
theorem o_istore_7_5 {Ef : List Addr × Nat} {fin : Bool} (B : o_BE κ l Z n0 R y bytes ml ret Ef fin) {s0 s1 s2 s3 s4 s5 s6 : Slot} {x : Int32} (hd : decode bytes pc = .ok (.istore 5, 2)) (ho : o_ok1 s5 = true) (K : o_Go κ Q h k n (pc + 2) [s0, s1, s2, s3, s4, .val (.int x), s6] St) : o_Go κ Q h k n pc [s0, s1, s2, s3, s4, s5, s6] (.int x :: St) := o_istore B hd rfl ho K
theorem o_istore_13_7 {Ef : List Addr × Nat} {fin : Bool} (B : o_BE κ l Z n0 R y bytes ml ret Ef fin) {s0 s1 s2 s3 s4 s5 s6 s7 s8 s9 s10 s11 s12 : Slot} {x : Int32} (hd : decode bytes pc = .ok (.istore 7, 2)) (ho : o_ok1 s7 = true) (K : o_Go κ Q h k n (pc + 2) [s0, s1, s2, s3, s4, s5, s6, .val (.int x), s8, s9, s10, s11, s12] St) : o_Go κ Q h k n pc [s0, s1, s2, s3, s4, s5, s6, s7, s8, s9, s10, s11, s12] (.int x :: St) := o_istore B hd rfl ho K
theorem o_istore_13_9 {Ef : List Addr × Nat} {fin : Bool} (B : o_BE κ l Z n0 R y bytes ml ret Ef fin) {s0 s1 s2 s3 s4 s5 s6 s7 s8 s9 s10 s11 s12 : Slot} {x : Int32} (hd : decode bytes pc = .ok (.istore 9, 2)) (ho : o_ok1 s9 = true) (K : o_Go κ Q h k n (pc + 2) [s0, s1, s2, s3, s4, s5, s6, s7, s8, .val (.int x), s10, s11, s12] St) : o_Go κ Q h k n pc [s0, s1, s2, s3, s4, s5, s6, s7, s8, s9, s10, s11, s12] (.int x :: St) := o_istore B hd rfl ho K
theorem o_lstoreN_6_3 {Ef : List Addr × Nat} {fin : Bool} (B : o_BE κ l Z n0 R y bytes ml ret Ef fin) {s0 s1 s2 s3 s4 s5 : Slot} {x : Int64} (hd : decode bytes pc = .ok (.lstore_n 3, 1)) (ho : o_okl s3 s4 = true) (K : o_Go κ Q h k n (pc + 1) [s0, s1, s2, .val (.long x), .second, s5] St) : o_Go κ Q h k n pc [s0, s1, s2, s3, s4, s5] (.long x :: St) := o_lstoreN B hd rfl rfl ho K
theorem o_lstoreN_7_1 {Ef : List Addr × Nat} {fin : Bool} (B : o_BE κ l Z n0 R y bytes ml ret Ef fin) {s0 s1 s2 s3 s4 s5 s6 : Slot} {x : Int64} (hd : decode bytes pc = .ok (.lstore_n 1, 1)) (ho : o_okl s1 s2 = true) (K : o_Go κ Q h k n (pc + 1) [s0, .val (.long x), .second, s3, s4, s5, s6] St) : o_Go κ Q h k n pc [s0, s1, s2, s3, s4, s5, s6] (.long x :: St) := o_lstoreN B hd rfl rfl ho K
theorem o_lstore_13_5 {Ef : List Addr × Nat} {fin : Bool} (B : o_BE κ l Z n0 R y bytes ml ret Ef fin) {s0 s1 s2 s3 s4 s5 s6 s7 s8 s9 s10 s11 s12 : Slot} {x : Int64} (hd : decode bytes pc = .ok (.lstore 5, 2)) (ho : o_okl s5 s6 = true) (K : o_Go κ Q h k n (pc + 2) [s0, s1, s2, s3, s4, .val (.long x), .second, s7, s8, s9, s10, s11, s12] St) : o_Go κ Q h k n pc [s0, s1, s2, s3, s4, s5, s6, s7, s8, s9, s10, s11, s12] (.long x :: St) := o_lstore B hd rfl rfl ho K
theorem o_lstore_13_8 {Ef : List Addr × Nat} {fin : Bool} (B : o_BE κ l Z n0 R y bytes ml ret Ef fin) {s0 s1 s2 s3 s4 s5 s6 s7 s8 s9 s10 s11 s12 : Slot} {x : Int64} (hd : decode bytes pc = .ok (.lstore 8, 2)) (ho : o_okl s8 s9 = true) (K : o_Go κ Q h k n (pc + 2) [s0, s1, s2, s3, s4, s5, s6, s7, .val (.long x), .second, s10, s11, s12] St) : o_Go κ Q h k n pc [s0, s1, s2, s3, s4, s5, s6, s7, s8, s9, s10, s11, s12] (.long x :: St) := o_lstore B hd rfl rfl ho K
theorem o_lstore_13_10 {Ef : List Addr × Nat} {fin : Bool} (B : o_BE κ l Z n0 R y bytes ml ret Ef fin) {s0 s1 s2 s3 s4 s5 s6 s7 s8 s9 s10 s11 s12 : Slot} {x : Int64} (hd : decode bytes pc = .ok (.lstore 10, 2)) (ho : o_okl s10 s11 = true) (K : o_Go κ Q h k n (pc + 2) [s0, s1, s2, s3, s4, s5, s6, s7, s8, s9, .val (.long x), .second, s12] St) : o_Go κ Q h k n pc [s0, s1, s2, s3, s4, s5, s6, s7, s8, s9, s10, s11, s12] (.long x :: St) := o_lstore B hd rfl rfl ho K
theorem o_lstore_13_11 {Ef : List Addr × Nat} {fin : Bool} (B : o_BE κ l Z n0 R y bytes ml ret Ef fin) {s0 s1 s2 s3 s4 s5 s6 s7 s8 s9 s10 s11 s12 : Slot} {x : Int64} (hd : decode bytes pc = .ok (.lstore 11, 2)) (ho : o_okl s11 s12 = true) (K : o_Go κ Q h k n (pc + 2) [s0, s1, s2, s3, s4, s5, s6, s7, s8, s9, s10, .val (.long x), .second] St) : o_Go κ Q h k n pc [s0, s1, s2, s3, s4, s5, s6, s7, s8, s9, s10, s11, s12] (.long x :: St) := o_lstore B hd rfl rfl ho K
end Pats
theorem own_i32n (a : Nat) (h : a < 2 ^ 32) : (Int32.ofNat a).toBitVec.toNat = a := by
  show (BitVec.ofNat 32 a).toNat = a
  rw [BitVec.toNat_ofNat]; exact Nat.mod_eq_of_lt h
theorem own_i64n (a : Nat) (h : a < 2 ^ 64) : (Int64.ofNat a).toBitVec.toNat = a := by
  show (BitVec.ofNat 64 a).toNat = a
  rw [BitVec.toNat_ofNat]; exact Nat.mod_eq_of_lt h
theorem own_pow {j : Nat} (hj : j ≤ 30) : 2 ^ j ≤ 2 ^ 30 ∧ 0 < 2 ^ j := ⟨Nat.pow_le_pow_right (by decide) hj, Nat.two_pow_pos j⟩
theorem own_and (x : Int32) {j : Nat} (hj : j ≤ 30) : x &&& Int32.ofNat (2 ^ j - 1) = Int32.ofNat (x.toBitVec.toNat % 2 ^ j) := by
  obtain ⟨p1, p2⟩ := own_pow hj
  have m := Nat.mod_lt x.toBitVec.toNat p2
  apply Int32.toBitVec_inj.mp; apply BitVec.eq_of_toNat_eq
  rw [Int32.toBitVec_and, BitVec.toNat_and, own_i32n _ (by omega), own_i32n _ (by omega), Nat.and_two_pow_sub_one_eq_mod]
theorem own_andL (x : Int64) {j : Nat} (hj : j ≤ 30) : x &&& Int64.ofNat (2 ^ j - 1) = Int64.ofNat (x.toBitVec.toNat % 2 ^ j) := by
  obtain ⟨p1, p2⟩ := own_pow hj
  have m := Nat.mod_lt x.toBitVec.toNat p2
  apply Int64.toBitVec_inj.mp; apply BitVec.eq_of_toNat_eq
  rw [Int64.toBitVec_and, BitVec.toNat_and, own_i64n _ (by omega), own_i64n _ (by omega), Nat.and_two_pow_sub_one_eq_mod]
theorem own_sub1 {j : Nat} (hj : j ≤ 30) : Int32.ofNat (2 ^ j) - 1 = Int32.ofNat (2 ^ j - 1) := by
  obtain ⟨p1, p2⟩ := own_pow hj
  have e : 2 ^ j = (2 ^ j - 1) + 1 := by omega
  have e2 : Int32.ofNat (2 ^ j) = Int32.ofNat (2 ^ j - 1) + 1 := by
    rw [show (1 : Int32) = Int32.ofNat 1 from rfl, ← Int32.ofNat_add, ← e]
  rw [e2, Int32.add_sub_cancel]
theorem own_toInt {a : Nat} (h : a < 2 ^ 31) : (Int32.ofNat a).toInt = a := Int32.toInt_ofNat_of_lt h
theorem own_one (x : Nat) : Int32.ofNat x + 1 = Int32.ofNat (x + 1) := (Int32.ofNat_add x 1).symm
theorem own_step {x j : Nat} (hj : j ≤ 30) (hx : x < 2 ^ j) : (Int32.ofNat x + 1) &&& Int32.ofNat (2 ^ j - 1) = Int32.ofNat ((x + 1) % 2 ^ j) := by
  obtain ⟨p1, p2⟩ := own_pow hj
  rw [own_one, own_and _ hj, own_i32n _ (by omega)]
theorem own_wide {a : Nat} (h : a < 2 ^ 31) : (Int32.ofNat a).toInt64 = Int64.ofNat a := by
  apply Int64.toInt_inj.mp
  rw [Int32.toInt_toInt64, own_toInt h, Int64.toInt_ofNat_of_lt (by omega)]
theorem own_narrow {a : Nat} (h : a < 2 ^ 31) : (Int64.ofNat a).toInt32 = Int32.ofNat a := by
  apply Int32.toBitVec_inj.mp; apply BitVec.eq_of_toNat_eq
  show ((Int64.ofNat a).toBitVec.signExtend 32).toNat = _
  rw [BitVec.signExtend_eq_setWidth_of_le _ (by decide), BitVec.toNat_setWidth, own_i64n _ (by omega), own_i32n _ (by omega)]
  exact Nat.mod_eq_of_lt (by omega)
theorem own_s1 (key : Int64) {j : Nat} (hj : j ≤ 30) : (key &&& (Int32.ofNat (2 ^ j - 1)).toInt64).toInt32 = Int32.ofNat (key.toBitVec.toNat % 2 ^ j) := by
  obtain ⟨p1, p2⟩ := own_pow hj
  have m := Nat.mod_lt key.toBitVec.toNat p2
  rw [own_wide (by omega), own_andL _ hj, own_narrow (by omega)]
theorem own_s2 (key : Int64) {j : Nat} (hj : j ≤ 30) : key.toInt32 &&& Int32.ofNat (2 ^ j - 1) = Int32.ofNat (key.toBitVec.toNat % 2 ^ j) := by
  rw [own_and _ hj]
  have e : key.toInt32.toBitVec.toNat = key.toBitVec.toNat % 2 ^ 32 := by
    show (key.toBitVec.signExtend 32).toNat = _
    rw [BitVec.signExtend_eq_setWidth_of_le _ (by decide), BitVec.toNat_setWidth]
  rw [e, Nat.mod_mod_of_dvd _ (Nat.pow_dvd_pow 2 (by omega : j ≤ 32))]
theorem own_rem {a b : Nat} (ha : a < 2 ^ 31) (hb : b < 2 ^ 31) : Int32.ofNat a % Int32.ofNat b = Int32.ofNat (a % b) := by
  have hm : a % b ≤ a := Nat.mod_le a b
  apply Int32.toInt_inj.mp
  rw [Int32.toInt_mod, own_toInt ha, own_toInt hb, own_toInt (by omega)]
  exact (Int.ofNat_tmod a b).symm
theorem own_ne0 {a : Nat} (h0 : 0 < a) (ha : a < 2 ^ 31) : Int32.ofNat a ≠ 0 := fun q => by
  have := congrArg Int32.toInt q
  rw [own_toInt ha] at this
  have z : (0 : Int32).toInt = 0 := rfl
  omega
theorem own_nn {a : Nat} (ha : a < 2 ^ 31) : ¬ Int32.ofNat a < 0 := by
  rw [Int32.lt_iff_toInt_lt, own_toInt ha]
  have z : (0 : Int32).toInt = 0 := rfl
  omega
theorem own_ltn {a b : Nat} (ha : a < 2 ^ 31) (hb : b < 2 ^ 31) : Int32.ofNat a < Int32.ofNat b ↔ a < b := by
  rw [Int32.lt_iff_toInt_lt, own_toInt ha, own_toInt hb]; omega
theorem own_inj {a b : Nat} (ha : a < 2 ^ 31) (hb : b < 2 ^ 31) : Int32.ofNat a = Int32.ofNat b ↔ a = b := by
  rw [← Int32.toInt_inj, own_toInt ha, own_toInt hb]; omega
theorem own_least {p : Nat → Prop} (hd : ∀ d, p d ∨ ¬ p d) : ∀ n, (∃ d, d < n ∧ p d) → ∃ d0, d0 < n ∧ p d0 ∧ ∀ d, d < d0 → ¬ p d
  | 0, ⟨d, h, _⟩ => absurd h (Nat.not_lt_zero d)
  | n + 1, ⟨d, h, q⟩ => by
    by_cases e : ∃ d, d < n ∧ p d
    · obtain ⟨d0, h1, h2, h3⟩ := own_least hd n e
      exact ⟨d0, by omega, h2, h3⟩
    · have hdn : d = n := by
        have : ¬ d < n := fun x => e ⟨d, x, q⟩
        omega
      subst hdn
      exact ⟨d, by omega, q, fun x hx px => e ⟨x, hx, px⟩⟩
theorem own_ush (X : Nat) (hX : X < 2 ^ 31) (s : Nat) (hs : s < 31) : XT.ushr (Int32.ofNat X) (Int32.ofNat s) = Int32.ofNat (X / 2 ^ s) := by
  have hle : X / 2 ^ s ≤ X := Nat.div_le_self _ _
  have e : (XT.ushr (Int32.ofNat X) (Int32.ofNat s)).toBitVec = (Int32.ofNat X).toBitVec >>> s := by
    have all : ∀ s : Fin 31, ((Int32.ofNat s.val &&& 31).toUInt32.toBitVec % 32#32).toNat = s.val := by decide
    show (Int32.ofNat X).toBitVec >>> ((Int32.ofNat s &&& 31).toUInt32.toBitVec % 32#32) = _
    rw [show ∀ (a b : BitVec 32), a >>> b = a >>> b.toNat from fun _ _ => rfl, all ⟨s, hs⟩]
  apply Int32.toBitVec_inj.mp
  rw [e]
  apply BitVec.eq_of_toNat_eq
  rw [BitVec.toNat_ushiftRight, own_i32n X (by omega), own_i32n _ (by omega), Nat.shiftRight_eq_div_pow]
/-- x is the number that's left of X when its lowest s bits are gone -/
def own_L (X x s : Nat) : Prop := x = X / 2 ^ s ∧ 1 ≤ x ∧ s ≤ 31
theorem own_L.start {X : Nat} (h : 1 ≤ X) : own_L X X 0 := ⟨by simp, h, by decide⟩
theorem own_L.down {X x s : Nat} (L : own_L X x s) (t : Nat) (hx : 2 ^ t ≤ x) (hs : s + t ≤ 31) : own_L X (x / 2 ^ t) (s + t) :=
  ⟨by rw [L.1, Nat.div_div_eq_div_mul, ← Nat.pow_add], (Nat.le_div_iff_mul_le (Nat.two_pow_pos t)).mpr (by omega), hs⟩
theorem own_L.end {X x s : Nat} (L : own_L X x s) (hx : x < 4) : 2 ^ (s + x / 2) ≤ X ∧ X < 2 ^ (s + x / 2 + 1) := by
  obtain ⟨e, h1, -⟩ := L
  have p := Nat.two_pow_pos s
  have a := Nat.div_add_mod X (2 ^ s)
  have b := Nat.mod_lt X p
  rw [← e] at a
  have hc : x = 1 ∨ x = 2 ∨ x = 3 := by omega
  rcases hc with rfl | rfl | rfl
  · simp only [Nat.reduceDiv, Nat.add_zero, Nat.pow_succ]; omega
  · simp only [Nat.reduceDiv, Nat.pow_succ]; omega
  · simp only [Nat.reduceDiv, Nat.pow_succ]; omega
theorem own_sub {a b : Nat} (h : b ≤ a) (ha : a < 2 ^ 31) : Int32.ofNat a - Int32.ofNat b = Int32.ofNat (a - b) := by
  have e : Int32.ofNat a = Int32.ofNat (a - b) + Int32.ofNat b := by rw [← Int32.ofNat_add]; congr 1; omega
  rw [e, Int32.add_sub_cancel]
/-- the highest bit that X has: 2 ^ e -/
def own_hi (X e : Nat) : Prop := 2 ^ e ≤ X ∧ X < 2 ^ (e + 1)
theorem own_min : ∀ e : Fin 31, XT.ushr (-2147483648) (Int32.ofNat (31 - e.val)) = Int32.ofNat (2 ^ e.val) := by decide
theorem own_hob {X e : Nat} (hX : X < 2 ^ 31) (H : own_hi X e) (he : e < 31) : Int32.ofNat X &&& XT.ushr (-2147483648) (Int32.ofNat (31 - e)) = Int32.ofNat (2 ^ e) := by
  rw [own_min ⟨e, he⟩]
  obtain ⟨h1, h2⟩ := H
  have pe : 2 ^ e < 2 ^ 31 := Nat.pow_lt_pow_right (by decide) he
  apply Int32.toBitVec_inj.mp
  rw [Int32.toBitVec_and]
  apply BitVec.eq_of_toNat_eq
  show ((Int32.ofNat X).toBitVec &&& (Int32.ofNat (2 ^ e)).toBitVec).toNat = (Int32.ofNat (2 ^ e)).toBitVec.toNat
  rw [BitVec.toNat_and, own_i32n X (by omega), own_i32n _ (by omega)]
  have t : X.testBit e = true := by
    rw [Nat.testBit_eq_decide_div_mod_eq]
    have q : X / 2 ^ e = 1 := by
      apply Nat.div_eq_of_lt_le
      · omega
      · rw [Nat.pow_succ] at h2; omega
    simp [q]
  apply Nat.eq_of_testBit_eq
  intro i
  rw [Nat.testBit_and, Nat.testBit_two_pow]
  by_cases ei : e = i
  · subst ei; simp [t]
  · simp [ei]
/-- the keys of the law -/
theorem own_key (a : Int64) (j : Nat) (h1 : 1 ≤ j) (hj : j ≤ 13) : ((a &&& (-16)) ||| Int64.ofNat j) ≠ 0 ∧ ((a &&& (-16)) ||| Int64.ofNat j).toBitVec.toNat % 2 ^ 4 = j ∧
    XT.ushrL (((a &&& (-16)) ||| Int64.ofNat j) ^^^ (-9223372036854775808)) 58 = XT.ushrL ((a &&& (-16)) ^^^ (-9223372036854775808)) 58 := by
  have all : ∀ j : Fin 14, (Int64.ofNat j.val &&& 15) = Int64.ofNat j.val ∧ (Int64.ofNat j.val).toBitVec >>> 58 = 0#64 := by decide
  have m : ((a &&& (-16)) ||| Int64.ofNat j) &&& 15 = Int64.ofNat j := by
    rw [show ((a &&& (-16)) ||| Int64.ofNat j) &&& 15 = (a &&& (-16)) &&& 15 ||| Int64.ofNat j &&& 15 from Int64.toBitVec_inj.mp (by simp only [Int64.toBitVec_and, Int64.toBitVec_or]; exact BitVec.and_or_distrib_right), Int64.and_assoc, show (-16 : Int64) &&& 15 = 0 from rfl, Int64.and_zero, (all ⟨j, by omega⟩).1, Int64.zero_or]
  have k := own_andL ((a &&& (-16)) ||| Int64.ofNat j) (j := 4) (by decide)
  rw [show Int64.ofNat (2 ^ 4 - 1) = 15 from rfl, m] at k
  have kk := congrArg (fun z : Int64 => z.toBitVec.toNat) k
  rw [own_i64n j (by omega), own_i64n _ (by omega)] at kk
  refine ⟨fun z => ?_, kk.symm, ?_⟩
  · rw [z] at kk; simp at kk; omega
  · apply Int64.toBitVec_inj.mp
    have e : ∀ x : Int64, (XT.ushrL x 58).toBitVec = x.toBitVec >>> 58 := fun x => rfl
    rw [e, e, Int64.toBitVec_xor, Int64.toBitVec_xor, Int64.toBitVec_or, BitVec.ushiftRight_xor_distrib, BitVec.ushiftRight_xor_distrib, BitVec.ushiftRight_or_distrib, (all ⟨j, by omega⟩).2, BitVec.or_zero]
theorem own_seg (x : Int64) : ∃ g, g < 64 ∧ (XT.ushrL x 58).toInt32 = Int32.ofNat g := by
  refine ⟨x.toBitVec.toNat / 2 ^ 58, ?_, ?_⟩
  · have := x.toBitVec.isLt
    rw [Nat.div_lt_iff_lt_mul (by decide)]; omega
  · have h2 : x.toBitVec.toNat / 2 ^ 58 < 64 := by
      have := x.toBitVec.isLt
      rw [Nat.div_lt_iff_lt_mul (by decide)]; omega
    have e : XT.ushrL x 58 = Int64.ofNat (x.toBitVec.toNat / 2 ^ 58) := by
      apply Int64.toBitVec_inj.mp
      apply BitVec.eq_of_toNat_eq
      have e2 : (XT.ushrL x 58).toBitVec = x.toBitVec >>> 58 := rfl
      rw [e2, BitVec.toNat_ushiftRight, own_i64n _ (by omega), Nat.shiftRight_eq_div_pow]
    rw [e, own_narrow (by omega)]
/-- the share -/
theorem own_share (b : Int64) : (32 : Int64) ≤ (((b &&& 9223372036854775807) ||| 32768) / 64) / 16 := by
  generalize hx : (b &&& 9223372036854775807) ||| 32768 = x
  have h1 : (32768 : Int) ≤ x.toInt := by
    have hn : x.toBitVec.toNat = (b.toBitVec.toNat &&& 9223372036854775807) ||| 32768 := by
      rw [← hx, Int64.toBitVec_or, Int64.toBitVec_and, BitVec.toNat_or, BitVec.toNat_and]; rfl
    have l1 : 32768 ≤ x.toBitVec.toNat := by rw [hn]; exact Nat.right_le_or
    have l2 : x.toBitVec.toNat < 2 ^ 63 := by rw [hn]; exact Nat.or_lt_two_pow (Nat.and_lt_two_pow _ (by decide)) (by decide)
    have q : x.toInt = x.toBitVec.toNat := by
      show x.toBitVec.toInt = _
      rw [BitVec.toInt_eq_toNat_cond, if_pos (by omega)]
    omega
  have h2 := x.toInt_lt
  have d1 : (x / 64).toInt = x.toInt / 64 := by
    rw [Int64.toInt_div_of_ne_right _ _ (by decide), show (64 : Int64).toInt = 64 from rfl, Int.tdiv_eq_ediv_of_nonneg (by omega)]
  have d2 : (x / 64 / 16).toInt = x.toInt / 64 / 16 := by
    rw [Int64.toInt_div_of_ne_right _ _ (by decide), d1, show (16 : Int64).toInt = 16 from rfl, Int.tdiv_eq_ediv_of_nonneg (by omega)]
  rw [Int64.le_iff_toInt_le, d2, show (32 : Int64).toInt = 32 from rfl]
  omega
theorem own_sum (g w : Nat) (f : Nat → Nat) (hf : ∀ i, i ≠ g → f i = 16) (hg : f g = w) : ∀ n, ((List.range n).map f).sum + (if g < n then 16 else 0) = 16 * n + (if g < n then w else 0)
  | 0 => by simp
  | n + 1 => by
    have ih := own_sum g w f hf hg n
    rw [List.range_succ, List.map_append, List.sum_append]
    simp only [List.map_cons, List.map_nil, List.sum_cons, List.sum_nil]
    by_cases e : n = g
    · subst e; rw [hg]; simp at ih ⊢; omega
    · rw [hf n e]
      by_cases q : g < n
      · simp only [q, if_true, show g < n + 1 by omega] at ih ⊢; omega
      · simp only [q, if_false, show ¬ g < n + 1 by omega] at ih ⊢; omega
abbrev own_PT : String := "com/example/one_verdict/oneverdict/check/PlaceTable"
abbrev own_SG : String := "com/example/one_verdict/oneverdict/check/PlaceTable$Segment"
abbrev own_SD : String := "[Lcom/example/one_verdict/oneverdict/check/PlaceTable$Segment;"
abbrev own_TD : String := "Lcom/example/one_verdict/oneverdict/check/PlaceTable;"
theorem own_mapL {L : List Int64} {i : Nat} {x : Int64} (q : L[i]? = some x) : (L.map Value.long)[i]? = some (.long x) := by rw [List.getElem?_map, q]; rfl
theorem own_mltL {L : List Int64} {i : Nat} (q : i < L.length) : i < (L.map Value.long).length := by rw [List.length_map]; exact q
/-- entry i of T is free or holds the key -/
def own_H (T : List Int64) (key : Int64) (i : Nat) : Prop := ∃ x, T[i]? = some x ∧ (x = 0 ∨ x = key)
theorem own_H.dec (T : List Int64) (key : Int64) (i : Nat) : own_H T key i ∨ ¬ own_H T key i := Classical.em _
theorem own_at {T : List Int64} {i n : Nat} (hT : T.length = n) (hi : i < n) : ∃ x, T[i]? = some x ∧ (T.map Value.long)[i]? = some (.long x) := by
  subst hT
  exact ⟨T[i], List.getElem?_eq_getElem hi, by rw [List.getElem?_map, List.getElem?_eq_getElem hi]; rfl⟩
def own_nz : List Int64 → Nat
  | [] => 0
  | x :: r => own_nz r + (if x = 0 then 0 else 1)
theorem own_nz_set (x : Int64) : ∀ (G : List Int64) (i : Nat), own_nz (G.set i x) ≤ own_nz G + 1
  | [], _ => by simp [own_nz]
  | y :: r, 0 => by simp only [List.set, own_nz]; split <;> split <;> omega
  | y :: r, i + 1 => by have := own_nz_set x r i; simp only [List.set, own_nz]; omega
theorem own_nz_free : ∀ G : List Int64, own_nz G < G.length → ∃ i, i < G.length ∧ G[i]? = some 0
  | [], h => by simp [own_nz] at h
  | y :: r, h => by
    by_cases e : y = 0
    · exact ⟨0, by simp, by rw [e]; rfl⟩
    · simp only [own_nz, e, if_false, List.length_cons] at h
      obtain ⟨i, h1, h2⟩ := own_nz_free r (by omega)
      exact ⟨i + 1, by simp; omega, by simpa using h2⟩
theorem own_nz_rep : ∀ n, own_nz (List.replicate n 0) = 0
  | 0 => rfl
  | n + 1 => by simp [List.replicate, own_nz, own_nz_rep n]
theorem own_find {T : List Int64} {j : Nat} (key : Int64) (hT : T.length = 2 ^ j) (hf : own_nz T < 2 ^ j) : ∃ d0, own_H T key ((key.toBitVec.toNat % 2 ^ j + d0) % 2 ^ j) ∧ ∀ d, d < d0 → ¬ own_H T key ((key.toBitVec.toNat % 2 ^ j + d) % 2 ^ j) := by
  have pp : 0 < 2 ^ j := Nat.two_pow_pos j
  obtain ⟨F, f1, f2⟩ := own_nz_free T (by omega)
  have hS := Nat.mod_lt key.toBitVec.toNat pp
  obtain ⟨d0, -, q1, q2⟩ := own_least (p := fun d => own_H T key ((key.toBitVec.toNat % 2 ^ j + d) % 2 ^ j)) (fun d => own_H.dec _ _ _) (2 ^ j) ⟨(F + 2 ^ j - key.toBitVec.toNat % 2 ^ j) % 2 ^ j, Nat.mod_lt _ pp, by
    show own_H T key ((key.toBitVec.toNat % 2 ^ j + (F + 2 ^ j - key.toBitVec.toNat % 2 ^ j) % 2 ^ j) % 2 ^ j)
    rw [Nat.add_mod_mod, show key.toBitVec.toNat % 2 ^ j + (F + 2 ^ j - key.toBitVec.toNat % 2 ^ j) = F + 2 ^ j by omega, Nat.add_mod_right, Nat.mod_eq_of_lt (by omega)]
    exact ⟨0, f2, Or.inl rfl⟩⟩
  exact ⟨d0, q1, q2⟩
theorem own_decr {a b : Nat} (h : b ≤ a) (ha : a < 2 ^ 31) : Int32.ofNat a + (-Int32.ofNat b) = Int32.ofNat (a - b) := by
  rw [← Int32.sub_eq_add_neg]; exact own_sub h ha
theorem own_mm (s : Int64) : ∃ X : Nat, 16 ≤ X ∧ X ≤ 2 ^ 30 ∧ (if (if (16 : Int64) < s then s else 16) < (1073741824 : Int64) then (if (16 : Int64) < s then s else 16) else 1073741824) = Int64.ofNat X ∧ ((32 : Int64) ≤ s → 32 ≤ X) := by
  have ofI : ∀ z : Int64, (0 : Int) ≤ z.toInt → z = Int64.ofNat z.toInt.toNat := fun z hz => by
    apply Int64.toInt_inj.mp
    rw [Int64.toInt_ofNat_of_lt (by have := z.toInt_lt; omega)]; omega
  have e16 : (16 : Int64).toInt = 16 := rfl
  have e30 : (1073741824 : Int64).toInt = 1073741824 := rfl
  have e32 : (32 : Int64).toInt = 32 := rfl
  by_cases h1 : (16 : Int64) < s
  · rw [if_pos h1]
    by_cases h2 : s < (1073741824 : Int64)
    · rw [if_pos h2]
      rw [Int64.lt_iff_toInt_lt] at h1 h2
      exact ⟨s.toInt.toNat, by omega, by omega, ofI s (by omega), fun q => by rw [Int64.le_iff_toInt_le] at q; omega⟩
    · rw [if_neg h2]
      exact ⟨1073741824, by decide, by decide, rfl, fun _ => by decide⟩
  · rw [if_neg h1, if_pos (by decide)]
    exact ⟨16, by decide, by decide, rfl, fun q => by rw [Int64.le_iff_toInt_le] at q; rw [Int64.lt_iff_toInt_lt] at h1; omega⟩
/-- a segment -/
def own_Sg (Z : State) (h : Heap) (t s ka pa : Addr) (K : List Int64) (c : Int32) : Prop :=
  Exa Z h s own_SG ∧ Fld Z h s own_SG "this$0" own_TD (.ref t) ∧ Fld Z h s own_SG "keys" "[J" (.ref ka) ∧ Fld Z h s own_SG "places" "[J" (.ref pa) ∧ Fld Z h s own_SG "count" "I" (.int c) ∧ o_LA Z h ka K ∧ ∃ P, o_LA Z h pa P ∧ P.length = K.length
section Sg
variable {Z : State} {h h' : Heap} {t s ka pa : Addr} {K : List Int64} {c : Int32} {ws : List Addr}
theorem own_Sg.keep (S : own_Sg Z h t s ka pa K c) (X : Keep h h' ws) (q1 : s ∉ ws) (q2 : ka ∉ ws) (q3 : pa ∉ ws) : own_Sg Z h' t s ka pa K c := by
  obtain ⟨E, F1, F2, F3, F4, A, P, B, e⟩ := S
  exact ⟨E.keep X, F1.keep X q1, F2.keep X q1, F3.keep X q1, F4.keep X q1, A.keep X q2, P, B.keep X q3, e⟩
theorem own_Sg.mo (S : own_Sg Z h t s ka pa K c) (M : o_Mo h h' s) (q2 : ka ≠ s) (q3 : pa ≠ s) : own_Sg Z h' t s ka pa K c := by
  obtain ⟨E, F1, F2, F3, F4, A, P, B, e⟩ := S
  exact ⟨E.mon M.1, F1.mon M.1, F2.mon M.1, F3.mon M.1, F4.mon M.1, A.keep M.keep (by simpa using q2), P, B.keep M.keep (by simpa using q3), e⟩
end Sg
theorem pn0 : plainFor Jvm.Pilot.@@N@@.x = true := by first | exact plainFor_of_name (by first | (simp [x, plainName, overriddenIn]; done) | decide +kernel) | decide +kernel
theorem d1_0 : decode prog_19_method_1_code 0 = .ok (.aload_n 0, 1) := by decide +kernel
theorem d1_1 : decode prog_19_method_1_code 1 = .ok (.invokespecial 3, 3) := by decide +kernel
theorem d1_4 : decode prog_19_method_1_code 4 = .ok (.aload_n 0, 1) := by decide +kernel
theorem d1_5 : decode prog_19_method_1_code 5 = .ok (.bipush 64, 2) := by decide +kernel
theorem d1_7 : decode prog_19_method_1_code 7 = .ok (.anewarray 11, 3) := by decide +kernel
theorem d1_10 : decode prog_19_method_1_code 10 = .ok (.putfield 13, 3) := by decide +kernel
theorem d1_13 : decode prog_19_method_1_code 13 = .ok (.lload_n 1, 1) := by decide +kernel
theorem d1_14 : decode prog_19_method_1_code 14 = .ok (.aload_n 0, 1) := by decide +kernel
theorem d1_15 : decode prog_19_method_1_code 15 = .ok (.getfield 13, 3) := by decide +kernel
theorem d1_18 : decode prog_19_method_1_code 18 = .ok (.arraylength, 1) := by decide +kernel
theorem d1_19 : decode prog_19_method_1_code 19 = .ok (.i2l, 1) := by decide +kernel
theorem d1_20 : decode prog_19_method_1_code 20 = .ok (.ldiv, 1) := by decide +kernel
theorem d1_21 : decode prog_19_method_1_code 21 = .ok (.ldc2_w 17, 3) := by decide +kernel
theorem d1_24 : decode prog_19_method_1_code 24 = .ok (.ldiv, 1) := by decide +kernel
theorem d1_25 : decode prog_19_method_1_code 25 = .ok (.lstore_n 3, 1) := by decide +kernel
theorem d1_26 : decode prog_19_method_1_code 26 = .ok (.aload_n 0, 1) := by decide +kernel
theorem d1_27 : decode prog_19_method_1_code 27 = .ok (.ldc2_w 19, 3) := by decide +kernel
theorem d1_30 : decode prog_19_method_1_code 30 = .ok (.ldc2_w 17, 3) := by decide +kernel
theorem d1_33 : decode prog_19_method_1_code 33 = .ok (.lload_n 3, 1) := by decide +kernel
theorem d1_34 : decode prog_19_method_1_code 34 = .ok (.invokestatic 23, 3) := by decide +kernel
theorem d1_37 : decode prog_19_method_1_code 37 = .ok (.invokestatic 29, 3) := by decide +kernel
theorem d1_40 : decode prog_19_method_1_code 40 = .ok (.l2i, 1) := by decide +kernel
theorem d1_41 : decode prog_19_method_1_code 41 = .ok (.invokestatic 32, 3) := by decide +kernel
theorem d1_44 : decode prog_19_method_1_code 44 = .ok (.putfield 38, 3) := by decide +kernel
theorem d1_47 : decode prog_19_method_1_code 47 = .ok (.iconst 0, 1) := by decide +kernel
theorem d1_48 : decode prog_19_method_1_code 48 = .ok (.istore 5, 2) := by decide +kernel
theorem d1_50 : decode prog_19_method_1_code 50 = .ok (.iload 5, 2) := by decide +kernel
theorem d1_52 : decode prog_19_method_1_code 52 = .ok (.aload_n 0, 1) := by decide +kernel
theorem d1_53 : decode prog_19_method_1_code 53 = .ok (.getfield 13, 3) := by decide +kernel
theorem d1_56 : decode prog_19_method_1_code 56 = .ok (.arraylength, 1) := by decide +kernel
theorem d1_57 : decode prog_19_method_1_code 57 = .ok (.if_icmp .ge 24, 3) := by decide +kernel
theorem d1_60 : decode prog_19_method_1_code 60 = .ok (.aload_n 0, 1) := by decide +kernel
theorem d1_61 : decode prog_19_method_1_code 61 = .ok (.getfield 13, 3) := by decide +kernel
theorem d1_64 : decode prog_19_method_1_code 64 = .ok (.iload 5, 2) := by decide +kernel
theorem d1_66 : decode prog_19_method_1_code 66 = .ok (.new 11, 3) := by decide +kernel
theorem d1_69 : decode prog_19_method_1_code 69 = .ok (.dup, 1) := by decide +kernel
theorem d1_70 : decode prog_19_method_1_code 70 = .ok (.aload_n 0, 1) := by decide +kernel
theorem d1_71 : decode prog_19_method_1_code 71 = .ok (.invokespecial 42, 3) := by decide +kernel
theorem d1_74 : decode prog_19_method_1_code 74 = .ok (.aastore, 1) := by decide +kernel
theorem d1_75 : decode prog_19_method_1_code 75 = .ok (.iinc 5 1, 3) := by decide +kernel
theorem d1_78 : decode prog_19_method_1_code 78 = .ok (.goto (-28), 3) := by decide +kernel
theorem d1_81 : decode prog_19_method_1_code 81 = .ok (.return_, 1) := by decide +kernel
abbrev oy1 : MethodName := ⟨"com/example/one_verdict/oneverdict/check/PlaceTable", "<init>", "(J)V"⟩
theorem pn1 : plainFor oy1 = true := by first | exact plainFor_of_name (by first | (simp [plainName, overriddenIn]; done) | decide +kernel) | decide +kernel
theorem pd1 : parseMethodDescriptor oy1.desc = some ⟨[.long], none⟩ := by decide +kernel
theorem d3_0 : decode jdk_29_method_66_code 0 = .ok (.lload_n 0, 1) := by decide +kernel
theorem d3_1 : decode jdk_29_method_66_code 1 = .ok (.lload_n 2, 1) := by decide +kernel
theorem d3_2 : decode jdk_29_method_66_code 2 = .ok (.lcmp, 1) := by decide +kernel
theorem d3_3 : decode jdk_29_method_66_code 3 = .ok (.ifCond .lt 7, 3) := by decide +kernel
theorem d3_6 : decode jdk_29_method_66_code 6 = .ok (.lload_n 0, 1) := by decide +kernel
theorem d3_7 : decode jdk_29_method_66_code 7 = .ok (.goto 4, 3) := by decide +kernel
theorem d3_10 : decode jdk_29_method_66_code 10 = .ok (.lload_n 2, 1) := by decide +kernel
theorem d3_11 : decode jdk_29_method_66_code 11 = .ok (.lreturn, 1) := by decide +kernel
abbrev oy3 : MethodName := ⟨"java/lang/Math", "max", "(JJ)J"⟩
theorem pn3 : plainFor oy3 = true := by first | exact plainFor_of_name (by first | (simp [plainName, overriddenIn]; done) | decide +kernel) | decide +kernel
theorem pd3 : parseMethodDescriptor oy3.desc = some ⟨[.long, .long], some .long⟩ := by decide +kernel
theorem d4_0 : decode jdk_29_method_70_code 0 = .ok (.lload_n 0, 1) := by decide +kernel
theorem d4_1 : decode jdk_29_method_70_code 1 = .ok (.lload_n 2, 1) := by decide +kernel
theorem d4_2 : decode jdk_29_method_70_code 2 = .ok (.lcmp, 1) := by decide +kernel
theorem d4_3 : decode jdk_29_method_70_code 3 = .ok (.ifCond .gt 7, 3) := by decide +kernel
theorem d4_6 : decode jdk_29_method_70_code 6 = .ok (.lload_n 0, 1) := by decide +kernel
theorem d4_7 : decode jdk_29_method_70_code 7 = .ok (.goto 4, 3) := by decide +kernel
theorem d4_10 : decode jdk_29_method_70_code 10 = .ok (.lload_n 2, 1) := by decide +kernel
theorem d4_11 : decode jdk_29_method_70_code 11 = .ok (.lreturn, 1) := by decide +kernel
abbrev oy4 : MethodName := ⟨"java/lang/Math", "min", "(JJ)J"⟩
theorem pn4 : plainFor oy4 = true := by first | exact plainFor_of_name (by first | (simp [plainName, overriddenIn]; done) | decide +kernel) | decide +kernel
theorem pd4 : parseMethodDescriptor oy4.desc = some ⟨[.long, .long], some .long⟩ := by decide +kernel
theorem d5_0 : decode jdk_33_method_45_code 0 = .ok (.iload_n 0, 1) := by decide +kernel
theorem d5_1 : decode jdk_33_method_45_code 1 = .ok (.ldc 127, 2) := by decide +kernel
theorem d5_3 : decode jdk_33_method_45_code 3 = .ok (.iload_n 0, 1) := by decide +kernel
theorem d5_4 : decode jdk_33_method_45_code 4 = .ok (.invokestatic 51, 3) := by decide +kernel
theorem d5_7 : decode jdk_33_method_45_code 7 = .ok (.iushr, 1) := by decide +kernel
theorem d5_8 : decode jdk_33_method_45_code 8 = .ok (.iand, 1) := by decide +kernel
theorem d5_9 : decode jdk_33_method_45_code 9 = .ok (.ireturn, 1) := by decide +kernel
abbrev oy5 : MethodName := ⟨"java/lang/Integer", "highestOneBit", "(I)I"⟩
theorem pn5 : plainFor oy5 = true := by first | exact plainFor_of_name (by first | (simp [plainName, overriddenIn]; done) | decide +kernel) | decide +kernel
theorem pd5 : parseMethodDescriptor oy5.desc = some ⟨[.int], some .int⟩ := by decide +kernel
theorem d6_0 : decode jdk_33_method_47_code 0 = .ok (.iload_n 0, 1) := by decide +kernel
theorem d6_1 : decode jdk_33_method_47_code 1 = .ok (.ifCond .gt 14, 3) := by decide +kernel
theorem d6_4 : decode jdk_33_method_47_code 4 = .ok (.iload_n 0, 1) := by decide +kernel
theorem d6_5 : decode jdk_33_method_47_code 5 = .ok (.ifCond .ne 8, 3) := by decide +kernel
theorem d6_8 : decode jdk_33_method_47_code 8 = .ok (.bipush 32, 2) := by decide +kernel
theorem d6_10 : decode jdk_33_method_47_code 10 = .ok (.goto 4, 3) := by decide +kernel
theorem d6_13 : decode jdk_33_method_47_code 13 = .ok (.iconst 0, 1) := by decide +kernel
theorem d6_14 : decode jdk_33_method_47_code 14 = .ok (.ireturn, 1) := by decide +kernel
theorem d6_15 : decode jdk_33_method_47_code 15 = .ok (.bipush 31, 2) := by decide +kernel
theorem d6_17 : decode jdk_33_method_47_code 17 = .ok (.istore_n 1, 1) := by decide +kernel
theorem d6_18 : decode jdk_33_method_47_code 18 = .ok (.iload_n 0, 1) := by decide +kernel
theorem d6_19 : decode jdk_33_method_47_code 19 = .ok (.ldc_w 264, 3) := by decide +kernel
theorem d6_22 : decode jdk_33_method_47_code 22 = .ok (.if_icmp .lt 11, 3) := by decide +kernel
theorem d6_25 : decode jdk_33_method_47_code 25 = .ok (.iinc 1 (-16), 3) := by decide +kernel
theorem d6_28 : decode jdk_33_method_47_code 28 = .ok (.iload_n 0, 1) := by decide +kernel
theorem d6_29 : decode jdk_33_method_47_code 29 = .ok (.bipush 16, 2) := by decide +kernel
theorem d6_31 : decode jdk_33_method_47_code 31 = .ok (.iushr, 1) := by decide +kernel
theorem d6_32 : decode jdk_33_method_47_code 32 = .ok (.istore_n 0, 1) := by decide +kernel
theorem d6_33 : decode jdk_33_method_47_code 33 = .ok (.iload_n 0, 1) := by decide +kernel
theorem d6_34 : decode jdk_33_method_47_code 34 = .ok (.sipush 256, 3) := by decide +kernel
theorem d6_37 : decode jdk_33_method_47_code 37 = .ok (.if_icmp .lt 11, 3) := by decide +kernel
theorem d6_40 : decode jdk_33_method_47_code 40 = .ok (.iinc 1 (-8), 3) := by decide +kernel
theorem d6_43 : decode jdk_33_method_47_code 43 = .ok (.iload_n 0, 1) := by decide +kernel
theorem d6_44 : decode jdk_33_method_47_code 44 = .ok (.bipush 8, 2) := by decide +kernel
theorem d6_46 : decode jdk_33_method_47_code 46 = .ok (.iushr, 1) := by decide +kernel
theorem d6_47 : decode jdk_33_method_47_code 47 = .ok (.istore_n 0, 1) := by decide +kernel
theorem d6_48 : decode jdk_33_method_47_code 48 = .ok (.iload_n 0, 1) := by decide +kernel
theorem d6_49 : decode jdk_33_method_47_code 49 = .ok (.bipush 16, 2) := by decide +kernel
theorem d6_51 : decode jdk_33_method_47_code 51 = .ok (.if_icmp .lt 10, 3) := by decide +kernel
theorem d6_54 : decode jdk_33_method_47_code 54 = .ok (.iinc 1 (-4), 3) := by decide +kernel
theorem d6_57 : decode jdk_33_method_47_code 57 = .ok (.iload_n 0, 1) := by decide +kernel
theorem d6_58 : decode jdk_33_method_47_code 58 = .ok (.iconst 4, 1) := by decide +kernel
theorem d6_59 : decode jdk_33_method_47_code 59 = .ok (.iushr, 1) := by decide +kernel
theorem d6_60 : decode jdk_33_method_47_code 60 = .ok (.istore_n 0, 1) := by decide +kernel
theorem d6_61 : decode jdk_33_method_47_code 61 = .ok (.iload_n 0, 1) := by decide +kernel
theorem d6_62 : decode jdk_33_method_47_code 62 = .ok (.iconst 4, 1) := by decide +kernel
theorem d6_63 : decode jdk_33_method_47_code 63 = .ok (.if_icmp .lt 10, 3) := by decide +kernel
theorem d6_66 : decode jdk_33_method_47_code 66 = .ok (.iinc 1 (-2), 3) := by decide +kernel
theorem d6_69 : decode jdk_33_method_47_code 69 = .ok (.iload_n 0, 1) := by decide +kernel
theorem d6_70 : decode jdk_33_method_47_code 70 = .ok (.iconst 2, 1) := by decide +kernel
theorem d6_71 : decode jdk_33_method_47_code 71 = .ok (.iushr, 1) := by decide +kernel
theorem d6_72 : decode jdk_33_method_47_code 72 = .ok (.istore_n 0, 1) := by decide +kernel
theorem d6_73 : decode jdk_33_method_47_code 73 = .ok (.iload_n 1, 1) := by decide +kernel
theorem d6_74 : decode jdk_33_method_47_code 74 = .ok (.iload_n 0, 1) := by decide +kernel
theorem d6_75 : decode jdk_33_method_47_code 75 = .ok (.iconst 1, 1) := by decide +kernel
theorem d6_76 : decode jdk_33_method_47_code 76 = .ok (.iushr, 1) := by decide +kernel
theorem d6_77 : decode jdk_33_method_47_code 77 = .ok (.isub, 1) := by decide +kernel
theorem d6_78 : decode jdk_33_method_47_code 78 = .ok (.ireturn, 1) := by decide +kernel
abbrev oy6 : MethodName := ⟨"java/lang/Integer", "numberOfLeadingZeros", "(I)I"⟩
theorem pn6 : plainFor oy6 = true := by first | exact plainFor_of_name (by first | (simp [plainName, overriddenIn]; done) | decide +kernel) | decide +kernel
theorem pd6 : parseMethodDescriptor oy6.desc = some ⟨[.int], some .int⟩ := by decide +kernel
theorem d7_0 : decode prog_21_method_1_code 0 = .ok (.aload_n 0, 1) := by decide +kernel
theorem d7_1 : decode prog_21_method_1_code 1 = .ok (.aload_n 1, 1) := by decide +kernel
theorem d7_2 : decode prog_21_method_1_code 2 = .ok (.putfield 1, 3) := by decide +kernel
theorem d7_5 : decode prog_21_method_1_code 5 = .ok (.aload_n 0, 1) := by decide +kernel
theorem d7_6 : decode prog_21_method_1_code 6 = .ok (.invokespecial 7, 3) := by decide +kernel
theorem d7_9 : decode prog_21_method_1_code 9 = .ok (.aload_n 0, 1) := by decide +kernel
theorem d7_10 : decode prog_21_method_1_code 10 = .ok (.bipush 16, 2) := by decide +kernel
theorem d7_12 : decode prog_21_method_1_code 12 = .ok (.newarray .long, 2) := by decide +kernel
theorem d7_14 : decode prog_21_method_1_code 14 = .ok (.putfield 15, 3) := by decide +kernel
theorem d7_17 : decode prog_21_method_1_code 17 = .ok (.aload_n 0, 1) := by decide +kernel
theorem d7_18 : decode prog_21_method_1_code 18 = .ok (.bipush 16, 2) := by decide +kernel
theorem d7_20 : decode prog_21_method_1_code 20 = .ok (.newarray .long, 2) := by decide +kernel
theorem d7_22 : decode prog_21_method_1_code 22 = .ok (.putfield 19, 3) := by decide +kernel
theorem d7_25 : decode prog_21_method_1_code 25 = .ok (.return_, 1) := by decide +kernel
abbrev oy7 : MethodName := ⟨"com/example/one_verdict/oneverdict/check/PlaceTable$Segment", "<init>", "(Lcom/example/one_verdict/oneverdict/check/PlaceTable;)V"⟩
theorem pn7 : plainFor oy7 = true := by first | exact plainFor_of_name (by first | (simp [plainName, overriddenIn]; done) | decide +kernel) | decide +kernel
theorem pd7 : parseMethodDescriptor oy7.desc = some ⟨[(.object "com/example/one_verdict/oneverdict/check/PlaceTable")], none⟩ := by decide +kernel
theorem d8_0 : decode prog_19_method_9_code 0 = .ok (.lconst 0, 1) := by decide +kernel
theorem d8_1 : decode prog_19_method_9_code 1 = .ok (.lstore_n 1, 1) := by decide +kernel
theorem d8_2 : decode prog_19_method_9_code 2 = .ok (.aload_n 0, 1) := by decide +kernel
theorem d8_3 : decode prog_19_method_9_code 3 = .ok (.getfield 13, 3) := by decide +kernel
theorem d8_6 : decode prog_19_method_9_code 6 = .ok (.astore_n 3, 1) := by decide +kernel
theorem d8_7 : decode prog_19_method_9_code 7 = .ok (.aload_n 3, 1) := by decide +kernel
theorem d8_8 : decode prog_19_method_9_code 8 = .ok (.arraylength, 1) := by decide +kernel
theorem d8_9 : decode prog_19_method_9_code 9 = .ok (.istore 4, 2) := by decide +kernel
theorem d8_11 : decode prog_19_method_9_code 11 = .ok (.iconst 0, 1) := by decide +kernel
theorem d8_12 : decode prog_19_method_9_code 12 = .ok (.istore 5, 2) := by decide +kernel
theorem d8_14 : decode prog_19_method_9_code 14 = .ok (.iload 5, 2) := by decide +kernel
theorem d8_16 : decode prog_19_method_9_code 16 = .ok (.iload 4, 2) := by decide +kernel
theorem d8_18 : decode prog_19_method_9_code 18 = .ok (.if_icmp .ge 25, 3) := by decide +kernel
theorem d8_21 : decode prog_19_method_9_code 21 = .ok (.aload_n 3, 1) := by decide +kernel
theorem d8_22 : decode prog_19_method_9_code 22 = .ok (.iload 5, 2) := by decide +kernel
theorem d8_24 : decode prog_19_method_9_code 24 = .ok (.aaload, 1) := by decide +kernel
theorem d8_25 : decode prog_19_method_9_code 25 = .ok (.astore 6, 2) := by decide +kernel
theorem d8_27 : decode prog_19_method_9_code 27 = .ok (.lload_n 1, 1) := by decide +kernel
theorem d8_28 : decode prog_19_method_9_code 28 = .ok (.aload 6, 2) := by decide +kernel
theorem d8_30 : decode prog_19_method_9_code 30 = .ok (.getfield 53, 3) := by decide +kernel
theorem d8_33 : decode prog_19_method_9_code 33 = .ok (.arraylength, 1) := by decide +kernel
theorem d8_34 : decode prog_19_method_9_code 34 = .ok (.i2l, 1) := by decide +kernel
theorem d8_35 : decode prog_19_method_9_code 35 = .ok (.ladd, 1) := by decide +kernel
theorem d8_36 : decode prog_19_method_9_code 36 = .ok (.lstore_n 1, 1) := by decide +kernel
theorem d8_37 : decode prog_19_method_9_code 37 = .ok (.iinc 5 1, 3) := by decide +kernel
theorem d8_40 : decode prog_19_method_9_code 40 = .ok (.goto (-26), 3) := by decide +kernel
theorem d8_43 : decode prog_19_method_9_code 43 = .ok (.lload_n 1, 1) := by decide +kernel
theorem d8_44 : decode prog_19_method_9_code 44 = .ok (.lreturn, 1) := by decide +kernel
abbrev oy8 : MethodName := ⟨"com/example/one_verdict/oneverdict/check/PlaceTable", "slots", "()J"⟩
theorem pn8 : plainFor oy8 = true := by first | exact plainFor_of_name (by first | (simp [plainName, overriddenIn]; done) | decide +kernel) | decide +kernel
theorem pd8 : parseMethodDescriptor oy8.desc = some ⟨[], some .long⟩ := by decide +kernel
theorem d9_0 : decode prog_6_method_9_code 0 = .ok (.lload_n 0, 1) := by decide +kernel
theorem d9_1 : decode prog_6_method_9_code 1 = .ok (.lconst 0, 1) := by decide +kernel
theorem d9_2 : decode prog_6_method_9_code 2 = .ok (.lcmp, 1) := by decide +kernel
theorem d9_3 : decode prog_6_method_9_code 3 = .ok (.ifCond .ne 9, 3) := by decide +kernel
theorem d9_6 : decode prog_6_method_9_code 6 = .ok (.ldc2_w 108, 3) := by decide +kernel
theorem d9_9 : decode prog_6_method_9_code 9 = .ok (.goto 4, 3) := by decide +kernel
theorem d9_12 : decode prog_6_method_9_code 12 = .ok (.lload_n 0, 1) := by decide +kernel
theorem d9_13 : decode prog_6_method_9_code 13 = .ok (.lreturn, 1) := by decide +kernel
abbrev oy9 : MethodName := ⟨"com/example/one_verdict/oneverdict/check/FingerprintSet", "key", "(J)J"⟩
theorem pn9 : plainFor oy9 = true := by first | exact plainFor_of_name (by first | (simp [plainName, overriddenIn]; done) | decide +kernel) | decide +kernel
theorem pd9 : parseMethodDescriptor oy9.desc = some ⟨[.long], some .long⟩ := by decide +kernel
theorem d10_0 : decode prog_19_method_11_code 0 = .ok (.aload_n 0, 1) := by decide +kernel
theorem d10_1 : decode prog_19_method_11_code 1 = .ok (.getfield 13, 3) := by decide +kernel
theorem d10_4 : decode prog_19_method_11_code 4 = .ok (.lload_n 1, 1) := by decide +kernel
theorem d10_5 : decode prog_19_method_11_code 5 = .ok (.bipush 6, 2) := by decide +kernel
theorem d10_7 : decode prog_19_method_11_code 7 = .ok (.invokestatic 112, 3) := by decide +kernel
theorem d10_10 : decode prog_19_method_11_code 10 = .ok (.aaload, 1) := by decide +kernel
theorem d10_11 : decode prog_19_method_11_code 11 = .ok (.areturn, 1) := by decide +kernel
abbrev oy10 : MethodName := ⟨"com/example/one_verdict/oneverdict/check/PlaceTable", "segment", "(J)Lcom/example/one_verdict/oneverdict/check/PlaceTable$Segment;"⟩
theorem pn10 : plainFor oy10 = true := by first | exact plainFor_of_name (by first | (simp [plainName, overriddenIn]; done) | decide +kernel) | decide +kernel
theorem pd10 : parseMethodDescriptor oy10.desc = some ⟨[.long], some (.object "com/example/one_verdict/oneverdict/check/PlaceTable$Segment")⟩ := by decide +kernel
theorem d11_0 : decode prog_6_method_13_code 0 = .ok (.lload_n 0, 1) := by decide +kernel
theorem d11_1 : decode prog_6_method_13_code 1 = .ok (.ldc2_w 114, 3) := by decide +kernel
theorem d11_4 : decode prog_6_method_13_code 4 = .ok (.lxor, 1) := by decide +kernel
theorem d11_5 : decode prog_6_method_13_code 5 = .ok (.bipush 64, 2) := by decide +kernel
theorem d11_7 : decode prog_6_method_13_code 7 = .ok (.iload_n 2, 1) := by decide +kernel
theorem d11_8 : decode prog_6_method_13_code 8 = .ok (.isub, 1) := by decide +kernel
theorem d11_9 : decode prog_6_method_13_code 9 = .ok (.lushr, 1) := by decide +kernel
theorem d11_10 : decode prog_6_method_13_code 10 = .ok (.l2i, 1) := by decide +kernel
theorem d11_11 : decode prog_6_method_13_code 11 = .ok (.ireturn, 1) := by decide +kernel
abbrev oy11 : MethodName := ⟨"com/example/one_verdict/oneverdict/check/FingerprintSet", "segmentOf", "(JI)I"⟩
theorem pn11 : plainFor oy11 = true := by first | exact plainFor_of_name (by first | (simp [plainName, overriddenIn]; done) | decide +kernel) | decide +kernel
theorem pd11 : parseMethodDescriptor oy11.desc = some ⟨[.long, .int], some .int⟩ := by decide +kernel
theorem d12_0 : decode prog_6_method_10_code 0 = .ok (.aload_n 0, 1) := by decide +kernel
theorem d12_1 : decode prog_6_method_10_code 1 = .ok (.arraylength, 1) := by decide +kernel
theorem d12_2 : decode prog_6_method_10_code 2 = .ok (.iconst 1, 1) := by decide +kernel
theorem d12_3 : decode prog_6_method_10_code 3 = .ok (.isub, 1) := by decide +kernel
theorem d12_4 : decode prog_6_method_10_code 4 = .ok (.istore_n 3, 1) := by decide +kernel
theorem d12_5 : decode prog_6_method_10_code 5 = .ok (.lload_n 1, 1) := by decide +kernel
theorem d12_6 : decode prog_6_method_10_code 6 = .ok (.l2i, 1) := by decide +kernel
theorem d12_7 : decode prog_6_method_10_code 7 = .ok (.iload_n 3, 1) := by decide +kernel
theorem d12_8 : decode prog_6_method_10_code 8 = .ok (.iand, 1) := by decide +kernel
theorem d12_9 : decode prog_6_method_10_code 9 = .ok (.istore 4, 2) := by decide +kernel
theorem d12_11 : decode prog_6_method_10_code 11 = .ok (.aload_n 0, 1) := by decide +kernel
theorem d12_12 : decode prog_6_method_10_code 12 = .ok (.iload 4, 2) := by decide +kernel
theorem d12_14 : decode prog_6_method_10_code 14 = .ok (.laload, 1) := by decide +kernel
theorem d12_15 : decode prog_6_method_10_code 15 = .ok (.lconst 0, 1) := by decide +kernel
theorem d12_16 : decode prog_6_method_10_code 16 = .ok (.lcmp, 1) := by decide +kernel
theorem d12_17 : decode prog_6_method_10_code 17 = .ok (.ifCond .eq 23, 3) := by decide +kernel
theorem d12_20 : decode prog_6_method_10_code 20 = .ok (.aload_n 0, 1) := by decide +kernel
theorem d12_21 : decode prog_6_method_10_code 21 = .ok (.iload 4, 2) := by decide +kernel
theorem d12_23 : decode prog_6_method_10_code 23 = .ok (.laload, 1) := by decide +kernel
theorem d12_24 : decode prog_6_method_10_code 24 = .ok (.lload_n 1, 1) := by decide +kernel
theorem d12_25 : decode prog_6_method_10_code 25 = .ok (.lcmp, 1) := by decide +kernel
theorem d12_26 : decode prog_6_method_10_code 26 = .ok (.ifCond .eq 14, 3) := by decide +kernel
theorem d12_29 : decode prog_6_method_10_code 29 = .ok (.iload 4, 2) := by decide +kernel
theorem d12_31 : decode prog_6_method_10_code 31 = .ok (.iconst 1, 1) := by decide +kernel
theorem d12_32 : decode prog_6_method_10_code 32 = .ok (.iadd, 1) := by decide +kernel
theorem d12_33 : decode prog_6_method_10_code 33 = .ok (.iload_n 3, 1) := by decide +kernel
theorem d12_34 : decode prog_6_method_10_code 34 = .ok (.iand, 1) := by decide +kernel
theorem d12_35 : decode prog_6_method_10_code 35 = .ok (.istore 4, 2) := by decide +kernel
theorem d12_37 : decode prog_6_method_10_code 37 = .ok (.goto (-26), 3) := by decide +kernel
theorem d12_40 : decode prog_6_method_10_code 40 = .ok (.iload 4, 2) := by decide +kernel
theorem d12_42 : decode prog_6_method_10_code 42 = .ok (.ireturn, 1) := by decide +kernel
abbrev oy12 : MethodName := ⟨"com/example/one_verdict/oneverdict/check/FingerprintSet", "slot", "([JJ)I"⟩
theorem pn12 : plainFor oy12 = true := by first | exact plainFor_of_name (by first | (simp [plainName, overriddenIn]; done) | decide +kernel) | decide +kernel
theorem pd12 : parseMethodDescriptor oy12.desc = some ⟨[(.array .long), .long], some .int⟩ := by decide +kernel
theorem d13_0 : decode prog_21_method_2_code 0 = .ok (.aload_n 0, 1) := by decide +kernel
theorem d13_1 : decode prog_21_method_2_code 1 = .ok (.getfield 15, 3) := by decide +kernel
theorem d13_4 : decode prog_21_method_2_code 4 = .ok (.iload_n 1, 1) := by decide +kernel
theorem d13_5 : decode prog_21_method_2_code 5 = .ok (.lload_n 2, 1) := by decide +kernel
theorem d13_6 : decode prog_21_method_2_code 6 = .ok (.lastore, 1) := by decide +kernel
theorem d13_7 : decode prog_21_method_2_code 7 = .ok (.aload_n 0, 1) := by decide +kernel
theorem d13_8 : decode prog_21_method_2_code 8 = .ok (.getfield 19, 3) := by decide +kernel
theorem d13_11 : decode prog_21_method_2_code 11 = .ok (.iload_n 1, 1) := by decide +kernel
theorem d13_12 : decode prog_21_method_2_code 12 = .ok (.lload 4, 2) := by decide +kernel
theorem d13_14 : decode prog_21_method_2_code 14 = .ok (.lastore, 1) := by decide +kernel
theorem d13_15 : decode prog_21_method_2_code 15 = .ok (.aload_n 0, 1) := by decide +kernel
theorem d13_16 : decode prog_21_method_2_code 16 = .ok (.dup, 1) := by decide +kernel
theorem d13_17 : decode prog_21_method_2_code 17 = .ok (.getfield 22, 3) := by decide +kernel
theorem d13_20 : decode prog_21_method_2_code 20 = .ok (.iconst 1, 1) := by decide +kernel
theorem d13_21 : decode prog_21_method_2_code 21 = .ok (.iadd, 1) := by decide +kernel
theorem d13_22 : decode prog_21_method_2_code 22 = .ok (.putfield 22, 3) := by decide +kernel
theorem d13_25 : decode prog_21_method_2_code 25 = .ok (.aload_n 0, 1) := by decide +kernel
theorem d13_26 : decode prog_21_method_2_code 26 = .ok (.getfield 22, 3) := by decide +kernel
theorem d13_29 : decode prog_21_method_2_code 29 = .ok (.aload_n 0, 1) := by decide +kernel
theorem d13_30 : decode prog_21_method_2_code 30 = .ok (.getfield 15, 3) := by decide +kernel
theorem d13_33 : decode prog_21_method_2_code 33 = .ok (.arraylength, 1) := by decide +kernel
theorem d13_34 : decode prog_21_method_2_code 34 = .ok (.invokestatic 26, 3) := by decide +kernel
theorem d13_37 : decode prog_21_method_2_code 37 = .ok (.ifCond .eq 29, 3) := by decide +kernel
theorem d13_40 : decode prog_21_method_2_code 40 = .ok (.aload_n 0, 1) := by decide +kernel
theorem d13_41 : decode prog_21_method_2_code 41 = .ok (.getfield 15, 3) := by decide +kernel
theorem d13_44 : decode prog_21_method_2_code 44 = .ok (.arraylength, 1) := by decide +kernel
theorem d13_45 : decode prog_21_method_2_code 45 = .ok (.aload_n 0, 1) := by decide +kernel
theorem d13_46 : decode prog_21_method_2_code 46 = .ok (.getfield 1, 3) := by decide +kernel
theorem d13_49 : decode prog_21_method_2_code 49 = .ok (.getfield 30, 3) := by decide +kernel
theorem d13_52 : decode prog_21_method_2_code 52 = .ok (.if_icmp .ge 10, 3) := by decide +kernel
theorem d13_55 : decode prog_21_method_2_code 55 = .ok (.aload_n 0, 1) := by decide +kernel
theorem d13_56 : decode prog_21_method_2_code 56 = .ok (.invokevirtual 35, 3) := by decide +kernel
theorem d13_59 : decode prog_21_method_2_code 59 = .ok (.goto 7, 3) := by decide +kernel
theorem d13_62 : decode prog_21_method_2_code 62 = .ok (.aload_n 0, 1) := by decide +kernel
theorem d13_63 : decode prog_21_method_2_code 63 = .ok (.invokevirtual 38, 3) := by decide +kernel
theorem d13_66 : decode prog_21_method_2_code 66 = .ok (.return_, 1) := by decide +kernel
abbrev oy13 : MethodName := ⟨"com/example/one_verdict/oneverdict/check/PlaceTable$Segment", "put", "(IJJ)V"⟩
theorem pn13 : plainFor oy13 = true := by first | exact plainFor_of_name (by first | (simp [plainName, overriddenIn]; done) | decide +kernel) | decide +kernel
theorem pd13 : parseMethodDescriptor oy13.desc = some ⟨[.int, .long, .long], none⟩ := by decide +kernel
theorem d14_0 : decode prog_6_method_11_code 0 = .ok (.ldc2_w 110, 3) := by decide +kernel
theorem d14_3 : decode prog_6_method_11_code 3 = .ok (.iload_n 0, 1) := by decide +kernel
theorem d14_4 : decode prog_6_method_11_code 4 = .ok (.i2l, 1) := by decide +kernel
theorem d14_5 : decode prog_6_method_11_code 5 = .ok (.lmul, 1) := by decide +kernel
theorem d14_6 : decode prog_6_method_11_code 6 = .ok (.ldc2_w 112, 3) := by decide +kernel
theorem d14_9 : decode prog_6_method_11_code 9 = .ok (.iload_n 1, 1) := by decide +kernel
theorem d14_10 : decode prog_6_method_11_code 10 = .ok (.i2l, 1) := by decide +kernel
theorem d14_11 : decode prog_6_method_11_code 11 = .ok (.lmul, 1) := by decide +kernel
theorem d14_12 : decode prog_6_method_11_code 12 = .ok (.lcmp, 1) := by decide +kernel
theorem d14_13 : decode prog_6_method_11_code 13 = .ok (.ifCond .le 7, 3) := by decide +kernel
theorem d14_16 : decode prog_6_method_11_code 16 = .ok (.iconst 1, 1) := by decide +kernel
theorem d14_17 : decode prog_6_method_11_code 17 = .ok (.goto 4, 3) := by decide +kernel
theorem d14_20 : decode prog_6_method_11_code 20 = .ok (.iconst 0, 1) := by decide +kernel
theorem d14_21 : decode prog_6_method_11_code 21 = .ok (.ireturn, 1) := by decide +kernel
abbrev oy14 : MethodName := ⟨"com/example/one_verdict/oneverdict/check/FingerprintSet", "isCrowded", "(II)Z"⟩
theorem pn14 : plainFor oy14 = true := by first | exact plainFor_of_name (by first | (simp [plainName, overriddenIn]; done) | decide +kernel) | decide +kernel
theorem pd14 : parseMethodDescriptor oy14.desc = some ⟨[.int, .int], some .boolean⟩ := by decide +kernel
theorem d15_0 : decode prog_21_method_5_code 0 = .ok (.aload_n 0, 1) := by decide +kernel
theorem d15_1 : decode prog_21_method_5_code 1 = .ok (.getfield 15, 3) := by decide +kernel
theorem d15_4 : decode prog_21_method_5_code 4 = .ok (.astore_n 1, 1) := by decide +kernel
theorem d15_5 : decode prog_21_method_5_code 5 = .ok (.aload_n 0, 1) := by decide +kernel
theorem d15_6 : decode prog_21_method_5_code 6 = .ok (.getfield 19, 3) := by decide +kernel
theorem d15_9 : decode prog_21_method_5_code 9 = .ok (.astore_n 2, 1) := by decide +kernel
theorem d15_10 : decode prog_21_method_5_code 10 = .ok (.aload_n 0, 1) := by decide +kernel
theorem d15_11 : decode prog_21_method_5_code 11 = .ok (.iconst 2, 1) := by decide +kernel
theorem d15_12 : decode prog_21_method_5_code 12 = .ok (.aload_n 1, 1) := by decide +kernel
theorem d15_13 : decode prog_21_method_5_code 13 = .ok (.arraylength, 1) := by decide +kernel
theorem d15_14 : decode prog_21_method_5_code 14 = .ok (.imul, 1) := by decide +kernel
theorem d15_15 : decode prog_21_method_5_code 15 = .ok (.newarray .long, 2) := by decide +kernel
theorem d15_17 : decode prog_21_method_5_code 17 = .ok (.putfield 15, 3) := by decide +kernel
theorem d15_20 : decode prog_21_method_5_code 20 = .ok (.aload_n 0, 1) := by decide +kernel
theorem d15_21 : decode prog_21_method_5_code 21 = .ok (.aload_n 0, 1) := by decide +kernel
theorem d15_22 : decode prog_21_method_5_code 22 = .ok (.getfield 15, 3) := by decide +kernel
theorem d15_25 : decode prog_21_method_5_code 25 = .ok (.arraylength, 1) := by decide +kernel
theorem d15_26 : decode prog_21_method_5_code 26 = .ok (.newarray .long, 2) := by decide +kernel
theorem d15_28 : decode prog_21_method_5_code 28 = .ok (.putfield 19, 3) := by decide +kernel
theorem d15_31 : decode prog_21_method_5_code 31 = .ok (.iconst 0, 1) := by decide +kernel
theorem d15_32 : decode prog_21_method_5_code 32 = .ok (.istore_n 3, 1) := by decide +kernel
theorem d15_33 : decode prog_21_method_5_code 33 = .ok (.iload_n 3, 1) := by decide +kernel
theorem d15_34 : decode prog_21_method_5_code 34 = .ok (.aload_n 1, 1) := by decide +kernel
theorem d15_35 : decode prog_21_method_5_code 35 = .ok (.arraylength, 1) := by decide +kernel
theorem d15_36 : decode prog_21_method_5_code 36 = .ok (.if_icmp .ge 49, 3) := by decide +kernel
theorem d15_39 : decode prog_21_method_5_code 39 = .ok (.aload_n 1, 1) := by decide +kernel
theorem d15_40 : decode prog_21_method_5_code 40 = .ok (.iload_n 3, 1) := by decide +kernel
theorem d15_41 : decode prog_21_method_5_code 41 = .ok (.laload, 1) := by decide +kernel
theorem d15_42 : decode prog_21_method_5_code 42 = .ok (.lconst 0, 1) := by decide +kernel
theorem d15_43 : decode prog_21_method_5_code 43 = .ok (.lcmp, 1) := by decide +kernel
theorem d15_44 : decode prog_21_method_5_code 44 = .ok (.ifCond .eq 35, 3) := by decide +kernel
theorem d15_47 : decode prog_21_method_5_code 47 = .ok (.aload_n 0, 1) := by decide +kernel
theorem d15_48 : decode prog_21_method_5_code 48 = .ok (.getfield 15, 3) := by decide +kernel
theorem d15_51 : decode prog_21_method_5_code 51 = .ok (.aload_n 1, 1) := by decide +kernel
theorem d15_52 : decode prog_21_method_5_code 52 = .ok (.iload_n 3, 1) := by decide +kernel
theorem d15_53 : decode prog_21_method_5_code 53 = .ok (.laload, 1) := by decide +kernel
theorem d15_54 : decode prog_21_method_5_code 54 = .ok (.invokestatic 47, 3) := by decide +kernel
theorem d15_57 : decode prog_21_method_5_code 57 = .ok (.istore 4, 2) := by decide +kernel
theorem d15_59 : decode prog_21_method_5_code 59 = .ok (.aload_n 0, 1) := by decide +kernel
theorem d15_60 : decode prog_21_method_5_code 60 = .ok (.getfield 15, 3) := by decide +kernel
theorem d15_63 : decode prog_21_method_5_code 63 = .ok (.iload 4, 2) := by decide +kernel
theorem d15_65 : decode prog_21_method_5_code 65 = .ok (.aload_n 1, 1) := by decide +kernel
theorem d15_66 : decode prog_21_method_5_code 66 = .ok (.iload_n 3, 1) := by decide +kernel
theorem d15_67 : decode prog_21_method_5_code 67 = .ok (.laload, 1) := by decide +kernel
theorem d15_68 : decode prog_21_method_5_code 68 = .ok (.lastore, 1) := by decide +kernel
theorem d15_69 : decode prog_21_method_5_code 69 = .ok (.aload_n 0, 1) := by decide +kernel
theorem d15_70 : decode prog_21_method_5_code 70 = .ok (.getfield 19, 3) := by decide +kernel
theorem d15_73 : decode prog_21_method_5_code 73 = .ok (.iload 4, 2) := by decide +kernel
theorem d15_75 : decode prog_21_method_5_code 75 = .ok (.aload_n 2, 1) := by decide +kernel
theorem d15_76 : decode prog_21_method_5_code 76 = .ok (.iload_n 3, 1) := by decide +kernel
theorem d15_77 : decode prog_21_method_5_code 77 = .ok (.laload, 1) := by decide +kernel
theorem d15_78 : decode prog_21_method_5_code 78 = .ok (.lastore, 1) := by decide +kernel
theorem d15_79 : decode prog_21_method_5_code 79 = .ok (.iinc 3 1, 3) := by decide +kernel
theorem d15_82 : decode prog_21_method_5_code 82 = .ok (.goto (-49), 3) := by decide +kernel
theorem d15_85 : decode prog_21_method_5_code 85 = .ok (.return_, 1) := by decide +kernel
abbrev oy15 : MethodName := ⟨"com/example/one_verdict/oneverdict/check/PlaceTable$Segment", "grow", "()V"⟩
theorem pn15 : plainFor oy15 = true := by first | exact plainFor_of_name (by first | (simp [plainName, overriddenIn]; done) | decide +kernel) | decide +kernel
theorem pd15 : parseMethodDescriptor oy15.desc = some ⟨[], none⟩ := by decide +kernel
theorem d16_0 : decode prog_19_method_3_code 0 = .ok (.lload_n 1, 1) := by decide +kernel
theorem d16_1 : decode prog_19_method_3_code 1 = .ok (.invokestatic 45, 3) := by decide +kernel
theorem d16_4 : decode prog_19_method_3_code 4 = .ok (.lstore 5, 2) := by decide +kernel
theorem d16_6 : decode prog_19_method_3_code 6 = .ok (.aload_n 0, 1) := by decide +kernel
theorem d16_7 : decode prog_19_method_3_code 7 = .ok (.lload 5, 2) := by decide +kernel
theorem d16_9 : decode prog_19_method_3_code 9 = .ok (.invokevirtual 49, 3) := by decide +kernel
theorem d16_12 : decode prog_19_method_3_code 12 = .ok (.astore 7, 2) := by decide +kernel
theorem d16_14 : decode prog_19_method_3_code 14 = .ok (.aload 7, 2) := by decide +kernel
theorem d16_16 : decode prog_19_method_3_code 16 = .ok (.dup, 1) := by decide +kernel
theorem d16_17 : decode prog_19_method_3_code 17 = .ok (.astore 8, 2) := by decide +kernel
theorem d16_19 : decode prog_19_method_3_code 19 = .ok (.monitorenter, 1) := by decide +kernel
theorem d16_20 : decode prog_19_method_3_code 20 = .ok (.aload 7, 2) := by decide +kernel
theorem d16_22 : decode prog_19_method_3_code 22 = .ok (.getfield 53, 3) := by decide +kernel
theorem d16_25 : decode prog_19_method_3_code 25 = .ok (.lload 5, 2) := by decide +kernel
theorem d16_27 : decode prog_19_method_3_code 27 = .ok (.invokestatic 57, 3) := by decide +kernel
theorem d16_30 : decode prog_19_method_3_code 30 = .ok (.istore 9, 2) := by decide +kernel
theorem d16_32 : decode prog_19_method_3_code 32 = .ok (.ldc2_w 64, 3) := by decide +kernel
theorem d16_35 : decode prog_19_method_3_code 35 = .ok (.lstore 10, 2) := by decide +kernel
theorem d16_37 : decode prog_19_method_3_code 37 = .ok (.aload 7, 2) := by decide +kernel
theorem d16_39 : decode prog_19_method_3_code 39 = .ok (.getfield 53, 3) := by decide +kernel
theorem d16_42 : decode prog_19_method_3_code 42 = .ok (.iload 9, 2) := by decide +kernel
theorem d16_44 : decode prog_19_method_3_code 44 = .ok (.laload, 1) := by decide +kernel
theorem d16_45 : decode prog_19_method_3_code 45 = .ok (.lload 5, 2) := by decide +kernel
theorem d16_47 : decode prog_19_method_3_code 47 = .ok (.lcmp, 1) := by decide +kernel
theorem d16_48 : decode prog_19_method_3_code 48 = .ok (.ifCond .ne 16, 3) := by decide +kernel
theorem d16_51 : decode prog_19_method_3_code 51 = .ok (.aload 7, 2) := by decide +kernel
theorem d16_53 : decode prog_19_method_3_code 53 = .ok (.getfield 61, 3) := by decide +kernel
theorem d16_56 : decode prog_19_method_3_code 56 = .ok (.iload 9, 2) := by decide +kernel
theorem d16_58 : decode prog_19_method_3_code 58 = .ok (.laload, 1) := by decide +kernel
theorem d16_59 : decode prog_19_method_3_code 59 = .ok (.lstore 10, 2) := by decide +kernel
theorem d16_61 : decode prog_19_method_3_code 61 = .ok (.goto 13, 3) := by decide +kernel
theorem d16_64 : decode prog_19_method_3_code 64 = .ok (.aload 7, 2) := by decide +kernel
theorem d16_66 : decode prog_19_method_3_code 66 = .ok (.iload 9, 2) := by decide +kernel
theorem d16_68 : decode prog_19_method_3_code 68 = .ok (.lload 5, 2) := by decide +kernel
theorem d16_70 : decode prog_19_method_3_code 70 = .ok (.lload_n 3, 1) := by decide +kernel
theorem d16_71 : decode prog_19_method_3_code 71 = .ok (.invokevirtual 66, 3) := by decide +kernel
theorem d16_74 : decode prog_19_method_3_code 74 = .ok (.lload 10, 2) := by decide +kernel
theorem d16_76 : decode prog_19_method_3_code 76 = .ok (.aload 8, 2) := by decide +kernel
theorem d16_78 : decode prog_19_method_3_code 78 = .ok (.monitorexit, 1) := by decide +kernel
theorem d16_79 : decode prog_19_method_3_code 79 = .ok (.lreturn, 1) := by decide +kernel
abbrev oy16 : MethodName := ⟨"com/example/one_verdict/oneverdict/check/PlaceTable", "reach", "(JJ)J"⟩
theorem pn16 : plainFor oy16 = true := by first | exact plainFor_of_name (by first | (simp [plainName, overriddenIn]; done) | decide +kernel) | decide +kernel
theorem pd16 : parseMethodDescriptor oy16.desc = some ⟨[.long, .long], some .long⟩ := by decide +kernel
abbrev orm3 : Room := { frames := 0, cells := 0, slots := 0, locals := 0 }
abbrev orm4 : Room := { frames := 0, cells := 0, slots := 0, locals := 0 }
abbrev orm6 : Room := { frames := 0, cells := 0, slots := 0, locals := 0 }
abbrev orm8 : Room := { frames := 0, cells := 0, slots := 0, locals := 0 }
abbrev orm9 : Room := { frames := 0, cells := 0, slots := 0, locals := 0 }
abbrev orm11 : Room := { frames := 0, cells := 0, slots := 0, locals := 0 }
abbrev orm12 : Room := { frames := 0, cells := 0, slots := 0, locals := 0 }
abbrev orm14 : Room := { frames := 0, cells := 0, slots := 0, locals := 0 }
abbrev orm5 : Room := { frames := 1, cells := 0, slots := 0, locals := 15 }
abbrev orm7 : Room := { frames := 1, cells := 2, slots := 32, locals := 12 }
abbrev orm10 : Room := { frames := 1, cells := 0, slots := 0, locals := 15 }
abbrev orm15 : Room := { frames := 1, cells := 2, slots := 64, locals := 16 }
abbrev orm13 : Room := { frames := 2, cells := 2, slots := 64, locals := 32 }
abbrev orm16 : Room := { frames := 3, cells := 2, slots := 64, locals := 51 }
abbrev orm1 : Room := { frames := 2, cells := 193, slots := 2368, locals := 28 }
set_option maxRecDepth 65536 in
set_option maxHeartbeats 40000000 in
theorem oc3 (l : Launch) (Z : State) (a0 : Array Value) (hw : ∀ d ∈ tables_1, d.before a0 Z = true) (n0 : Nat) (h : Heap) (a b : Int64) : o_C l Z n0 oy3 jdk_29_method_66_code 4 (some .long) orm3 [(.long a), (.long b)] h (fun v h' => v = some (.long (if a < b then b else a)) ∧ h' = h) := by
  refine o_body (Ls := [.val (.long a), .second, .val (.long b), .second]) pn3 (by first | (simp [argsToLocals, Value.category]; done) | rfl) (fun κ B => ?_)
  refine o_lloadN (pc := 0) B d3_0 rfl ?_
  refine o_lloadN (pc := 1) B d3_1 rfl ?_
  refine o_lcmp (pc := 2) B d3_2 ?_
  refine o_lif_lt (pc := 3) (pc' := 10) B d3_3 (by decide) (by decide) (fun hc3 => ?_) (fun hc3 => ?_)
  · refine o_lloadN (pc := 10) B d3_10 rfl ?_
    exact o_lreturn (pc := 11) B d3_11 (by decide) (by decide) (⟨by rw [if_pos hc3], rfl⟩)
  refine o_lloadN (pc := 6) B d3_6 rfl ?_
  refine o_goto (pc := 7) (pc' := 11) B d3_7 (by decide) (by decide) ?_
  exact o_lreturn (pc := 11) B d3_11 (by decide) (by decide) (⟨by rw [if_neg hc3], rfl⟩)
set_option maxRecDepth 65536 in
set_option maxHeartbeats 40000000 in
theorem oc4 (l : Launch) (Z : State) (a0 : Array Value) (hw : ∀ d ∈ tables_1, d.before a0 Z = true) (n0 : Nat) (h : Heap) (a b : Int64) : o_C l Z n0 oy4 jdk_29_method_70_code 4 (some .long) orm4 [(.long a), (.long b)] h (fun v h' => v = some (.long (if b < a then b else a)) ∧ h' = h) := by
  refine o_body (Ls := [.val (.long a), .second, .val (.long b), .second]) pn4 (by first | (simp [argsToLocals, Value.category]; done) | rfl) (fun κ B => ?_)
  refine o_lloadN (pc := 0) B d4_0 rfl ?_
  refine o_lloadN (pc := 1) B d4_1 rfl ?_
  refine o_lcmp (pc := 2) B d4_2 ?_
  refine o_lif_gt (pc := 3) (pc' := 10) B d4_3 (by decide) (by decide) (fun hc3 => ?_) (fun hc3 => ?_)
  · refine o_lloadN (pc := 10) B d4_10 rfl ?_
    exact o_lreturn (pc := 11) B d4_11 (by decide) (by decide) (⟨by rw [if_pos hc3], rfl⟩)
  refine o_lloadN (pc := 6) B d4_6 rfl ?_
  refine o_goto (pc := 7) (pc' := 11) B d4_7 (by decide) (by decide) ?_
  exact o_lreturn (pc := 11) B d4_11 (by decide) (by decide) (⟨by rw [if_neg hc3], rfl⟩)
set_option maxRecDepth 65536 in
set_option maxHeartbeats 40000000 in
theorem oc6 (l : Launch) (Z : State) (a0 : Array Value) (hw : ∀ d ∈ tables_1, d.before a0 Z = true) (n0 : Nat) (h : Heap) (X : Nat) (h1 : 1 ≤ X) (hX : X < 2 ^ 31) : o_C l Z n0 oy6 jdk_33_method_47_code 2 (some .int) orm6 [(.int (Int32.ofNat X))] h (fun v h' => (∃ e, own_hi X e ∧ e < 31 ∧ v = some (.int (Int32.ofNat (31 - e)))) ∧ h' = h) := by
  refine o_body (Ls := [.val (.int (Int32.ofNat X)), .unset]) pn6 (by first | (simp [argsToLocals, Value.category]; done) | rfl) (fun κ B => ?_)
  have T73 : ∀ x s : Nat, own_L X x s → x < 4 → s ≤ 30 → o_Go κ (fun v h' => (∃ e, own_hi X e ∧ e < 31 ∧ v = some (.int (Int32.ofNat (31 - e)))) ∧ h' = h) h 0 0 73 [.val (.int (Int32.ofNat x)), .val (.int (Int32.ofNat (31 - s)))] [] := by
    intro x s L hx hs
    have q := L.end hx
    have he : s + x / 2 < 31 := by
      apply Nat.lt_of_not_le; intro z
      have := Nat.pow_le_pow_right (n := 2) (by decide) z
      omega
    refine o_iloadN (pc := 73) B d6_73 rfl ?_
    refine o_iloadN (pc := 74) B d6_74 rfl ?_
    refine o_iconst (pc := 75) B (1 : Int32) d6_75 (by decide) ?_
    refine o_iushr (pc := 76) B d6_76 ?_
    rw [show XT.ushr (Int32.ofNat x) 1 = Int32.ofNat (x / 2 ^ 1) from own_ush x (by omega) 1 (by decide)]
    refine o_isub (pc := 77) B d6_77 ?_
    rw [own_sub (by omega) (by omega)]
    exact o_ireturn (pc := 78) B d6_78 (by decide) (by decide) (⟨⟨s + x / 2, q, he, by rw [show 31 - (s + x / 2) = 31 - s - x / 2 ^ 1 by omega]⟩, rfl⟩)
  have T61 : ∀ x s : Nat, own_L X x s → x < 16 → s ≤ 28 → o_Go κ (fun v h' => (∃ e, own_hi X e ∧ e < 31 ∧ v = some (.int (Int32.ofNat (31 - e)))) ∧ h' = h) h 0 0 61 [.val (.int (Int32.ofNat x)), .val (.int (Int32.ofNat (31 - s)))] [] := by
    intro x s L hx hs
    refine o_iloadN (pc := 61) B d6_61 rfl ?_
    refine o_iconst (pc := 62) B (4 : Int32) d6_62 (by decide) ?_
    refine o_icmp_lt (pc := 63) (pc' := 73) B d6_63 (by decide) (by decide) (fun hc63 => ?_) (fun hc63 => ?_)
    · exact T73 x s L ((own_ltn (b := 4) (by omega) (by decide)).mp hc63) (by omega)
    have hge : 2 ^ 2 ≤ x := Nat.le_of_not_lt fun z => hc63 ((own_ltn (b := 4) (by omega) (by decide)).mpr z)
    refine o_iinc_2_1 (pc := 66) B (-2 : Int32) (Int32.ofNat (31 - (s + 2))) d6_66 (by decide) ((own_decr (a := 31 - s) (b := 2) (by omega) (by omega)).trans (by rw [Nat.sub_sub])) ?_
    refine o_iloadN (pc := 69) B d6_69 rfl ?_
    refine o_iconst (pc := 70) B (2 : Int32) d6_70 (by decide) ?_
    refine o_iushr (pc := 71) B d6_71 ?_
    rw [show XT.ushr (Int32.ofNat x) 2 = Int32.ofNat (x / 2 ^ 2) from own_ush x (by omega) 2 (by decide)]
    refine o_istoreN_2_0 (pc := 72) B d6_72 rfl ?_
    exact T73 (x / 2 ^ 2) (s + 2) (L.down 2 hge (by omega)) (by omega) (by omega)
  have T48 : ∀ x s : Nat, own_L X x s → x < 256 → s ≤ 24 → o_Go κ (fun v h' => (∃ e, own_hi X e ∧ e < 31 ∧ v = some (.int (Int32.ofNat (31 - e)))) ∧ h' = h) h 0 0 48 [.val (.int (Int32.ofNat x)), .val (.int (Int32.ofNat (31 - s)))] [] := by
    intro x s L hx hs
    refine o_iloadN (pc := 48) B d6_48 rfl ?_
    refine o_bipush (pc := 49) B (16 : Int32) d6_49 (by decide) ?_
    refine o_icmp_lt (pc := 51) (pc' := 61) B d6_51 (by decide) (by decide) (fun hc51 => ?_) (fun hc51 => ?_)
    · exact T61 x s L ((own_ltn (b := 16) (by omega) (by decide)).mp hc51) (by omega)
    have hge : 2 ^ 4 ≤ x := Nat.le_of_not_lt fun z => hc51 ((own_ltn (b := 16) (by omega) (by decide)).mpr z)
    refine o_iinc_2_1 (pc := 54) B (-4 : Int32) (Int32.ofNat (31 - (s + 4))) d6_54 (by decide) ((own_decr (a := 31 - s) (b := 4) (by omega) (by omega)).trans (by rw [Nat.sub_sub])) ?_
    refine o_iloadN (pc := 57) B d6_57 rfl ?_
    refine o_iconst (pc := 58) B (4 : Int32) d6_58 (by decide) ?_
    refine o_iushr (pc := 59) B d6_59 ?_
    rw [show XT.ushr (Int32.ofNat x) 4 = Int32.ofNat (x / 2 ^ 4) from own_ush x (by omega) 4 (by decide)]
    refine o_istoreN_2_0 (pc := 60) B d6_60 rfl ?_
    exact T61 (x / 2 ^ 4) (s + 4) (L.down 4 hge (by omega)) (by omega) (by omega)
  have T33 : ∀ x s : Nat, own_L X x s → x < 65536 → s ≤ 16 → o_Go κ (fun v h' => (∃ e, own_hi X e ∧ e < 31 ∧ v = some (.int (Int32.ofNat (31 - e)))) ∧ h' = h) h 0 0 33 [.val (.int (Int32.ofNat x)), .val (.int (Int32.ofNat (31 - s)))] [] := by
    intro x s L hx hs
    refine o_iloadN (pc := 33) B d6_33 rfl ?_
    refine o_sipush (pc := 34) B (256 : Int32) d6_34 (by decide) ?_
    refine o_icmp_lt (pc := 37) (pc' := 48) B d6_37 (by decide) (by decide) (fun hc37 => ?_) (fun hc37 => ?_)
    · exact T48 x s L ((own_ltn (b := 256) (by omega) (by decide)).mp hc37) (by omega)
    have hge : 2 ^ 8 ≤ x := Nat.le_of_not_lt fun z => hc37 ((own_ltn (b := 256) (by omega) (by decide)).mpr z)
    refine o_iinc_2_1 (pc := 40) B (-8 : Int32) (Int32.ofNat (31 - (s + 8))) d6_40 (by decide) ((own_decr (a := 31 - s) (b := 8) (by omega) (by omega)).trans (by rw [Nat.sub_sub])) ?_
    refine o_iloadN (pc := 43) B d6_43 rfl ?_
    refine o_bipush (pc := 44) B (8 : Int32) d6_44 (by decide) ?_
    refine o_iushr (pc := 46) B d6_46 ?_
    rw [show XT.ushr (Int32.ofNat x) 8 = Int32.ofNat (x / 2 ^ 8) from own_ush x (by omega) 8 (by decide)]
    refine o_istoreN_2_0 (pc := 47) B d6_47 rfl ?_
    exact T48 (x / 2 ^ 8) (s + 8) (L.down 8 hge (by omega)) (by omega) (by omega)
  have T18 : ∀ x s : Nat, own_L X x s → x < 2147483648 → s ≤ 0 → o_Go κ (fun v h' => (∃ e, own_hi X e ∧ e < 31 ∧ v = some (.int (Int32.ofNat (31 - e)))) ∧ h' = h) h 0 0 18 [.val (.int (Int32.ofNat x)), .val (.int (Int32.ofNat (31 - s)))] [] := by
    intro x s L hx hs
    refine o_iloadN (pc := 18) B d6_18 rfl ?_
    refine o_ldc_w (pc := 19) B (x := (65536 : Int32)) d6_19 (hw _ (List.mem_of_getElem? (i := 30) rfl)) ?_
    refine o_icmp_lt (pc := 22) (pc' := 33) B d6_22 (by decide) (by decide) (fun hc22 => ?_) (fun hc22 => ?_)
    · exact T33 x s L ((own_ltn (b := 65536) (by omega) (by decide)).mp hc22) (by omega)
    have hge : 2 ^ 16 ≤ x := Nat.le_of_not_lt fun z => hc22 ((own_ltn (b := 65536) (by omega) (by decide)).mpr z)
    refine o_iinc_2_1 (pc := 25) B (-16 : Int32) (Int32.ofNat (31 - (s + 16))) d6_25 (by decide) ((own_decr (a := 31 - s) (b := 16) (by omega) (by omega)).trans (by rw [Nat.sub_sub])) ?_
    refine o_iloadN (pc := 28) B d6_28 rfl ?_
    refine o_bipush (pc := 29) B (16 : Int32) d6_29 (by decide) ?_
    refine o_iushr (pc := 31) B d6_31 ?_
    rw [show XT.ushr (Int32.ofNat x) 16 = Int32.ofNat (x / 2 ^ 16) from own_ush x (by omega) 16 (by decide)]
    refine o_istoreN_2_0 (pc := 32) B d6_32 rfl ?_
    exact T33 (x / 2 ^ 16) (s + 16) (L.down 16 hge (by omega)) (by omega) (by omega)
  refine o_iloadN (pc := 0) B d6_0 rfl ?_
  refine o_if_gt (pc := 1) (pc' := 15) B d6_1 (by decide) (by decide) (fun hc1 => ?_) (fun hc1 => ?_)
  · refine o_bipush (pc := 15) B (31 : Int32) d6_15 (by decide) ?_
    refine o_istoreN_2_1 (pc := 17) B d6_17 rfl ?_
    exact T18 X 0 (own_L.start h1) hX (by decide)
  exact absurd ((own_ltn (a := 0) (by decide) hX).mpr h1) hc1
set_option maxRecDepth 65536 in
set_option maxHeartbeats 40000000 in
theorem oc5 (l : Launch) (Z : State) (a0 : Array Value) (hw : ∀ d ∈ tables_1, d.before a0 Z = true) (n0 : Nat) (h : Heap) (X : Nat) (h1 : 1 ≤ X) (hX : X < 2 ^ 31) : o_C l Z n0 oy5 jdk_33_method_45_code 1 (some .int) orm5 [(.int (Int32.ofNat X))] h (fun v h' => (∃ e, own_hi X e ∧ e < 31 ∧ v = some (.int (Int32.ofNat (2 ^ e)))) ∧ h' = h) := by
  refine o_body (Ls := [.val (.int (Int32.ofNat X))]) pn5 (by first | (simp [argsToLocals, Value.category]; done) | rfl) (fun κ B => ?_)
  refine o_iloadN (pc := 0) B d5_0 rfl ?_
  refine o_ldc (pc := 1) B (x := (-2147483648 : Int32)) d5_1 (hw _ (List.mem_of_getElem? (i := 26) rfl)) ?_
  refine o_iloadN (pc := 3) B d5_3 rfl ?_
  refine o_callS1 (pc := 4) B 2 d5_4 (hw _ (List.mem_of_getElem? (i := 27) rfl)) (hw _ (List.mem_of_getElem? (i := 28) rfl)) (hw _ (List.mem_of_getElem? (i := 24) rfl)) (hw _ (List.mem_of_getElem? (i := 29) rfl)) (by decide) pd6 rfl (by first | exact Nat.zero_le _ | exact Nat.le_of_ble_eq_true rfl | simp [Value.category]) (by decide) (by decide) (by decide) (by decide) rfl (oc6 l Z a0 hw n0 _ X h1 hX) ?_
  rintro v h' ⟨⟨e, q, he, rfl⟩, rfl⟩
  refine o_iushr (pc := 7) B d5_7 ?_
  refine o_iand (pc := 8) B d5_8 ?_
  rw [own_hob hX q he]
  exact o_ireturn (pc := 9) B d5_9 (by decide) (by decide) (⟨⟨e, q, he, rfl⟩, rfl⟩)
set_option maxRecDepth 65536 in
set_option maxHeartbeats 40000000 in
theorem oc7 (l : Launch) (Z : State) (a0 : Array Value) (hw : ∀ d ∈ tables_1, d.before a0 Z = true) (n0 : Nat) (h : Heap) (s t : Addr) (u1 u2 u3 : Value) (gs : n0 ≤ s) (Z0 : n0 ≤ h.size) (ls : s < h.size) (E : Exa Z h s own_SG) (F1 : Fld Z h s own_SG "this$0" own_TD (u1)) (F2 : Fld Z h s own_SG "keys" "[J" (u2)) (F3 : Fld Z h s own_SG "places" "[J" (u3)) (F4 : Fld Z h s own_SG "count" "I" (.int 0)) : o_C l Z n0 oy7 prog_21_method_1_code 2 none orm7 [(.ref s), (.ref t)] h (fun v h' => v = none ∧ h'.size = h.size + 2 ∧ own_Sg Z h' t s h.size (h.size + 1) (List.replicate 16 0) 0 ∧ Keep h h' [s] ∧ (Unt h s → Unt h' s)) := by
  refine o_bodyZ (Ls := [.val (.ref s), .val (.ref t)]) pn7 (by first | (simp [argsToLocals, Value.category]; done) | rfl) (fun κ B hz => ?_)
  refine o_aloadN (pc := 0) B d7_0 rfl rfl ?_
  refine o_aloadN (pc := 1) B d7_1 rfl rfl ?_
  refine o_putF (pc := 2) (ty := (.object "com/example/one_verdict/oneverdict/check/PlaceTable")) B d7_2 (hw _ (List.mem_of_getElem? (i := 38) rfl)) (F1) (E) (Or.inr ⟨(hw _ (List.mem_of_getElem? (i := 39) rfl)), rfl, rfl⟩) (hw _ (List.mem_of_getElem? (i := 33) rfl)) (by decide) rfl rfl (gs) ?_
  intro h1 W1
  have K1 := Keep.of_wr W1
  have G1 := F1.same W1
  have G2 := F2.other W1 (Or.inr (slot_ne (C := "com/example/one_verdict/oneverdict/check/PlaceTable$Segment") (Or.inl (hw _ (List.mem_of_getElem? (i := 43) rfl))) (Or.inr (hw _ (List.mem_of_getElem? (i := 39) rfl))) (by decide) (by decide : parseFieldDescriptor "[J" = some (.array .long)) (by decide : parseFieldDescriptor "Lcom/example/one_verdict/oneverdict/check/PlaceTable;" = some (.object "com/example/one_verdict/oneverdict/check/PlaceTable"))))
  have G3 := F3.other W1 (Or.inr (slot_ne (C := "com/example/one_verdict/oneverdict/check/PlaceTable$Segment") (Or.inl (hw _ (List.mem_of_getElem? (i := 45) rfl))) (Or.inr (hw _ (List.mem_of_getElem? (i := 39) rfl))) (by decide) (by decide : parseFieldDescriptor "[J" = some (.array .long)) (by decide : parseFieldDescriptor "Lcom/example/one_verdict/oneverdict/check/PlaceTable;" = some (.object "com/example/one_verdict/oneverdict/check/PlaceTable"))))
  have G4 := F4.other W1 (Or.inr (slot_ne (C := "com/example/one_verdict/oneverdict/check/PlaceTable$Segment") (Or.inl (hw _ (List.mem_of_getElem? (i := 82) rfl))) (Or.inr (hw _ (List.mem_of_getElem? (i := 39) rfl))) (by decide) (by decide : parseFieldDescriptor "I" = some .int) (by decide : parseFieldDescriptor "Lcom/example/one_verdict/oneverdict/check/PlaceTable;" = some (.object "com/example/one_verdict/oneverdict/check/PlaceTable"))))
  have E1 := E.wr W1
  have s1 := W1.size
  refine o_aloadN (pc := 5) B d7_5 rfl rfl ?_
  refine o_initO (pc := 6) B (W := 0) d7_6 (hw _ (List.mem_of_getElem? (i := 40) rfl)) (hw _ (List.mem_of_getElem? (i := 7) rfl)) (hw _ (List.mem_of_getElem? (i := 8) rfl)) (by decide) (by first | exact Nat.zero_le _ | exact Nat.le_of_ble_eq_true rfl | simp [Value.category]) (by decide) rfl ?_
  refine o_aloadN (pc := 9) B d7_9 rfl rfl ?_
  refine o_bipush (pc := 10) B (16 : Int32) d7_10 (by decide) ?_
  refine o_newarray (pc := 12) B (16) (16) d7_12 (hw _ (List.mem_of_getElem? (i := 41) rfl)) (by decide) (by first | decide | omega) (by first | decide | omega) (by decide) (by decide) ?_
  intro h2 X2 lt2 A2
  refine o_bound B (fun hbd => ?_)
  have s2 : h2.size = h.size + 1 := by rw [hz] at hbd; have := X2.1; omega
  rw [s1] at A2 ⊢
  have A2' : o_LA Z h2 h.size (List.replicate 16 0) := A2
  have ne1 : s ≠ h.size := o_ne (by have := o_lt ls; omega)
  refine o_putF (pc := 14) (ty := (.array .long)) B d7_14 (hw _ (List.mem_of_getElem? (i := 42) rfl)) (G2.ext X2) (E1.ext X2) (Or.inl (hw _ (List.mem_of_getElem? (i := 43) rfl))) (hw _ (List.mem_of_getElem? (i := 33) rfl)) (by decide) rfl rfl (gs) ?_
  intro h3 W3
  have s3 := W3.size
  have H1 := (G1.ext X2).other W3 (Or.inr (slot_ne (C := "com/example/one_verdict/oneverdict/check/PlaceTable$Segment") (Or.inr (hw _ (List.mem_of_getElem? (i := 39) rfl))) (Or.inl (hw _ (List.mem_of_getElem? (i := 43) rfl))) (by decide) (by decide : parseFieldDescriptor "Lcom/example/one_verdict/oneverdict/check/PlaceTable;" = some (.object "com/example/one_verdict/oneverdict/check/PlaceTable")) (by decide : parseFieldDescriptor "[J" = some (.array .long))))
  have H2 := (G2.ext X2).same W3
  have H3 := (G3.ext X2).other W3 (Or.inr (slot_ne (C := "com/example/one_verdict/oneverdict/check/PlaceTable$Segment") (Or.inl (hw _ (List.mem_of_getElem? (i := 45) rfl))) (Or.inl (hw _ (List.mem_of_getElem? (i := 43) rfl))) (by decide) (by decide : parseFieldDescriptor "[J" = some (.array .long)) (by decide : parseFieldDescriptor "[J" = some (.array .long))))
  have H4 := (G4.ext X2).other W3 (Or.inr (slot_ne (C := "com/example/one_verdict/oneverdict/check/PlaceTable$Segment") (Or.inl (hw _ (List.mem_of_getElem? (i := 82) rfl))) (Or.inl (hw _ (List.mem_of_getElem? (i := 43) rfl))) (by decide) (by decide : parseFieldDescriptor "I" = some .int) (by decide : parseFieldDescriptor "[J" = some (.array .long))))
  have E3 := (E1.ext X2).wr W3
  have A3 := A2'.other W3 (Ne.symm ne1)
  refine o_aloadN (pc := 17) B d7_17 rfl rfl ?_
  refine o_bipush (pc := 18) B (16 : Int32) d7_18 (by decide) ?_
  refine o_newarray (pc := 20) B (16) (16) d7_20 (hw _ (List.mem_of_getElem? (i := 41) rfl)) (by decide) (by first | decide | omega) (by first | decide | omega) (by decide) (by decide) ?_
  intro h4 X4 lt4 A4
  refine o_bound B (fun hbd => ?_)
  have s4 : h4.size = h.size + 2 := by rw [hz] at hbd; have := X4.1; omega
  rw [s3, s2] at A4 ⊢
  have A4' : o_LA Z h4 (h.size + 1) (List.replicate 16 0) := A4
  have ne2 : s ≠ h.size + 1 := o_ne (by have := o_lt ls; omega)
  refine o_putF (pc := 22) (ty := (.array .long)) B d7_22 (hw _ (List.mem_of_getElem? (i := 44) rfl)) (H3.ext X4) (E3.ext X4) (Or.inl (hw _ (List.mem_of_getElem? (i := 45) rfl))) (hw _ (List.mem_of_getElem? (i := 33) rfl)) (by decide) rfl rfl (gs) ?_
  intro h5 W5
  have s5 := W5.size
  have K5 : Keep h h5 [s] := ((((Keep.refl h [s]).wr W1 (Or.inl (List.mem_cons_self ..))).ext X2).wr W3 (Or.inl (List.mem_cons_self ..)) |>.ext X4).wr W5 (Or.inl (List.mem_cons_self ..))
  exact o_return (pc := 25) B d7_25 (by decide) (by decide) (⟨rfl, by omega, ⟨(E3.ext X4).wr W5, (H1.ext X4).other W5 (Or.inr (slot_ne (C := "com/example/one_verdict/oneverdict/check/PlaceTable$Segment") (Or.inr (hw _ (List.mem_of_getElem? (i := 39) rfl))) (Or.inl (hw _ (List.mem_of_getElem? (i := 45) rfl))) (by decide) (by decide : parseFieldDescriptor "Lcom/example/one_verdict/oneverdict/check/PlaceTable;" = some (.object "com/example/one_verdict/oneverdict/check/PlaceTable")) (by decide : parseFieldDescriptor "[J" = some (.array .long)))), (H2.ext X4).other W5 (Or.inr (slot_ne (C := "com/example/one_verdict/oneverdict/check/PlaceTable$Segment") (Or.inl (hw _ (List.mem_of_getElem? (i := 43) rfl))) (Or.inl (hw _ (List.mem_of_getElem? (i := 45) rfl))) (by decide) (by decide : parseFieldDescriptor "[J" = some (.array .long)) (by decide : parseFieldDescriptor "[J" = some (.array .long)))), (H3.ext X4).same W5, (H4.ext X4).other W5 (Or.inr (slot_ne (C := "com/example/one_verdict/oneverdict/check/PlaceTable$Segment") (Or.inl (hw _ (List.mem_of_getElem? (i := 82) rfl))) (Or.inl (hw _ (List.mem_of_getElem? (i := 45) rfl))) (by decide) (by decide : parseFieldDescriptor "I" = some .int) (by decide : parseFieldDescriptor "[J" = some (.array .long)))), (A3.ext X4).other W5 (Ne.symm ne1), List.replicate 16 0, A4'.other W5 (Ne.symm ne2), by simp⟩, K5, fun U => Unt.wr W5 (Unt.ext X4 (Unt.wr W3 (Unt.ext X2 (Unt.wr W1 U))))⟩)
/-- the segments' addresses -/
def own_rl (b : Addr) (i : Nat) : List Value := (List.range i).map fun j => (.ref (b + 1 + 3 * j) : Value)
theorem own_rl_len (b : Addr) (i : Nat) : (own_rl b i).length = i := by simp [own_rl]
theorem own_rl_get (b : Addr) {g : Nat} (hg : g < 64) : (own_rl b 64)[g]? = some (.ref (b + 1 + 3 * g)) := by simp [own_rl, hg]
theorem own_rl_step (b : Addr) (i m : Nat) : (own_rl b i ++ List.replicate (m + 1) Value.null).set i (.ref (b + 1 + 3 * i)) = own_rl b (i + 1) ++ List.replicate m Value.null := by
  rw [List.set_append_right _ _ (by rw [own_rl_len]; exact Nat.le_refl _), own_rl_len, Nat.sub_self, List.replicate_succ, List.set_cons_zero]
  simp [own_rl, List.range_succ]
set_option maxRecDepth 65536 in
set_option maxHeartbeats 40000000 in
theorem own_il (l : Launch) (Z : State) (a0 : Array Value) (hw : ∀ d ∈ tables_1, d.before a0 Z = true) (n0 : Nat) (κ : o_K) (B : o_Bo κ l Z n0 orm1 oy1 prog_19_method_1_code 6 none) (t b : Addr) (bytes share : Int64) (hz : o_sz κ = b) (gb : n0 ≤ b) (tb : t < b) :
    ∀ (m i : Nat) (h : Heap), i + m = 64 → h.size = b + 1 + 3 * i → Exa Z h t own_PT → Fld Z h t own_PT "segments" own_SD (.ref b) → (∃ M, M < 2 ^ 31 ∧ ((32 : Int64) ≤ bytes / 64 / 16 → 32 ≤ M) ∧ Fld Z h t own_PT "mostSlots" "I" (.int (Int32.ofNat M))) →
      o_RR Z h b (.object own_SG) (fun k => Ovr Z k own_SG) (own_rl b i ++ List.replicate m .null) → (∀ j : Nat, j < i → own_Sg Z h t (b + 1 + 3 * j) (b + 2 + 3 * j) (b + 3 + 3 * j) (List.replicate 16 0) 0 ∧ Unt h (b + 1 + 3 * j)) →
      o_Go κ (fun v h' => v = none ∧ Exa Z h' t own_PT ∧ Fld Z h' t own_PT "segments" own_SD (.ref b) ∧ (∃ M, M < 2 ^ 31 ∧ ((32 : Int64) ≤ bytes / 64 / 16 → 32 ≤ M) ∧ Fld Z h' t own_PT "mostSlots" "I" (.int (Int32.ofNat M))) ∧ o_AR Z h' b (.object own_SG) (own_rl b 64) ∧ ∀ i : Nat, i < 64 → own_Sg Z h' t (b + 1 + 3 * i) (b + 2 + 3 * i) (b + 3 + 3 * i) (List.replicate 16 0) 0 ∧ Unt h' (b + 1 + 3 * i)) h (1 + 3 * i) (64 + 36 * i) 50 [.val (.ref t), .val (.long bytes), .second, .val (.long share), .second, .val (.int (Int32.ofNat i))] [] := by
  intro m
  induction m with
  | zero =>
    intro i h hi hs E F1 F2 A S
    have ei : i = 64 := by omega
    subst ei
    refine o_iload (pc := 50) B d1_50 rfl ?_
    refine o_aloadN (pc := 52) B d1_52 rfl rfl ?_
    refine o_getF (pc := 53) B d1_53 (hw _ (List.mem_of_getElem? (i := 11) rfl)) (F1) ?_
    refine o_arraylen (pc := 56) B (64 : Int32) d1_56 (A.ar) (by rw [List.length_append, own_rl_len]; rfl) ?_
    refine o_icmp_ge (pc := 57) (pc' := 81) B d1_57 (by decide) (by decide) (fun hc57 => ?_) (fun hc57 => False.elim (by revert hc57; decide))
    exact o_return (pc := 81) B d1_81 (by decide) (by decide) (⟨rfl, E, F1, F2, by have q := A.ar; rw [show own_rl b 64 ++ List.replicate 0 Value.null = own_rl b 64 from List.append_nil _] at q; exact q, S⟩)
  | succ m ih =>
    intro i h hi hs E F1 F2 A S
    have hlen : (own_rl b i ++ List.replicate (m + 1) Value.null).length = 64 := by rw [List.length_append, own_rl_len, List.length_replicate]; omega
    refine o_iload (pc := 50) B d1_50 rfl ?_
    refine o_aloadN (pc := 52) B d1_52 rfl rfl ?_
    refine o_getF (pc := 53) B d1_53 (hw _ (List.mem_of_getElem? (i := 11) rfl)) (F1) ?_
    refine o_arraylen (pc := 56) B (64 : Int32) d1_56 (A.ar) (by rw [hlen]; rfl) ?_
    refine o_icmp_ge (pc := 57) (pc' := 81) B d1_57 (by decide) (by decide) (fun hc57 => False.elim ((hc57 ((own_ltn (b := 64) (by omega) (by decide)).mpr (by omega))))) (fun hc57 => ?_)
    refine o_aloadN (pc := 60) B d1_60 rfl rfl ?_
    refine o_getF (pc := 61) B d1_61 (hw _ (List.mem_of_getElem? (i := 11) rfl)) (F1) ?_
    refine o_iload (pc := 64) B d1_64 rfl ?_
    refine o_new (pc := 66) B d1_66 (hw _ (List.mem_of_getElem? (i := 9) rfl)) (hw _ (List.mem_of_getElem? (i := 33) rfl)) (hw _ (List.mem_of_getElem? (i := 34) rfl)) (by first | decide | (show _ + 2 ≤ 193; omega) | (show _ + 32 ≤ 2368; omega) | (show _ ≤ 193; omega) | (show _ ≤ 2368; omega)) (by first | decide | (show _ + 2 ≤ 193; omega) | (show _ + 32 ≤ 2368; omega) | (show _ ≤ 193; omega) | (show _ ≤ 2368; omega)) ?_
    intro h1 X1 E1 D1 U1
    refine o_bound B (fun hbd => ?_)
    have s1 : h1.size = b + 2 + 3 * i := by rw [hz] at hbd; have q1 := X1.1; have q2 := o_lt (Exa.lt E1); omega
    rw [hs] at E1 D1 U1 ⊢
    have G1 := D1 (Or.inr (hw _ (List.mem_of_getElem? (i := 39) rfl))) (by decide : parseFieldDescriptor "Lcom/example/one_verdict/oneverdict/check/PlaceTable;" = some (.object "com/example/one_verdict/oneverdict/check/PlaceTable"))
    have G2 := D1 (Or.inl (hw _ (List.mem_of_getElem? (i := 43) rfl))) (by decide : parseFieldDescriptor "[J" = some (.array .long))
    have G3 := D1 (Or.inl (hw _ (List.mem_of_getElem? (i := 45) rfl))) (by decide : parseFieldDescriptor "[J" = some (.array .long))
    have G4 : Fld Z h1 (b + 1 + 3 * i) own_SG "count" "I" (.int 0) := D1 (Or.inl (hw _ (List.mem_of_getElem? (i := 82) rfl))) (by decide : parseFieldDescriptor "I" = some .int)
    refine o_dup (pc := 69) B d1_69 rfl ?_
    refine o_aloadN (pc := 70) B d1_70 rfl rfl ?_
    refine o_callR1 (pc := 71) B 3 d1_71 rfl (hw _ (List.mem_of_getElem? (i := 35) rfl)) (hw _ (List.mem_of_getElem? (i := 36) rfl)) (hw _ (List.mem_of_getElem? (i := 34) rfl)) (hw _ (List.mem_of_getElem? (i := 37) rfl)) (by decide) pd7 rfl (by first | exact Nat.zero_le _ | exact Nat.le_of_ble_eq_true rfl | simp [Value.category]) (by decide) (by decide) (by first | decide | (show _ + 2 ≤ 193; omega) | (show _ + 32 ≤ 2368; omega) | (show _ ≤ 193; omega) | (show _ ≤ 2368; omega)) (by first | decide | (show _ + 2 ≤ 193; omega) | (show _ + 32 ≤ 2368; omega) | (show _ ≤ 193; omega) | (show _ ≤ 2368; omega)) rfl (oc7 l Z a0 hw n0 _ (b + 1 + 3 * i) t _ _ _ (o_le (by omega)) (o_le (by rw [s1]; omega)) (o_lt (by rw [s1]; omega)) E1 G1 G2 G3 G4) ?_
    rintro v h2 ⟨rfl, s2, S2, K2, U2⟩
    rw [s1] at S2 s2
    have eS : own_Sg Z h2 t (b + 1 + 3 * i) (b + 2 + 3 * i) (b + 3 + 3 * i) (List.replicate 16 0) 0 := by rw [show b + 3 + 3 * i = b + 2 + 3 * i + 1 from o_eq (by omega)]; exact S2
    have nb : b ∉ [b + 1 + 3 * i] := by simp only [List.mem_singleton]; exact o_ne (by omega)
    have nt : t ∉ [b + 1 + 3 * i] := by simp only [List.mem_singleton]; exact o_ne (by have := o_lt tb; omega)
    have A2 := (A.ext X1).keep K2 nb
    refine o_aastore (pc := 74) B (i) rfl d1_74 (A2) (rfl) (by rw [hlen]; omega) (o_stoR A2 (Ins.self eS.1)) (gb) ?_
    intro h3 W3
    have A3 := A2.same W3
    rw [own_rl_step] at A3
    have K3 : Keep h1 h3 [b + 1 + 3 * i, b] := ((Keep.refl h1 [b + 1 + 3 * i, b]).trans K2 (fun x hx => Or.inl (by simp at hx; simp [hx]))).wr W3 (Or.inl (by simp))
    have K3b := Keep.of_wr W3
    have nt3 : t ∉ [b + 1 + 3 * i, b] := by simp only [List.mem_cons, List.not_mem_nil, or_false, not_or]; exact ⟨o_ne (by have := o_lt tb; omega), o_ne (by have := o_lt tb; omega)⟩
    obtain ⟨M, M1, M2, F2⟩ := F2
    refine o_iinc_6_5 (pc := 75) B (1 : Int32) (Int32.ofNat (i + 1)) d1_75 (by decide) (own_one i) ?_
    refine o_goto (pc := 78) (pc' := 50) B d1_78 (by decide) (by decide) ?_
    refine o_mono (by show 1 + 3 * i + 1 + 2 ≤ _; omega) (by show 64 + 36 * i + 4 + 32 ≤ _; omega) (ih (i + 1) h3 (by omega) (by rw [W3.size, s2]; omega) ((E.ext X1).keep K3) ((F1.ext X1).keep K3 nt3) ⟨M, M1, M2, (F2.ext X1).keep K3 nt3⟩ A3 (fun j hj => ?_))
    by_cases ej : j = i
    · subst ej
      refine ⟨eS.keep K3b ?_ ?_ ?_, Unt.wr W3 (U2 U1)⟩
      all_goals (simp only [List.mem_singleton]; exact o_ne (by omega))
    · obtain ⟨Sj, Uj⟩ := S j (by omega)
      have Sj1 : own_Sg Z h1 t (b + 1 + 3 * j) (b + 2 + 3 * j) (b + 3 + 3 * j) (List.replicate 16 0) 0 := Sj.keep ((Keep.refl h []).ext X1) (by simp) (by simp) (by simp)
      refine ⟨Sj1.keep K3 ?_ ?_ ?_, (Unt.ext X1 Uj).keep K3 ?_⟩
      all_goals (simp only [List.mem_cons, List.not_mem_nil, or_false, not_or]; exact ⟨o_ne (by omega), o_ne (by omega)⟩)
set_option maxRecDepth 65536 in
set_option maxHeartbeats 40000000 in
theorem oc1 (l : Launch) (Z : State) (a0 : Array Value) (hw : ∀ d ∈ tables_1, d.before a0 Z = true) (n0 : Nat) (h : Heap) (t : Addr) (bytes : Int64) (u1 u2 : Value) (gt : n0 ≤ t) (Z0 : n0 ≤ h.size) (lt : t < h.size) (b : Addr) (hb : b = h.size) (E : Exa Z h t own_PT) (F1 : Fld Z h t own_PT "segments" own_SD (u1)) (F2 : Fld Z h t own_PT "mostSlots" "I" (u2)) : o_C l Z n0 oy1 prog_19_method_1_code 6 none orm1 [(.ref t), (.long bytes)] h (fun v h' => v = none ∧ Exa Z h' t own_PT ∧ Fld Z h' t own_PT "segments" own_SD (.ref b) ∧ (∃ M, M < 2 ^ 31 ∧ ((32 : Int64) ≤ bytes / 64 / 16 → 32 ≤ M) ∧ Fld Z h' t own_PT "mostSlots" "I" (.int (Int32.ofNat M))) ∧ o_AR Z h' b (.object own_SG) (own_rl b 64) ∧ ∀ i : Nat, i < 64 → own_Sg Z h' t (b + 1 + 3 * i) (b + 2 + 3 * i) (b + 3 + 3 * i) (List.replicate 16 0) 0 ∧ Unt h' (b + 1 + 3 * i)) := by
  refine o_bodyZ (Ls := [.val (.ref t), .val (.long bytes), .second, .unset, .unset, .unset]) pn1 (by first | (simp [argsToLocals, Value.category]; done) | rfl) (fun κ B hz => ?_)
  refine o_aloadN (pc := 0) B d1_0 rfl rfl ?_
  refine o_initO (pc := 1) B (W := 0) d1_1 (hw _ (List.mem_of_getElem? (i := 6) rfl)) (hw _ (List.mem_of_getElem? (i := 7) rfl)) (hw _ (List.mem_of_getElem? (i := 8) rfl)) (by decide) (by first | exact Nat.zero_le _ | exact Nat.le_of_ble_eq_true rfl | simp [Value.category]) (by decide) rfl ?_
  refine o_aloadN (pc := 4) B d1_4 rfl rfl ?_
  refine o_bipush (pc := 5) B (64 : Int32) d1_5 (by decide) ?_
  refine o_anewR (pc := 7) B (C := "com/example/one_verdict/oneverdict/check/PlaceTable$Segment") (ad := "[Lcom/example/one_verdict/oneverdict/check/PlaceTable$Segment;") (64) (64) (by decide) d1_7 (hw _ (List.mem_of_getElem? (i := 9) rfl)) (hw _ (List.mem_of_getElem? (i := 10) rfl)) (by decide) (by decide) (by decide) (by decide) (by decide) ?_
  intro h1 X1 lt1 A1 E1
  refine o_bound B (fun hbd => ?_)
  have s1 : h1.size = h.size + 1 := by rw [hz] at hbd; have := X1.1; omega
  rw [← hb] at A1 hz ⊢
  have tb : t ≠ b := o_ne (by have := o_lt lt; have := o_eq hb; omega)
  refine o_putF (pc := 10) (ty := (.array (.object "com/example/one_verdict/oneverdict/check/PlaceTable$Segment"))) B d1_10 (hw _ (List.mem_of_getElem? (i := 11) rfl)) (F1.ext X1) (E.ext X1) (Or.inr ⟨(hw _ (List.mem_of_getElem? (i := 12) rfl)), rfl, rfl⟩) (hw _ (List.mem_of_getElem? (i := 1) rfl)) (by decide) rfl rfl (gt) ?_
  intro h2 W2
  have s2 := W2.size
  have G1 := (F1.ext X1).same W2
  have G2 := (F2.ext X1).other W2 (Or.inr (slot_ne (C := "com/example/one_verdict/oneverdict/check/PlaceTable") (Or.inr (hw _ (List.mem_of_getElem? (i := 32) rfl))) (Or.inr (hw _ (List.mem_of_getElem? (i := 12) rfl))) (by decide) (by decide : parseFieldDescriptor "I" = some .int) (by decide : parseFieldDescriptor "[Lcom/example/one_verdict/oneverdict/check/PlaceTable$Segment;" = some (.array (.object "com/example/one_verdict/oneverdict/check/PlaceTable$Segment")))))
  have E2 := (E.ext X1).wr W2
  have A2 := A1.other W2 (Ne.symm tb)
  refine o_lloadN (pc := 13) B d1_13 rfl ?_
  refine o_aloadN (pc := 14) B d1_14 rfl rfl ?_
  refine o_getF (pc := 15) B d1_15 (hw _ (List.mem_of_getElem? (i := 11) rfl)) (G1) ?_
  refine o_arraylen (pc := 18) B (64 : Int32) d1_18 (A2.ar) (by simp) ?_
  refine o_i2l (pc := 19) B d1_19 ?_
  rw [show (64 : Int32).toInt64 = 64 from rfl]
  refine o_ldiv (pc := 20) B d1_20 (by decide) ?_
  refine o_ldc2_w (pc := 21) B (x := (16 : Int64)) d1_21 (hw _ (List.mem_of_getElem? (i := 13) rfl)) ?_
  refine o_ldiv (pc := 24) B d1_24 (by decide) ?_
  refine o_lstoreN_6_3 (pc := 25) B d1_25 rfl ?_
  refine o_aloadN (pc := 26) B d1_26 rfl rfl ?_
  refine o_ldc2_w (pc := 27) B (x := (1073741824 : Int64)) d1_27 (hw _ (List.mem_of_getElem? (i := 14) rfl)) ?_
  refine o_ldc2_w (pc := 30) B (x := (16 : Int64)) d1_30 (hw _ (List.mem_of_getElem? (i := 13) rfl)) ?_
  refine o_lloadN (pc := 33) B d1_33 rfl ?_
  refine o_callS2 (pc := 34) B 3 d1_34 (hw _ (List.mem_of_getElem? (i := 15) rfl)) (hw _ (List.mem_of_getElem? (i := 16) rfl)) (hw _ (List.mem_of_getElem? (i := 17) rfl)) (hw _ (List.mem_of_getElem? (i := 18) rfl)) (by decide) pd3 rfl (by first | exact Nat.zero_le _ | exact Nat.le_of_ble_eq_true rfl | simp [Value.category]) (by decide) (by decide) (by decide) (by decide) rfl (oc3 l Z a0 hw n0 _ 16 (bytes / 64 / 16)) ?_
  rintro v h' ⟨rfl, rfl⟩
  refine o_callS2 (pc := 37) B 1 d1_37 (hw _ (List.mem_of_getElem? (i := 19) rfl)) (hw _ (List.mem_of_getElem? (i := 20) rfl)) (hw _ (List.mem_of_getElem? (i := 17) rfl)) (hw _ (List.mem_of_getElem? (i := 21) rfl)) (by decide) pd4 rfl (by first | exact Nat.zero_le _ | exact Nat.le_of_ble_eq_true rfl | simp [Value.category]) (by decide) (by decide) (by decide) (by decide) rfl (oc4 l Z a0 hw n0 _ 1073741824 _) ?_
  rintro v h' ⟨rfl, rfl⟩
  obtain ⟨X, x1, x2, ex, x3⟩ := own_mm (bytes / 64 / 16)
  rw [ex]
  refine o_l2i (pc := 40) B d1_40 ?_
  rw [own_narrow (a := X) (by omega)]
  refine o_callS1 (pc := 41) B 1 d1_41 (hw _ (List.mem_of_getElem? (i := 22) rfl)) (hw _ (List.mem_of_getElem? (i := 23) rfl)) (hw _ (List.mem_of_getElem? (i := 24) rfl)) (hw _ (List.mem_of_getElem? (i := 25) rfl)) (by decide) pd5 rfl (by first | exact Nat.zero_le _ | exact Nat.le_of_ble_eq_true rfl | simp [Value.category]) (by decide) (by decide) (by decide) (by decide) rfl (oc5 l Z a0 hw n0 _ X (by omega) (by omega)) ?_
  rintro v h' ⟨⟨e, q, he, rfl⟩, rfl⟩
  refine o_putF (pc := 44) (ty := .int) B d1_44 (hw _ (List.mem_of_getElem? (i := 31) rfl)) (G2) (E2) (Or.inr ⟨(hw _ (List.mem_of_getElem? (i := 32) rfl)), rfl, rfl⟩) (hw _ (List.mem_of_getElem? (i := 1) rfl)) (by decide) rfl rfl (gt) ?_
  intro h3 W3
  have s3 := W3.size
  have M2 : (32 : Int64) ≤ bytes / 64 / 16 → 32 ≤ 2 ^ e := fun z => by
    have z1 := x3 z
    have z2 : 5 ≤ e := by
      apply Nat.le_of_not_lt; intro z3
      have := Nat.pow_le_pow_right (n := 2) (by decide) (show e + 1 ≤ 5 by omega)
      have := q.2
      omega
    exact Nat.pow_le_pow_right (n := 2) (by decide) z2
  refine o_iconst (pc := 47) B (0 : Int32) d1_47 (by decide) ?_
  refine o_istore_6_5 (pc := 48) B d1_48 rfl ?_
  rw [show (0 : Int32) = Int32.ofNat 0 from rfl]
  exact own_il l Z a0 hw n0 κ B t b bytes _ hz (by rw [hb]; exact Z0) (by rw [hb]; exact lt) 64 0 h3 rfl (by rw [s3, s2, s1, hb]) (E2.wr W3) (G1.other W3 (Or.inr (slot_ne (C := "com/example/one_verdict/oneverdict/check/PlaceTable") (Or.inr (hw _ (List.mem_of_getElem? (i := 12) rfl))) (Or.inr (hw _ (List.mem_of_getElem? (i := 32) rfl))) (by decide) (by decide : parseFieldDescriptor "[Lcom/example/one_verdict/oneverdict/check/PlaceTable$Segment;" = some (.array (.object "com/example/one_verdict/oneverdict/check/PlaceTable$Segment"))) (by decide : parseFieldDescriptor "I" = some .int)))) ⟨2 ^ e, Nat.pow_lt_pow_right (by decide) he, M2, G2.same W3⟩ (A2.other W3 (Ne.symm tb)) (fun j hj => absurd hj (Nat.not_lt_zero j))
set_option maxRecDepth 65536 in
set_option maxHeartbeats 40000000 in
theorem own_ll (l : Launch) (Z : State) (a0 : Array Value) (hw : ∀ d ∈ tables_1, d.before a0 Z = true) (n0 : Nat) (h : Heap) (κ : o_K) (B : o_Bo κ l Z n0 orm8 oy8 prog_19_method_9_code 7 (some .long)) (t b : Addr) (f : Nat → Nat) (hf : ∀ i, f i ≤ 32) (A : o_AR Z h b (.object own_SG) (own_rl b 64)) (H : ∀ i : Nat, i < 64 → ∃ ka K, Fld Z h (b + 1 + 3 * i) own_SG "keys" "[J" (.ref ka) ∧ o_LA Z h ka K ∧ K.length = f i) :
    ∀ (m i : Nat) (s6 : Slot), o_ok1 s6 = true → i + m = 64 → o_Go κ (fun v h' => v = some (.long (Int64.ofNat ((List.range 64).map f).sum)) ∧ h' = h) h 0 0 14 [.val (.ref t), .val (.long (Int64.ofNat ((List.range i).map f).sum)), .second, .val (.ref b), .val (.int 64), .val (.int (Int32.ofNat i)), s6] [] := by
  intro m
  induction m with
  | zero =>
    intro i s6 hs hi
    have ei : i = 64 := by omega
    subst ei
    refine o_iload (pc := 14) B d8_14 rfl ?_
    refine o_iload (pc := 16) B d8_16 rfl ?_
    refine o_icmp_ge (pc := 18) (pc' := 43) B d8_18 (by decide) (by decide) (fun hc18 => ?_) (fun hc18 => False.elim (by revert hc18; decide))
    refine o_lloadN (pc := 43) B d8_43 rfl ?_
    exact o_lreturn (pc := 44) B d8_44 (by decide) (by decide) (⟨rfl, rfl⟩)
  | succ m ih =>
    intro i s6 hs hi
    obtain ⟨ka, K, F, AK, eK⟩ := H i (by omega)
    refine o_iload (pc := 14) B d8_14 rfl ?_
    refine o_iload (pc := 16) B d8_16 rfl ?_
    refine o_icmp_ge (pc := 18) (pc' := 43) B d8_18 (by decide) (by decide) (fun hc18 => False.elim ((hc18 ((own_ltn (b := 64) (by omega) (by decide)).mpr (by omega))))) (fun hc18 => ?_)
    refine o_aloadN (pc := 21) B d8_21 rfl rfl ?_
    refine o_iload (pc := 22) B d8_22 rfl ?_
    refine o_aaload (pc := 24) B (i) rfl d8_24 (A) (rfl) (own_rl_get b (by omega)) ?_
    refine o_astore_7_6 (pc := 25) B d8_25 rfl hs ?_
    refine o_lloadN (pc := 27) B d8_27 rfl ?_
    refine o_aload (pc := 28) B d8_28 rfl rfl ?_
    refine o_getR (pc := 30) B d8_30 (hw _ (List.mem_of_getElem? (i := 52) rfl)) (F) ?_
    refine o_arraylen (pc := 33) B (Int32.ofNat (f i)) d8_33 (AK) (by rw [List.length_map, eK]) ?_
    refine o_i2l (pc := 34) B d8_34 ?_
    refine o_ladd (pc := 35) B d8_35 ?_
    rw [own_wide (by have := hf i; omega), ← Int64.ofNat_add, show ((List.range i).map f).sum + f i = ((List.range (i + 1)).map f).sum by rw [List.range_succ, List.map_append, List.sum_append]; simp]
    refine o_lstoreN_7_1 (pc := 36) B d8_36 rfl ?_
    refine o_iinc_7_5 (pc := 37) B (1 : Int32) (Int32.ofNat (i + 1)) d8_37 (by decide) (own_one i) ?_
    refine o_goto (pc := 40) (pc' := 14) B d8_40 (by decide) (by decide) ?_
    exact ih (i + 1) _ rfl (by omega)
set_option maxRecDepth 65536 in
set_option maxHeartbeats 40000000 in
theorem oc8 (l : Launch) (Z : State) (a0 : Array Value) (hw : ∀ d ∈ tables_1, d.before a0 Z = true) (n0 : Nat) (h : Heap) (t b : Addr) (f : Nat → Nat) (hf : ∀ i, f i ≤ 32) (F : Fld Z h t own_PT "segments" own_SD (.ref b)) (A : o_AR Z h b (.object own_SG) (own_rl b 64)) (H : ∀ i : Nat, i < 64 → ∃ ka K, Fld Z h (b + 1 + 3 * i) own_SG "keys" "[J" (.ref ka) ∧ o_LA Z h ka K ∧ K.length = f i) : o_C l Z n0 oy8 prog_19_method_9_code 7 (some .long) orm8 [(.ref t)] h (fun v h' => v = some (.long (Int64.ofNat ((List.range 64).map f).sum)) ∧ h' = h) := by
  refine o_body (Ls := [.val (.ref t), .unset, .unset, .unset, .unset, .unset, .unset]) pn8 (by first | (simp [argsToLocals, Value.category]; done) | rfl) (fun κ B => ?_)
  refine o_lconst (pc := 0) B (0 : Int64) d8_0 (by decide) ?_
  refine o_lstoreN_7_1 (pc := 1) B d8_1 rfl ?_
  refine o_aloadN (pc := 2) B d8_2 rfl rfl ?_
  refine o_getF (pc := 3) B d8_3 (hw _ (List.mem_of_getElem? (i := 11) rfl)) (F) ?_
  refine o_astoreN_7_3 (pc := 6) B d8_6 rfl rfl ?_
  refine o_aloadN (pc := 7) B d8_7 rfl rfl ?_
  refine o_arraylen (pc := 8) B (64 : Int32) d8_8 (A) (by rw [own_rl_len]; rfl) ?_
  refine o_istore_7_4 (pc := 9) B d8_9 rfl ?_
  refine o_iconst (pc := 11) B (0 : Int32) d8_11 (by decide) ?_
  refine o_istore_7_5 (pc := 12) B d8_12 rfl ?_
  exact own_ll l Z a0 hw n0 h κ B t b f hf A H 64 0 .unset rfl rfl
set_option maxRecDepth 65536 in
set_option maxHeartbeats 40000000 in
theorem oc9 (l : Launch) (Z : State) (a0 : Array Value) (hw : ∀ d ∈ tables_1, d.before a0 Z = true) (n0 : Nat) (h : Heap) (x : Int64) (hx : x ≠ 0) : o_C l Z n0 oy9 prog_6_method_9_code 2 (some .long) orm9 [(.long x)] h (fun v h' => v = some (.long x) ∧ h' = h) := by
  refine o_body (Ls := [.val (.long x), .second]) pn9 (by first | (simp [argsToLocals, Value.category]; done) | rfl) (fun κ B => ?_)
  refine o_lloadN (pc := 0) B d9_0 rfl ?_
  refine o_lconst (pc := 1) B (0 : Int64) d9_1 (by decide) ?_
  refine o_lcmp (pc := 2) B d9_2 ?_
  refine o_lif_ne (pc := 3) (pc' := 12) B d9_3 (by decide) (by decide) (fun hc3 => ?_) (fun hc3 => False.elim (hx hc3))
  refine o_lloadN (pc := 12) B d9_12 rfl ?_
  exact o_lreturn (pc := 13) B d9_13 (by decide) (by decide) (⟨rfl, rfl⟩)
set_option maxRecDepth 65536 in
set_option maxHeartbeats 40000000 in
theorem oc11 (l : Launch) (Z : State) (a0 : Array Value) (hw : ∀ d ∈ tables_1, d.before a0 Z = true) (n0 : Nat) (h : Heap) (x : Int64) : o_C l Z n0 oy11 prog_6_method_13_code 3 (some .int) orm11 [(.long x), (.int 6)] h (fun v h' => v = some (.int (XT.ushrL (x ^^^ (-9223372036854775808)) 58).toInt32) ∧ h' = h) := by
  refine o_body (Ls := [.val (.long x), .second, .val (.int 6)]) pn11 (by first | (simp [argsToLocals, Value.category]; done) | rfl) (fun κ B => ?_)
  refine o_lloadN (pc := 0) B d11_0 rfl ?_
  refine o_ldc2_w (pc := 1) B (x := (-9223372036854775808 : Int64)) d11_1 (hw _ (List.mem_of_getElem? (i := 71) rfl)) ?_
  refine o_lxor (pc := 4) B d11_4 ?_
  refine o_bipush (pc := 5) B (64 : Int32) d11_5 (by decide) ?_
  refine o_iloadN (pc := 7) B d11_7 rfl ?_
  refine o_isub_c (pc := 8) B (58 : Int32) d11_8 (by decide) ?_
  refine o_lushr (pc := 9) B d11_9 ?_
  refine o_l2i (pc := 10) B d11_10 ?_
  exact o_ireturn (pc := 11) B d11_11 (by decide) (by decide) (⟨rfl, rfl⟩)
set_option maxRecDepth 65536 in
set_option maxHeartbeats 40000000 in
theorem own_sl (l : Launch) (Z : State) (n0 : Nat) (h : Heap) (κ : o_K) (B : o_Bo κ l Z n0 orm12 oy12 prog_6_method_10_code 5 (some .int)) (t : Addr) (T : List Int64) (key : Int64) (j S d0 : Nat) (A : o_LA Z h t T) (hj : j ≤ 5) (hT : T.length = 2 ^ j) (hH : own_H T key ((S + d0) % 2 ^ j)) (hN : ∀ d, d < d0 → ¬ own_H T key ((S + d) % 2 ^ j)) :
    ∀ m d, d + m = d0 → o_Go κ (fun v h' => v = some (.int (Int32.ofNat ((S + d0) % 2 ^ j))) ∧ h' = h) h 0 0 11 [.val (.ref t), .val (.long key), .second, .val (.int (Int32.ofNat (2 ^ j - 1))), .val (.int (Int32.ofNat ((S + d) % 2 ^ j)))] [] := by
  have pj : 2 ^ j ≤ 2 ^ 5 := Nat.pow_le_pow_right (by decide) hj
  have pp : 0 < 2 ^ j := Nat.two_pow_pos j
  intro m
  induction m with
  | zero =>
    intro d hd
    have ed : d = d0 := by omega
    subst ed
    obtain ⟨x, x1, x2⟩ := hH
    have x3 : (T.map Value.long)[(S + d) % 2 ^ j]? = some (.long x) := by rw [List.getElem?_map, x1]; rfl
    refine o_aloadN (pc := 11) B d12_11 rfl rfl ?_
    refine o_iload (pc := 12) B d12_12 rfl ?_
    refine o_laload (pc := 14) B ((S + d) % 2 ^ j) d12_14 (A) (rfl) (x3) ?_
    refine o_lconst (pc := 15) B (0 : Int64) d12_15 (by decide) ?_
    refine o_lcmp (pc := 16) B d12_16 ?_
    refine o_lif_eq (pc := 17) (pc' := 40) B d12_17 (by decide) (by decide) (fun hc17 => ?_) (fun hc17 => ?_)
    · refine o_iload (pc := 40) B d12_40 rfl ?_
      exact o_ireturn (pc := 42) B d12_42 (by decide) (by decide) (⟨rfl, rfl⟩)
    refine o_aloadN (pc := 20) B d12_20 rfl rfl ?_
    refine o_iload (pc := 21) B d12_21 rfl ?_
    refine o_laload (pc := 23) B ((S + d) % 2 ^ j) d12_23 (A) (rfl) (x3) ?_
    refine o_lloadN (pc := 24) B d12_24 rfl ?_
    refine o_lcmp (pc := 25) B d12_25 ?_
    refine o_lif_eq (pc := 26) (pc' := 40) B d12_26 (by decide) (by decide) (fun hc26 => ?_) (fun hc26 => False.elim (x2.elim hc17 hc26))
    refine o_iload (pc := 40) B d12_40 rfl ?_
    exact o_ireturn (pc := 42) B d12_42 (by decide) (by decide) (⟨rfl, rfl⟩)
  | succ m ih =>
    intro d hd
    have hm : (S + d) % 2 ^ j < 2 ^ j := Nat.mod_lt _ pp
    obtain ⟨x, x1, x3⟩ := own_at hT hm
    have nx := hN d (by omega)
    refine o_aloadN (pc := 11) B d12_11 rfl rfl ?_
    refine o_iload (pc := 12) B d12_12 rfl ?_
    refine o_laload (pc := 14) B ((S + d) % 2 ^ j) d12_14 (A) (rfl) (x3) ?_
    refine o_lconst (pc := 15) B (0 : Int64) d12_15 (by decide) ?_
    refine o_lcmp (pc := 16) B d12_16 ?_
    refine o_lif_eq (pc := 17) (pc' := 40) B d12_17 (by decide) (by decide) (fun hc17 => False.elim (nx ⟨x, x1, Or.inl hc17⟩)) (fun hc17 => ?_)
    refine o_aloadN (pc := 20) B d12_20 rfl rfl ?_
    refine o_iload (pc := 21) B d12_21 rfl ?_
    refine o_laload (pc := 23) B ((S + d) % 2 ^ j) d12_23 (A) (rfl) (x3) ?_
    refine o_lloadN (pc := 24) B d12_24 rfl ?_
    refine o_lcmp (pc := 25) B d12_25 ?_
    refine o_lif_eq (pc := 26) (pc' := 40) B d12_26 (by decide) (by decide) (fun hc26 => False.elim (nx ⟨x, x1, Or.inr hc26⟩)) (fun hc26 => ?_)
    refine o_iload (pc := 29) B d12_29 rfl ?_
    refine o_iconst (pc := 31) B (1 : Int32) d12_31 (by decide) ?_
    refine o_iadd (pc := 32) B d12_32 ?_
    refine o_iloadN (pc := 33) B d12_33 rfl ?_
    refine o_iand (pc := 34) B d12_34 ?_
    rw [own_step (by omega) hm, Nat.mod_add_mod, Nat.add_assoc]
    refine o_istore_5_4 (pc := 35) B d12_35 rfl ?_
    refine o_goto (pc := 37) (pc' := 11) B d12_37 (by decide) (by decide) ?_
    exact ih (d + 1) (by omega)
set_option maxRecDepth 65536 in
set_option maxHeartbeats 40000000 in
theorem oc12 (l : Launch) (Z : State) (a0 : Array Value) (hw : ∀ d ∈ tables_1, d.before a0 Z = true) (n0 : Nat) (h : Heap) (t : Addr) (T : List Int64) (key : Int64) (j d0 : Nat) (A : o_LA Z h t T) (hj : j ≤ 5) (hT : T.length = 2 ^ j) (hH : own_H T key ((key.toBitVec.toNat % 2 ^ j + d0) % 2 ^ j)) (hN : ∀ d, d < d0 → ¬ own_H T key ((key.toBitVec.toNat % 2 ^ j + d) % 2 ^ j)) : o_C l Z n0 oy12 prog_6_method_10_code 5 (some .int) orm12 [(.ref t), (.long key)] h (fun v h' => v = some (.int (Int32.ofNat ((key.toBitVec.toNat % 2 ^ j + d0) % 2 ^ j))) ∧ h' = h) := by
  refine o_body (Ls := [.val (.ref t), .val (.long key), .second, .unset, .unset]) pn12 (by first | (simp [argsToLocals, Value.category]; done) | rfl) (fun κ B => ?_)
  refine o_aloadN (pc := 0) B d12_0 rfl rfl ?_
  refine o_arraylen (pc := 1) B (Int32.ofNat (2 ^ j)) d12_1 (A) (by rw [List.length_map, hT]) ?_
  refine o_iconst (pc := 2) B (1 : Int32) d12_2 (by decide) ?_
  refine o_isub (pc := 3) B d12_3 ?_
  rw [own_sub1 (by omega)]
  refine o_istoreN_5_3 (pc := 4) B d12_4 rfl ?_
  refine o_lloadN (pc := 5) B d12_5 rfl ?_
  refine o_l2i (pc := 6) B d12_6 ?_
  refine o_iloadN (pc := 7) B d12_7 rfl ?_
  refine o_iand (pc := 8) B d12_8 ?_
  rw [own_s2 key (by omega)]
  refine o_istore_5_4 (pc := 9) B d12_9 rfl ?_
  have e := own_sl l Z n0 h κ B t T key j (key.toBitVec.toNat % 2 ^ j) d0 A hj hT hH hN d0 0 (by omega)
  rw [show (key.toBitVec.toNat % 2 ^ j + 0) % 2 ^ j = key.toBitVec.toNat % 2 ^ j by rw [Nat.add_zero, Nat.mod_mod]] at e
  exact e
set_option maxRecDepth 65536 in
set_option maxHeartbeats 40000000 in
theorem oc14a (l : Launch) (Z : State) (a0 : Array Value) (hw : ∀ d ∈ tables_1, d.before a0 Z = true) (n0 : Nat) (h : Heap) (c : Nat) (hc : c ≤ 12) : o_C l Z n0 oy14 prog_6_method_11_code 2 (some .boolean) orm14 [(.int (Int32.ofNat c)), (.int 16)] h (fun v h' => v = some (.int 0) ∧ h' = h) := by
  refine o_body (Ls := [.val (.int (Int32.ofNat c)), .val (.int 16)]) pn14 (by first | (simp [argsToLocals, Value.category]; done) | rfl) (fun κ B => ?_)
  refine o_ldc2_w (pc := 0) B (x := (4 : Int64)) d14_0 (hw _ (List.mem_of_getElem? (i := 86) rfl)) ?_
  refine o_iloadN (pc := 3) B d14_3 rfl ?_
  refine o_i2l (pc := 4) B d14_4 ?_
  refine o_lmul (pc := 5) B d14_5 ?_
  refine o_ldc2_w (pc := 6) B (x := (3 : Int64)) d14_6 (hw _ (List.mem_of_getElem? (i := 87) rfl)) ?_
  refine o_iloadN (pc := 9) B d14_9 rfl ?_
  refine o_i2l (pc := 10) B d14_10 ?_
  refine o_lmul (pc := 11) B d14_11 ?_
  refine o_lcmp (pc := 12) B d14_12 ?_
  refine o_lif_le (pc := 13) (pc' := 20) B d14_13 (by decide) (by decide) (fun hc13 => ?_) (fun hc13 => False.elim ((by rw [own_wide (by omega), show (4 : Int64) * Int64.ofNat c = Int64.ofNat (4 * c) by rw [Int64.ofNat_mul]; rfl, Int64.lt_iff_toInt_lt, Int64.toInt_ofNat_of_lt (by omega), show ((3 : Int64) * (16 : Int32).toInt64).toInt = 48 by decide] at hc13; omega)))
  refine o_iconst (pc := 20) B (0 : Int32) d14_20 (by decide) ?_
  exact o_zreturn (pc := 21) B d14_21 (by decide) (by decide) (⟨rfl, rfl⟩)
set_option maxRecDepth 65536 in
set_option maxHeartbeats 40000000 in
theorem oc14b (l : Launch) (Z : State) (a0 : Array Value) (hw : ∀ d ∈ tables_1, d.before a0 Z = true) (n0 : Nat) (h : Heap)  : o_C l Z n0 oy14 prog_6_method_11_code 2 (some .boolean) orm14 [(.int (Int32.ofNat 13)), (.int 16)] h (fun v h' => v = some (.int 1) ∧ h' = h) := by
  refine o_body (Ls := [.val (.int (Int32.ofNat 13)), .val (.int 16)]) pn14 (by first | (simp [argsToLocals, Value.category]; done) | rfl) (fun κ B => ?_)
  refine o_ldc2_w (pc := 0) B (x := (4 : Int64)) d14_0 (hw _ (List.mem_of_getElem? (i := 86) rfl)) ?_
  refine o_iloadN (pc := 3) B d14_3 rfl ?_
  refine o_i2l (pc := 4) B d14_4 ?_
  refine o_lmul (pc := 5) B d14_5 ?_
  refine o_ldc2_w (pc := 6) B (x := (3 : Int64)) d14_6 (hw _ (List.mem_of_getElem? (i := 87) rfl)) ?_
  refine o_iloadN (pc := 9) B d14_9 rfl ?_
  refine o_i2l (pc := 10) B d14_10 ?_
  refine o_lmul (pc := 11) B d14_11 ?_
  refine o_lcmp (pc := 12) B d14_12 ?_
  refine o_lif_le (pc := 13) (pc' := 20) B d14_13 (by decide) (by decide) (fun hc13 => False.elim (by revert hc13; decide)) (fun hc13 => ?_)
  refine o_iconst (pc := 16) B (1 : Int32) d14_16 (by decide) ?_
  refine o_goto (pc := 17) (pc' := 21) B d14_17 (by decide) (by decide) ?_
  exact o_zreturn (pc := 21) B d14_21 (by decide) (by decide) (⟨rfl, rfl⟩)
set_option maxRecDepth 65536 in
set_option maxHeartbeats 40000000 in
theorem oc10 (l : Launch) (Z : State) (a0 : Array Value) (hw : ∀ d ∈ tables_1, d.before a0 Z = true) (n0 : Nat) (h : Heap) (t b : Addr) (g : Nat) (key : Int64) (hg : g < 64) (hk : (XT.ushrL (key ^^^ (-9223372036854775808)) 58).toInt32 = Int32.ofNat g) (F : Fld Z h t own_PT "segments" own_SD (.ref b)) (A : o_AR Z h b (.object own_SG) (own_rl b 64)) : o_C l Z n0 oy10 prog_19_method_11_code 3 (some (.object "com/example/one_verdict/oneverdict/check/PlaceTable$Segment")) orm10 [(.ref t), (.long key)] h (fun v h' => v = some (.ref (b + 1 + 3 * g)) ∧ h' = h) := by
  refine o_body (Ls := [.val (.ref t), .val (.long key), .second]) pn10 (by first | (simp [argsToLocals, Value.category]; done) | rfl) (fun κ B => ?_)
  refine o_aloadN (pc := 0) B d10_0 rfl rfl ?_
  refine o_getF (pc := 1) B d10_1 (hw _ (List.mem_of_getElem? (i := 11) rfl)) (F) ?_
  refine o_lloadN (pc := 4) B d10_4 rfl ?_
  refine o_bipush (pc := 5) B (6 : Int32) d10_5 (by decide) ?_
  refine o_callS2 (pc := 7) B 1 d10_7 (hw _ (List.mem_of_getElem? (i := 68) rfl)) (hw _ (List.mem_of_getElem? (i := 69) rfl)) (hw _ (List.mem_of_getElem? (i := 62) rfl)) (hw _ (List.mem_of_getElem? (i := 70) rfl)) (by decide) pd11 rfl (by first | exact Nat.zero_le _ | exact Nat.le_of_ble_eq_true rfl | simp [Value.category]) (by decide) (by decide) (by decide) (by decide) rfl (oc11 l Z a0 hw n0 _ key) ?_
  rintro v h' ⟨rfl, rfl⟩
  rw [hk]
  refine o_aaload (pc := 10) B (g) rfl d10_10 (A) (rfl) (own_rl_get b hg) ?_
  exact o_areturn (pc := 11) B rfl rfl rfl d10_11 (by decide) (by decide) (⟨rfl, rfl⟩)
set_option maxRecDepth 65536 in
set_option maxHeartbeats 40000000 in
theorem own_gl (l : Launch) (Z : State) (a0 : Array Value) (hw : ∀ d ∈ tables_1, d.before a0 Z = true) (n0 : Nat) (h0 : Heap) (κ : o_K) (B : o_Bo κ l Z n0 orm15 oy15 prog_21_method_5_code 5 none) (s ka pa g p : Addr) (T P : List Int64) (hT : T.length = 16) (hP : P.length = 16) (gg : n0 ≤ g) (gp : n0 ≤ p) (sg : s ≠ g) (sp : s ≠ p) (kg : ka ≠ g) (kp : ka ≠ p) (pg : pa ≠ g) (pp : pa ≠ p) (gpn : g ≠ p) :
    ∀ (m i : Nat) (h : Heap) (G Y : List Int64) (s4 : Slot), o_ok1 s4 = true → i + m = 16 → Fld Z h s own_SG "keys" "[J" (.ref g) → Fld Z h s own_SG "places" "[J" (.ref p) → o_LA Z h ka T → o_LA Z h pa P → o_LA Z h g G → G.length = 32 → o_LA Z h p Y → Y.length = 32 → own_nz G ≤ i → Keep h0 h [g, p] →
      o_Go κ (fun v h' => v = none ∧ Fld Z h' s own_SG "keys" "[J" (.ref g) ∧ (∃ G', o_LA Z h' g G' ∧ G'.length = 32) ∧ Keep h0 h' [g, p]) h 2 64 33 [.val (.ref s), .val (.ref ka), .val (.ref pa), .val (.int (Int32.ofNat i)), s4] [] := by
  intro m
  induction m with
  | zero =>
    intro i h G Y s4 hs hi F1 F2 A AP AG hG AY hY hz K
    have ei : i = 16 := by omega
    subst ei
    refine o_iloadN (pc := 33) B d15_33 rfl ?_
    refine o_aloadN (pc := 34) B d15_34 rfl rfl ?_
    refine o_arraylen (pc := 35) B (16 : Int32) d15_35 (A) (by rw [List.length_map, hT]; rfl) ?_
    refine o_icmp_ge (pc := 36) (pc' := 85) B d15_36 (by decide) (by decide) (fun hc36 => ?_) (fun hc36 => False.elim (by revert hc36; decide))
    exact o_return (pc := 85) B d15_85 (by decide) (by decide) (⟨rfl, F1, ⟨G, AG, hG⟩, K⟩)
  | succ m ih =>
    intro i h G Y s4 hs hi F1 F2 A AP AG hG AY hY hz K
    obtain ⟨x, x1, x2⟩ := own_at hT (show i < 16 by omega)
    obtain ⟨z, z1, z2⟩ := own_at hP (show i < 16 by omega)
    refine o_iloadN (pc := 33) B d15_33 rfl ?_
    refine o_aloadN (pc := 34) B d15_34 rfl rfl ?_
    refine o_arraylen (pc := 35) B (16 : Int32) d15_35 (A) (by rw [List.length_map, hT]; rfl) ?_
    refine o_icmp_ge (pc := 36) (pc' := 85) B d15_36 (by decide) (by decide) (fun hc36 => False.elim ((hc36 ((own_ltn (b := 16) (by omega) (by decide)).mpr (by omega))))) (fun hc36 => ?_)
    refine o_aloadN (pc := 39) B d15_39 rfl rfl ?_
    refine o_iloadN (pc := 40) B d15_40 rfl ?_
    refine o_laload (pc := 41) B (i) d15_41 (A) (rfl) (x2) ?_
    refine o_lconst (pc := 42) B (0 : Int64) d15_42 (by decide) ?_
    refine o_lcmp (pc := 43) B d15_43 ?_
    refine o_lif_eq (pc := 44) (pc' := 79) B d15_44 (by decide) (by decide) (fun hc44 => ?_) (fun hc44 => ?_)
    · refine o_iinc_5_3 (pc := 79) B (1 : Int32) (Int32.ofNat (i + 1)) d15_79 (by decide) (own_one i) ?_
      refine o_goto (pc := 82) (pc' := 33) B d15_82 (by decide) (by decide) ?_
      exact ih (i + 1) h G Y _ hs (by omega) F1 F2 A AP AG hG AY hY (by omega) K
    refine o_aloadN (pc := 47) B d15_47 rfl rfl ?_
    refine o_getF (pc := 48) B d15_48 (hw _ (List.mem_of_getElem? (i := 42) rfl)) (F1) ?_
    refine o_aloadN (pc := 51) B d15_51 rfl rfl ?_
    refine o_iloadN (pc := 52) B d15_52 rfl ?_
    refine o_laload (pc := 53) B (i) d15_53 (A) (rfl) (x2) ?_
    obtain ⟨d0, q1, q2⟩ := own_find (j := 5) x hG (by omega)
    have hm : (x.toBitVec.toNat % 2 ^ 5 + d0) % 2 ^ 5 < 2 ^ 5 := Nat.mod_lt _ (by decide)
    refine o_callS2 (pc := 54) B 0 d15_54 (hw _ (List.mem_of_getElem? (i := 107) rfl)) (hw _ (List.mem_of_getElem? (i := 73) rfl)) (hw _ (List.mem_of_getElem? (i := 62) rfl)) (hw _ (List.mem_of_getElem? (i := 74) rfl)) (by decide) pd12 rfl (by first | exact Nat.zero_le _ | exact Nat.le_of_ble_eq_true rfl | simp [Value.category]) (by decide) (by decide) (by decide) (by decide) rfl (oc12 l Z a0 hw n0 _ g G x 5 d0 AG (by decide) hG q1 q2) ?_
    rintro v h' ⟨rfl, rfl⟩
    refine o_istore_5_4 (pc := 57) B d15_57 hs ?_
    refine o_aloadN (pc := 59) B d15_59 rfl rfl ?_
    refine o_getF (pc := 60) B d15_60 (hw _ (List.mem_of_getElem? (i := 42) rfl)) (F1) ?_
    refine o_iload (pc := 63) B d15_63 rfl ?_
    refine o_aloadN (pc := 65) B d15_65 rfl rfl ?_
    refine o_iloadN (pc := 66) B d15_66 rfl ?_
    refine o_laload (pc := 67) B (i) d15_67 (A) (rfl) (x2) ?_
    refine o_lastore (pc := 68) B ((x.toBitVec.toNat % 2 ^ 5 + d0) % 2 ^ 5) d15_68 (AG) (rfl) (own_mltL (by omega)) (gg) ?_
    intro h1 W1
    refine o_aloadN (pc := 69) B d15_69 rfl rfl ?_
    refine o_getF (pc := 70) B d15_70 (hw _ (List.mem_of_getElem? (i := 44) rfl)) (F2.other W1 (Or.inl sg)) ?_
    refine o_iload (pc := 73) B d15_73 rfl ?_
    refine o_aloadN (pc := 75) B d15_75 rfl rfl ?_
    refine o_iloadN (pc := 76) B d15_76 rfl ?_
    refine o_laload (pc := 77) B (i) d15_77 (AP.other W1 pg) (rfl) (z2) ?_
    refine o_lastore (pc := 78) B ((x.toBitVec.toNat % 2 ^ 5 + d0) % 2 ^ 5) d15_78 (AY.other W1 (Ne.symm gpn)) (rfl) (own_mltL (by omega)) (gp) ?_
    intro h2 W2
    refine o_iinc_5_3 (pc := 79) B (1 : Int32) (Int32.ofNat (i + 1)) d15_79 (by decide) (own_one i) ?_
    refine o_goto (pc := 82) (pc' := 33) B d15_82 (by decide) (by decide) ?_
    have nz := own_nz_set x G ((x.toBitVec.toNat % 2 ^ 5 + d0) % 2 ^ 5)
    exact ih (i + 1) h2 _ _ _ rfl (by omega) ((F1.other W1 (Or.inl sg)).other W2 (Or.inl sp)) ((F2.other W1 (Or.inl sg)).other W2 (Or.inl sp)) ((A.other W1 kg).other W2 kp) ((AP.other W1 pg).other W2 pp) ((o_LA.same AG W1).other W2 gpn) (by rw [List.length_set]; exact hG) (o_LA.same (AY.other W1 (Ne.symm gpn)) W2) (by rw [List.length_set]; exact hY) (by omega) ((K.wr W1 (Or.inl (by simp))).wr W2 (Or.inl (by simp)))
set_option maxRecDepth 65536 in
set_option maxHeartbeats 40000000 in
theorem oc15 (l : Launch) (Z : State) (a0 : Array Value) (hw : ∀ d ∈ tables_1, d.before a0 Z = true) (n0 : Nat) (h : Heap) (t s ka pa : Addr) (T : List Int64) (c : Int32) (hT : T.length = 16) (gs : n0 ≤ s) (sk : s ≠ ka) (sp : s ≠ pa) (S : own_Sg Z h t s ka pa T c) : o_C l Z n0 oy15 prog_21_method_5_code 5 none orm15 [(.ref s)] h (fun v h' => v = none ∧ (∃ g G', Fld Z h' s own_SG "keys" "[J" (.ref g) ∧ o_LA Z h' g G' ∧ G'.length = 32 ∧ g ≠ s) ∧ Keep h h' [s]) := by
  refine o_body (Ls := [.val (.ref s), .unset, .unset, .unset, .unset]) pn15 (by first | (simp [argsToLocals, Value.category]; done) | rfl) (fun κ B => ?_)
  obtain ⟨E, F1, F2, F3, F4, A, P, AP, eP⟩ := S
  have l1 := o_lt E.lt
  have l2 := o_lt A.lt
  have l3 := o_lt AP.lt
  refine o_aloadN (pc := 0) B d15_0 rfl rfl ?_
  refine o_getF (pc := 1) B d15_1 (hw _ (List.mem_of_getElem? (i := 42) rfl)) (F2) ?_
  refine o_astoreN_5_1 (pc := 4) B d15_4 rfl rfl ?_
  refine o_aloadN (pc := 5) B d15_5 rfl rfl ?_
  refine o_getF (pc := 6) B d15_6 (hw _ (List.mem_of_getElem? (i := 44) rfl)) (F3) ?_
  refine o_astoreN_5_2 (pc := 9) B d15_9 rfl rfl ?_
  refine o_aloadN (pc := 10) B d15_10 rfl rfl ?_
  refine o_iconst (pc := 11) B (2 : Int32) d15_11 (by decide) ?_
  refine o_aloadN (pc := 12) B d15_12 rfl rfl ?_
  refine o_arraylen (pc := 13) B (16 : Int32) d15_13 (A) (by rw [List.length_map, hT]; rfl) ?_
  refine o_imul_c (pc := 14) B (32 : Int32) d15_14 (by decide) ?_
  refine o_newarray (pc := 15) B (32) (32) d15_15 (hw _ (List.mem_of_getElem? (i := 41) rfl)) (by decide) (by first | decide | omega) (by first | decide | omega) (by decide) (by decide) ?_
  intro h1 X1 lt1 A1
  obtain ⟨g, gg, eg⟩ : ∃ a, n0 ≤ a ∧ a = h.size := ⟨_, o_le (Nat.le_trans (o_le gs) (Nat.le_of_lt l1)), rfl⟩
  rw [← eg] at A1 ⊢
  have A1' : o_LA Z h1 g (List.replicate 32 0) := A1
  have e1 := o_eq eg
  have sg : s ≠ g := o_ne (by omega)
  refine o_putF (pc := 17) (ty := (.array .long)) B d15_17 (hw _ (List.mem_of_getElem? (i := 42) rfl)) (F2.ext X1) (E.ext X1) (Or.inl (hw _ (List.mem_of_getElem? (i := 43) rfl))) (hw _ (List.mem_of_getElem? (i := 33) rfl)) (by decide) rfl rfl (gs) ?_
  intro h2 W2
  have s2 := W2.size
  have G2 := (F2.ext X1).same W2
  have G3 := (F3.ext X1).other W2 (Or.inr (slot_ne (C := "com/example/one_verdict/oneverdict/check/PlaceTable$Segment") (Or.inl (hw _ (List.mem_of_getElem? (i := 45) rfl))) (Or.inl (hw _ (List.mem_of_getElem? (i := 43) rfl))) (by decide) (by decide : parseFieldDescriptor "[J" = some (.array .long)) (by decide : parseFieldDescriptor "[J" = some (.array .long))))
  have A2 := A1'.other W2 (Ne.symm sg)
  refine o_aloadN (pc := 20) B d15_20 rfl rfl ?_
  refine o_aloadN (pc := 21) B d15_21 rfl rfl ?_
  refine o_getF (pc := 22) B d15_22 (hw _ (List.mem_of_getElem? (i := 42) rfl)) (G2) ?_
  refine o_arraylen (pc := 25) B (32 : Int32) d15_25 (A2) (by simp) ?_
  refine o_newarray (pc := 26) B (32) (32) d15_26 (hw _ (List.mem_of_getElem? (i := 41) rfl)) (by decide) (by first | decide | omega) (by first | decide | omega) (by decide) (by decide) ?_
  intro h3 X3 lt3 A3
  obtain ⟨p, gp, ep⟩ : ∃ a, n0 ≤ a ∧ a = h2.size := ⟨_, o_le (by rw [s2]; exact Nat.le_trans (o_le gg) (Nat.le_of_lt (o_lt A1'.lt))), rfl⟩
  rw [← ep] at A3 ⊢
  have A3' : o_LA Z h3 p (List.replicate 32 0) := A3
  have e3 := o_eq ep
  have l4 := o_lt A1'.lt
  have l5 := X1.1
  have sp' : s ≠ p := o_ne (by omega)
  have gpn : g ≠ p := o_ne (by omega)
  refine o_putF (pc := 28) (ty := (.array .long)) B d15_28 (hw _ (List.mem_of_getElem? (i := 44) rfl)) (G3.ext X3) (((E.ext X1).wr W2).ext X3) (Or.inl (hw _ (List.mem_of_getElem? (i := 45) rfl))) (hw _ (List.mem_of_getElem? (i := 33) rfl)) (by decide) rfl rfl (gs) ?_
  intro h4 W4
  have K4 : Keep h h4 [s] := ((((Keep.refl h [s]).ext X1).wr W2 (Or.inl (by simp))).ext X3).wr W4 (Or.inl (by simp))
  refine o_iconst (pc := 31) B (0 : Int32) d15_31 (by decide) ?_
  refine o_istoreN_5_3 (pc := 32) B d15_32 rfl ?_
  rw [show (0 : Int32) = Int32.ofNat 0 from rfl]
  have kg : ka ≠ g := o_ne (by omega)
  have kp : ka ≠ p := o_ne (by omega)
  have pg : pa ≠ g := o_ne (by omega)
  have pp : pa ≠ p := o_ne (by omega)
  refine o_imp ?_ (own_gl l Z a0 hw n0 h4 κ B s ka pa g p T P hT (by rw [eP]; exact hT) gg gp sg sp' kg kp pg pp gpn 16 0 h4 (List.replicate 32 0) (List.replicate 32 0) .unset rfl rfl ((G2.ext X3).other W4 (Or.inr (slot_ne (C := "com/example/one_verdict/oneverdict/check/PlaceTable$Segment") (Or.inl (hw _ (List.mem_of_getElem? (i := 43) rfl))) (Or.inl (hw _ (List.mem_of_getElem? (i := 45) rfl))) (by decide) (by decide : parseFieldDescriptor "[J" = some (.array .long)) (by decide : parseFieldDescriptor "[J" = some (.array .long))))) ((G3.ext X3).same W4) ((((A.ext X1).other W2 (Ne.symm sk)).ext X3).other W4 (Ne.symm sk)) ((((AP.ext X1).other W2 (Ne.symm sp)).ext X3).other W4 (Ne.symm sp)) ((A2.ext X3).other W4 (Ne.symm sg)) (by simp) (A3'.other W4 (Ne.symm sp')) (by simp) (by rw [own_nz_rep]; exact Nat.le_refl _) (Keep.refl _ _))
  rintro v h' ⟨rfl, F, ⟨G', AG, hG⟩, K'⟩
  exact ⟨rfl, ⟨g, G', F, AG, hG, Ne.symm sg⟩, K4.trans K' (fun x hx => Or.inr (by simp only [List.mem_cons, List.not_mem_nil, or_false] at hx; rcases hx with rfl | rfl <;> (show (_ : Nat) ≤ _; omega)))⟩
set_option maxRecDepth 65536 in
set_option maxHeartbeats 40000000 in
theorem oc13a (l : Launch) (Z : State) (a0 : Array Value) (hw : ∀ d ∈ tables_1, d.before a0 Z = true) (n0 : Nat) (h : Heap) (t s ka pa : Addr) (T : List Int64) (c i : Nat) (key place : Int64) (hT : T.length = 16) (hi : i < 16) (hc : c < 12) (gs : n0 ≤ s) (gk : n0 ≤ ka) (gp : n0 ≤ pa) (sk : s ≠ ka) (sp : s ≠ pa) (kp : ka ≠ pa) (S : own_Sg Z h t s ka pa T (Int32.ofNat c)) : o_C l Z n0 oy13 prog_21_method_2_code 6 none orm13 [(.ref s), (.int (Int32.ofNat i)), (.long key), (.long place)] h (fun v h' => v = none ∧ own_Sg Z h' t s ka pa (T.set i key) (Int32.ofNat (c + 1)) ∧ Keep h h' [s, ka, pa]) := by
  refine o_body (Ls := [.val (.ref s), .val (.int (Int32.ofNat i)), .val (.long key), .second, .val (.long place), .second]) pn13 (by first | (simp [argsToLocals, Value.category]; done) | rfl) (fun κ B => ?_)
  obtain ⟨E, F1, F2, F3, F4, A, P, AP, eP⟩ := S
  refine o_aloadN (pc := 0) B d13_0 rfl rfl ?_
  refine o_getF (pc := 1) B d13_1 (hw _ (List.mem_of_getElem? (i := 42) rfl)) (F2) ?_
  refine o_iloadN (pc := 4) B d13_4 rfl ?_
  refine o_lloadN (pc := 5) B d13_5 rfl ?_
  refine o_lastore (pc := 6) B (i) d13_6 (A) (rfl) (own_mltL (by omega)) (gk) ?_
  intro h1 W1
  refine o_aloadN (pc := 7) B d13_7 rfl rfl ?_
  refine o_getF (pc := 8) B d13_8 (hw _ (List.mem_of_getElem? (i := 44) rfl)) (F3.other W1 (Or.inl sk)) ?_
  refine o_iloadN (pc := 11) B d13_11 rfl ?_
  refine o_lload (pc := 12) B d13_12 rfl ?_
  refine o_lastore (pc := 14) B (i) d13_14 (AP.other W1 (Ne.symm kp)) (rfl) (own_mltL (by omega)) (gp) ?_
  intro h2 W2
  have E2 := (E.wr W1).wr W2
  have G1 := (F1.other W1 (Or.inl sk)).other W2 (Or.inl sp)
  have G2 := (F2.other W1 (Or.inl sk)).other W2 (Or.inl sp)
  have G3 := (F3.other W1 (Or.inl sk)).other W2 (Or.inl sp)
  have G4 := (F4.other W1 (Or.inl sk)).other W2 (Or.inl sp)
  have A2 := (o_LA.same A W1).other W2 kp
  have B2 := o_LA.same (AP.other W1 (Ne.symm kp)) W2
  refine o_aloadN (pc := 15) B d13_15 rfl rfl ?_
  refine o_dup (pc := 16) B d13_16 rfl ?_
  refine o_getF (pc := 17) B d13_17 (hw _ (List.mem_of_getElem? (i := 81) rfl)) (G4) ?_
  refine o_iconst (pc := 20) B (1 : Int32) d13_20 (by decide) ?_
  refine o_iadd (pc := 21) B d13_21 ?_
  rw [own_one]
  refine o_putF (pc := 22) (ty := .int) B d13_22 (hw _ (List.mem_of_getElem? (i := 81) rfl)) (G4) (E2) (Or.inl (hw _ (List.mem_of_getElem? (i := 82) rfl))) (hw _ (List.mem_of_getElem? (i := 33) rfl)) (by decide) rfl rfl (gs) ?_
  intro h3 W3
  have E3 := E2.wr W3
  have H1 := G1.other W3 (Or.inr (slot_ne (C := "com/example/one_verdict/oneverdict/check/PlaceTable$Segment") (Or.inr (hw _ (List.mem_of_getElem? (i := 39) rfl))) (Or.inl (hw _ (List.mem_of_getElem? (i := 82) rfl))) (by decide) (by decide : parseFieldDescriptor "Lcom/example/one_verdict/oneverdict/check/PlaceTable;" = some (.object "com/example/one_verdict/oneverdict/check/PlaceTable")) (by decide : parseFieldDescriptor "I" = some .int)))
  have H2 := G2.other W3 (Or.inr (slot_ne (C := "com/example/one_verdict/oneverdict/check/PlaceTable$Segment") (Or.inl (hw _ (List.mem_of_getElem? (i := 43) rfl))) (Or.inl (hw _ (List.mem_of_getElem? (i := 82) rfl))) (by decide) (by decide : parseFieldDescriptor "[J" = some (.array .long)) (by decide : parseFieldDescriptor "I" = some .int)))
  have H3 := G3.other W3 (Or.inr (slot_ne (C := "com/example/one_verdict/oneverdict/check/PlaceTable$Segment") (Or.inl (hw _ (List.mem_of_getElem? (i := 45) rfl))) (Or.inl (hw _ (List.mem_of_getElem? (i := 82) rfl))) (by decide) (by decide : parseFieldDescriptor "[J" = some (.array .long)) (by decide : parseFieldDescriptor "I" = some .int)))
  have H4 := G4.same W3
  have A3 := A2.other W3 (Ne.symm sk)
  have B3 := B2.other W3 (Ne.symm sp)
  have S3 : own_Sg Z h3 t s ka pa (T.set i key) (Int32.ofNat (c + 1)) := ⟨E3, H1, H2, H3, H4, A3, _, B3, by rw [List.length_set, List.length_set]; exact eP⟩
  have K3 : Keep h h3 [s, ka, pa] := (((Keep.refl h [s, ka, pa]).wr W1 (Or.inl (by simp))).wr W2 (Or.inl (by simp))).wr W3 (Or.inl (by simp))
  refine o_aloadN (pc := 25) B d13_25 rfl rfl ?_
  refine o_getF (pc := 26) B d13_26 (hw _ (List.mem_of_getElem? (i := 81) rfl)) (H4) ?_
  refine o_aloadN (pc := 29) B d13_29 rfl rfl ?_
  refine o_getF (pc := 30) B d13_30 (hw _ (List.mem_of_getElem? (i := 42) rfl)) (H2) ?_
  refine o_arraylen (pc := 33) B (16 : Int32) d13_33 (A3) (by rw [List.length_map, List.length_set, hT]; rfl) ?_
  refine o_callS2 (pc := 34) B 0 d13_34 (hw _ (List.mem_of_getElem? (i := 83) rfl)) (hw _ (List.mem_of_getElem? (i := 84) rfl)) (hw _ (List.mem_of_getElem? (i := 62) rfl)) (hw _ (List.mem_of_getElem? (i := 85) rfl)) (by decide) pd14 rfl (by first | exact Nat.zero_le _ | exact Nat.le_of_ble_eq_true rfl | simp [Value.category]) (by decide) (by decide) (by decide) (by decide) rfl (oc14a l Z a0 hw n0 _ (c + 1) (by omega)) ?_
  rintro v h' ⟨rfl, rfl⟩
  refine o_if_eq (pc := 37) (pc' := 66) B d13_37 (by decide) (by decide) (fun hc37 => ?_) (fun hc37 => False.elim (by revert hc37; decide))
  exact o_return (pc := 66) B d13_66 (by decide) (by decide) (⟨rfl, S3, K3⟩)
set_option maxRecDepth 65536 in
set_option maxHeartbeats 40000000 in
theorem oc13b (l : Launch) (Z : State) (a0 : Array Value) (hw : ∀ d ∈ tables_1, d.before a0 Z = true) (n0 : Nat) (h : Heap) (t s ka pa : Addr) (T : List Int64) (c i : Nat) (key place : Int64) (hT : T.length = 16) (hi : i < 16) (hc : c = 12) (gs : n0 ≤ s) (gk : n0 ≤ ka) (gp : n0 ≤ pa) (sk : s ≠ ka) (sp : s ≠ pa) (kp : ka ≠ pa) (S : own_Sg Z h t s ka pa T (Int32.ofNat c)) (M : Nat) (M1 : M < 2 ^ 31) (M2 : 32 ≤ M) (FM : Fld Z h t own_PT "mostSlots" "I" (.int (Int32.ofNat M))) (ts : t ≠ s) (tk : t ≠ ka) (tp : t ≠ pa) : o_C l Z n0 oy13 prog_21_method_2_code 6 none orm13 [(.ref s), (.int (Int32.ofNat i)), (.long key), (.long place)] h (fun v h' => v = none ∧ (∃ g G', Fld Z h' s own_SG "keys" "[J" (.ref g) ∧ o_LA Z h' g G' ∧ G'.length = 32 ∧ g ≠ s) ∧ Keep h h' [s, ka, pa]) := by
  refine o_body (Ls := [.val (.ref s), .val (.int (Int32.ofNat i)), .val (.long key), .second, .val (.long place), .second]) pn13 (by first | (simp [argsToLocals, Value.category]; done) | rfl) (fun κ B => ?_)
  obtain ⟨E, F1, F2, F3, F4, A, P, AP, eP⟩ := S
  refine o_aloadN (pc := 0) B d13_0 rfl rfl ?_
  refine o_getF (pc := 1) B d13_1 (hw _ (List.mem_of_getElem? (i := 42) rfl)) (F2) ?_
  refine o_iloadN (pc := 4) B d13_4 rfl ?_
  refine o_lloadN (pc := 5) B d13_5 rfl ?_
  refine o_lastore (pc := 6) B (i) d13_6 (A) (rfl) (own_mltL (by omega)) (gk) ?_
  intro h1 W1
  refine o_aloadN (pc := 7) B d13_7 rfl rfl ?_
  refine o_getF (pc := 8) B d13_8 (hw _ (List.mem_of_getElem? (i := 44) rfl)) (F3.other W1 (Or.inl sk)) ?_
  refine o_iloadN (pc := 11) B d13_11 rfl ?_
  refine o_lload (pc := 12) B d13_12 rfl ?_
  refine o_lastore (pc := 14) B (i) d13_14 (AP.other W1 (Ne.symm kp)) (rfl) (own_mltL (by omega)) (gp) ?_
  intro h2 W2
  have E2 := (E.wr W1).wr W2
  have G1 := (F1.other W1 (Or.inl sk)).other W2 (Or.inl sp)
  have G2 := (F2.other W1 (Or.inl sk)).other W2 (Or.inl sp)
  have G3 := (F3.other W1 (Or.inl sk)).other W2 (Or.inl sp)
  have G4 := (F4.other W1 (Or.inl sk)).other W2 (Or.inl sp)
  have A2 := (o_LA.same A W1).other W2 kp
  have B2 := o_LA.same (AP.other W1 (Ne.symm kp)) W2
  refine o_aloadN (pc := 15) B d13_15 rfl rfl ?_
  refine o_dup (pc := 16) B d13_16 rfl ?_
  refine o_getF (pc := 17) B d13_17 (hw _ (List.mem_of_getElem? (i := 81) rfl)) (G4) ?_
  refine o_iconst (pc := 20) B (1 : Int32) d13_20 (by decide) ?_
  refine o_iadd (pc := 21) B d13_21 ?_
  rw [own_one]
  refine o_putF (pc := 22) (ty := .int) B d13_22 (hw _ (List.mem_of_getElem? (i := 81) rfl)) (G4) (E2) (Or.inl (hw _ (List.mem_of_getElem? (i := 82) rfl))) (hw _ (List.mem_of_getElem? (i := 33) rfl)) (by decide) rfl rfl (gs) ?_
  intro h3 W3
  have E3 := E2.wr W3
  have H1 := G1.other W3 (Or.inr (slot_ne (C := "com/example/one_verdict/oneverdict/check/PlaceTable$Segment") (Or.inr (hw _ (List.mem_of_getElem? (i := 39) rfl))) (Or.inl (hw _ (List.mem_of_getElem? (i := 82) rfl))) (by decide) (by decide : parseFieldDescriptor "Lcom/example/one_verdict/oneverdict/check/PlaceTable;" = some (.object "com/example/one_verdict/oneverdict/check/PlaceTable")) (by decide : parseFieldDescriptor "I" = some .int)))
  have H2 := G2.other W3 (Or.inr (slot_ne (C := "com/example/one_verdict/oneverdict/check/PlaceTable$Segment") (Or.inl (hw _ (List.mem_of_getElem? (i := 43) rfl))) (Or.inl (hw _ (List.mem_of_getElem? (i := 82) rfl))) (by decide) (by decide : parseFieldDescriptor "[J" = some (.array .long)) (by decide : parseFieldDescriptor "I" = some .int)))
  have H3 := G3.other W3 (Or.inr (slot_ne (C := "com/example/one_verdict/oneverdict/check/PlaceTable$Segment") (Or.inl (hw _ (List.mem_of_getElem? (i := 45) rfl))) (Or.inl (hw _ (List.mem_of_getElem? (i := 82) rfl))) (by decide) (by decide : parseFieldDescriptor "[J" = some (.array .long)) (by decide : parseFieldDescriptor "I" = some .int)))
  have H4 := G4.same W3
  have A3 := A2.other W3 (Ne.symm sk)
  have B3 := B2.other W3 (Ne.symm sp)
  have S3 : own_Sg Z h3 t s ka pa (T.set i key) (Int32.ofNat (c + 1)) := ⟨E3, H1, H2, H3, H4, A3, _, B3, by rw [List.length_set, List.length_set]; exact eP⟩
  have K3 : Keep h h3 [s, ka, pa] := (((Keep.refl h [s, ka, pa]).wr W1 (Or.inl (by simp))).wr W2 (Or.inl (by simp))).wr W3 (Or.inl (by simp))
  refine o_aloadN (pc := 25) B d13_25 rfl rfl ?_
  refine o_getF (pc := 26) B d13_26 (hw _ (List.mem_of_getElem? (i := 81) rfl)) (H4) ?_
  refine o_aloadN (pc := 29) B d13_29 rfl rfl ?_
  refine o_getF (pc := 30) B d13_30 (hw _ (List.mem_of_getElem? (i := 42) rfl)) (H2) ?_
  refine o_arraylen (pc := 33) B (16 : Int32) d13_33 (A3) (by rw [List.length_map, List.length_set, hT]; rfl) ?_
  subst hc
  refine o_callS2 (pc := 34) B 0 d13_34 (hw _ (List.mem_of_getElem? (i := 83) rfl)) (hw _ (List.mem_of_getElem? (i := 84) rfl)) (hw _ (List.mem_of_getElem? (i := 62) rfl)) (hw _ (List.mem_of_getElem? (i := 85) rfl)) (by decide) pd14 rfl (by first | exact Nat.zero_le _ | exact Nat.le_of_ble_eq_true rfl | simp [Value.category]) (by decide) (by decide) (by decide) (by decide) rfl (oc14b l Z a0 hw n0 _) ?_
  rintro v h' ⟨rfl, rfl⟩
  refine o_if_eq (pc := 37) (pc' := 66) B d13_37 (by decide) (by decide) (fun hc37 => False.elim (by revert hc37; decide)) (fun hc37 => ?_)
  refine o_aloadN (pc := 40) B d13_40 rfl rfl ?_
  refine o_getF (pc := 41) B d13_41 (hw _ (List.mem_of_getElem? (i := 42) rfl)) (H2) ?_
  refine o_arraylen (pc := 44) B (16 : Int32) d13_44 (A3) (by rw [List.length_map, List.length_set, hT]; rfl) ?_
  refine o_aloadN (pc := 45) B d13_45 rfl rfl ?_
  refine o_getF (pc := 46) B d13_46 (hw _ (List.mem_of_getElem? (i := 38) rfl)) (H1) ?_
  refine o_getN (pc := 49) B d13_49 (hw _ (List.mem_of_getElem? (i := 102) rfl)) (FM.keep K3 (by simp only [List.mem_cons, List.not_mem_nil, or_false, not_or]; exact ⟨ts, tk, tp⟩)) ?_
  refine o_icmp_ge (pc := 52) (pc' := 62) B d13_52 (by decide) (by decide) (fun hc52 => False.elim ((hc52 ((own_ltn (a := 16) (by decide) M1).mpr (by omega))))) (fun hc52 => ?_)
  refine o_aloadN (pc := 55) B d13_55 rfl rfl ?_
  refine o_callP0 (pc := 56) B 0 d13_56 (hw _ (List.mem_of_getElem? (i := 103) rfl)) (hw _ (List.mem_of_getElem? (i := 104) rfl)) (hw _ (List.mem_of_getElem? (i := 105) rfl)) (hw _ (List.mem_of_getElem? (i := 33) rfl)) (hw _ (List.mem_of_getElem? (i := 34) rfl)) (hw _ (List.mem_of_getElem? (i := 106) rfl)) (by decide) pd15 rfl (by first | exact Nat.zero_le _ | exact Nat.le_of_ble_eq_true rfl | simp [Value.category]) (by decide) (by decide) (by decide) (by decide) rfl (E3) (oc15 l Z a0 hw n0 _ t s ka pa _ _ (by rw [List.length_set]; exact hT) gs sk sp S3) ?_
  rintro v h' ⟨rfl, GG, K'⟩
  refine o_goto (pc := 59) (pc' := 66) B d13_59 (by decide) (by decide) ?_
  exact o_return (pc := 66) B d13_66 (by decide) (by decide) (⟨rfl, GG, K3.trans K' (fun x hx => Or.inl (by simp only [List.mem_singleton] at hx; simp [hx]))⟩)
/-- the table: c keys lie in segment g, all the others are empty -/
def own_Tab (Z : State) (n0 : Nat) (h : Heap) (t b : Addr) (g : Nat) (T : List Int64) (c M : Nat) : Prop :=
  n0 ≤ b ∧ t < b ∧ Exa Z h t own_PT ∧ Fld Z h t own_PT "segments" own_SD (.ref b) ∧ Fld Z h t own_PT "mostSlots" "I" (.int (Int32.ofNat M)) ∧ o_AR Z h b (.object own_SG) (own_rl b 64) ∧ own_Sg Z h t (b + 1 + 3 * g) (b + 2 + 3 * g) (b + 3 + 3 * g) T (Int32.ofNat c) ∧ Unt h (b + 1 + 3 * g) ∧
  ∀ i : Nat, i < 64 → i ≠ g → Fld Z h (b + 1 + 3 * i) own_SG "keys" "[J" (.ref (b + 2 + 3 * i)) ∧ ∃ K, o_LA Z h (b + 2 + 3 * i) K ∧ K.length = 16
/-- what slots() asks -/
def own_Fin (Z : State) (h : Heap) (t b : Addr) (f : Nat → Nat) : Prop :=
  Exa Z h t own_PT ∧ Fld Z h t own_PT "segments" own_SD (.ref b) ∧ o_AR Z h b (.object own_SG) (own_rl b 64) ∧ ∀ i : Nat, i < 64 → ∃ ka K, Fld Z h (b + 1 + 3 * i) own_SG "keys" "[J" (.ref ka) ∧ o_LA Z h ka K ∧ K.length = f i
def own_f (g w i : Nat) : Nat := if i = g then w else 16
theorem own_Tab.fin {Z : State} {n0 : Nat} {h : Heap} {t b : Addr} {g c M : Nat} {T : List Int64} (A : own_Tab Z n0 h t b g T c M) (hT : T.length = 16) : own_Fin Z h t b (own_f g 16) := by
  obtain ⟨-, -, E, F1, F2, A1, S, U, H⟩ := A
  refine ⟨E, F1, A1, fun i hi => ?_⟩
  by_cases e : i = g
  · subst e
    exact ⟨_, T, S.2.2.1, S.2.2.2.2.2.1, by simp [own_f, hT]⟩
  · obtain ⟨q1, K, q2, q3⟩ := H i hi e
    exact ⟨_, K, q1, q2, by simp [own_f, e, q3]⟩
theorem own_fsum {g w : Nat} (hg : g < 64) : ((List.range 64).map (own_f g w)).sum = 1008 + w := by
  have q := own_sum g w (own_f g w) (fun i hi => by simp [own_f, hi]) (by simp [own_f]) 64
  simp only [hg, if_true] at q
  omega
set_option maxRecDepth 65536 in
set_option maxHeartbeats 40000000 in
theorem oc16a (l : Launch) (Z : State) (a0 : Array Value) (hw : ∀ d ∈ tables_1, d.before a0 Z = true) (n0 : Nat) (h : Heap) (t b : Addr) (g c M i : Nat) (T : List Int64) (key place : Int64) (hg : g < 64) (hT : T.length = 16) (hx : key ≠ 0) (hi : key.toBitVec.toNat % 2 ^ 4 = i) (hz : T[i]? = some 0) (hk : (XT.ushrL (key ^^^ (-9223372036854775808)) 58).toInt32 = Int32.ofNat g) (hc : c < 12) (A : own_Tab Z n0 h t b g T c M) : o_CH l Z n0 oy16 prog_19_method_3_code 13 (some .long) [(20, 79, 80, 0), (80, 85, 80, 0)] orm16 [(.ref t), (.long key), (.long place)] h (fun v h' => (∃ x, v = some (.long x)) ∧ own_Tab Z n0 h' t b g (T.set i key) (c + 1) M) := by
  refine o_bodyH (Ls := [.val (.ref t), .val (.long key), .second, .val (.long place), .second, .unset, .unset, .unset, .unset, .unset, .unset, .unset, .unset]) pn16 (by first | (simp [argsToLocals, Value.category]; done) | rfl) (fun κ B HO => ?_)
  obtain ⟨gb', tb', E, F1, F2, A1, S, U, H⟩ := A
  have gb := o_le gb'
  have tb := o_lt tb'
  have hi16 : i < 16 := by rw [← hi]; exact Nat.mod_lt _ (by decide)
  obtain ⟨s, es⟩ : ∃ s : Addr, s = b + 1 + 3 * g := ⟨_, rfl⟩
  obtain ⟨ka, ek⟩ : ∃ s : Addr, s = b + 2 + 3 * g := ⟨_, rfl⟩
  obtain ⟨pa, ep⟩ : ∃ s : Addr, s = b + 3 + 3 * g := ⟨_, rfl⟩
  rw [← es, ← ek, ← ep] at S
  rw [← es] at U
  have es' := o_eq es
  have ek' := o_eq ek
  have ep' := o_eq ep
  have sk : s ≠ ka := o_ne (by omega)
  have sp : s ≠ pa := o_ne (by omega)
  have kp : ka ≠ pa := o_ne (by omega)
  refine o_lloadN (pc := 0) B d16_0 rfl ?_
  refine o_callS1 (pc := 1) B 0 d16_1 (hw _ (List.mem_of_getElem? (i := 60) rfl)) (hw _ (List.mem_of_getElem? (i := 61) rfl)) (hw _ (List.mem_of_getElem? (i := 62) rfl)) (hw _ (List.mem_of_getElem? (i := 63) rfl)) (by decide) pd9 rfl (by first | exact Nat.zero_le _ | exact Nat.le_of_ble_eq_true rfl | simp [Value.category]) (by decide) (by decide) (by decide) (by decide) rfl (oc9 l Z a0 hw n0 _ key hx) ?_
  rintro v h' ⟨rfl, rfl⟩
  refine o_lstore_13_5 (pc := 4) B d16_4 rfl ?_
  refine o_aloadN (pc := 6) B d16_6 rfl rfl ?_
  refine o_lload (pc := 7) B d16_7 rfl ?_
  refine o_callP1 (pc := 9) B 0 d16_9 (hw _ (List.mem_of_getElem? (i := 64) rfl)) (hw _ (List.mem_of_getElem? (i := 65) rfl)) (hw _ (List.mem_of_getElem? (i := 66) rfl)) (hw _ (List.mem_of_getElem? (i := 1) rfl)) (hw _ (List.mem_of_getElem? (i := 2) rfl)) (hw _ (List.mem_of_getElem? (i := 67) rfl)) (by decide) pd10 rfl (by first | exact Nat.zero_le _ | exact Nat.le_of_ble_eq_true rfl | simp [Value.category]) (by decide) (by decide) (by decide) (by decide) rfl (E) (oc10 l Z a0 hw n0 _ t b g key hg hk F1 A1) ?_
  rintro v h' ⟨rfl, rfl⟩
  rw [← es]
  refine o_astore_13_7 (pc := 12) B d16_12 rfl rfl ?_
  refine o_aload (pc := 14) B d16_14 rfl rfl ?_
  refine o_dup (pc := 16) B d16_16 rfl ?_
  refine o_astore_13_8 (pc := 17) B d16_17 rfl rfl ?_
  have B0 := B
  refine o_enter (pc := 19) B (HO s S.1.lt) (U) d16_19 (by decide) (by decide) rfl ?_
  intro κ1 h1 B1 Sb M1_
  have B := B1
  have S1 := S.mo M1_ (Ne.symm sk) (Ne.symm sp)
  refine o_aload (pc := 20) B d16_20 rfl rfl ?_
  refine o_getR (pc := 22) B d16_22 (hw _ (List.mem_of_getElem? (i := 52) rfl)) (S1.2.2.1) ?_
  refine o_lload (pc := 25) B d16_25 rfl ?_
  have H0 : own_H T key ((key.toBitVec.toNat % 2 ^ 4 + 0) % 2 ^ 4) := ⟨0, by rw [Nat.add_zero, Nat.mod_mod, hi]; exact hz, Or.inl rfl⟩
  refine o_callS2 (pc := 27) B 2 d16_27 (hw _ (List.mem_of_getElem? (i := 72) rfl)) (hw _ (List.mem_of_getElem? (i := 73) rfl)) (hw _ (List.mem_of_getElem? (i := 62) rfl)) (hw _ (List.mem_of_getElem? (i := 74) rfl)) (by decide) pd12 rfl (by first | exact Nat.zero_le _ | exact Nat.le_of_ble_eq_true rfl | simp [Value.category]) (by decide) (by decide) (by decide) (by decide) rfl (oc12 l Z a0 hw n0 _ ka T key 4 0 S1.2.2.2.2.2.1 (by decide) hT H0 (fun d q => absurd q (Nat.not_lt_zero d))) ?_
  rintro v h' ⟨rfl, rfl⟩
  rw [show (key.toBitVec.toNat % 2 ^ 4 + 0) % 2 ^ 4 = i by rw [Nat.add_zero, Nat.mod_mod, hi]]
  refine o_istore_13_9 (pc := 30) B d16_30 rfl ?_
  refine o_ldc2_w (pc := 32) B (x := (9223372036854775807 : Int64)) d16_32 (hw _ (List.mem_of_getElem? (i := 75) rfl)) ?_
  refine o_lstore_13_10 (pc := 35) B d16_35 rfl ?_
  refine o_aload (pc := 37) B d16_37 rfl rfl ?_
  refine o_getR (pc := 39) B d16_39 (hw _ (List.mem_of_getElem? (i := 52) rfl)) (S1.2.2.1) ?_
  refine o_iload (pc := 42) B d16_42 rfl ?_
  refine o_laload (pc := 44) B (i) d16_44 (S1.2.2.2.2.2.1) (rfl) (own_mapL hz) ?_
  refine o_lload (pc := 45) B d16_45 rfl ?_
  refine o_lcmp (pc := 47) B d16_47 ?_
  refine o_lif_ne (pc := 48) (pc' := 64) B d16_48 (by decide) (by decide) (fun hc48 => ?_) (fun hc48 => False.elim ((hx hc48.symm)))
  refine o_aload (pc := 64) B d16_64 rfl rfl ?_
  refine o_iload (pc := 66) B d16_66 rfl ?_
  refine o_lload (pc := 68) B d16_68 rfl ?_
  refine o_lloadN (pc := 70) B d16_70 rfl ?_
  refine o_callV3 (pc := 71) B 2 d16_71 (hw _ (List.mem_of_getElem? (i := 76) rfl)) (hw _ (List.mem_of_getElem? (i := 77) rfl)) (hw _ (List.mem_of_getElem? (i := 79) rfl)) (hw _ (List.mem_of_getElem? (i := 78) rfl)) (hw _ (List.mem_of_getElem? (i := 34) rfl)) (hw _ (List.mem_of_getElem? (i := 80) rfl)) (by decide) pd13 rfl (by first | exact Nat.zero_le _ | exact Nat.le_of_ble_eq_true rfl | simp [Value.category]) (by decide) (by decide) (by decide) (by decide) rfl (S1.1) (oc13a l Z a0 hw n0 _ t s ka pa T c i key place hT hi16 hc (o_le (by omega)) (o_le (by omega)) (o_le (by omega)) sk sp kp S1) ?_
  rintro v h2 ⟨rfl, S2, K2⟩
  refine o_lload (pc := 74) B d16_74 rfl ?_
  refine o_aload (pc := 76) B d16_76 rfl rfl ?_
  refine o_exit (pc := 78) Sb B0 d16_78 ?_
  intro κ3 h3 B3 M3 U3
  have KK : Keep _ h3 [s, ka, pa] := (((Keep.refl _ [s, ka, pa]).trans M1_.keep (fun x hx => Or.inl (by simp only [List.mem_singleton] at hx; simp [hx]))).trans K2 (fun x hx => Or.inl hx)).trans M3.keep (fun x hx => Or.inl (by simp only [List.mem_singleton] at hx; simp [hx]))
  have nt : t ∉ [s, ka, pa] := by simp only [List.mem_cons, List.not_mem_nil, or_false, not_or]; exact ⟨o_ne (by omega), o_ne (by omega), o_ne (by omega)⟩
  have nb : b ∉ [s, ka, pa] := by simp only [List.mem_cons, List.not_mem_nil, or_false, not_or]; exact ⟨o_ne (by omega), o_ne (by omega), o_ne (by omega)⟩
  have OO : ∀ i : Nat, i < 64 → i ≠ g → Fld Z h3 (b + 1 + 3 * i) own_SG "keys" "[J" (.ref (b + 2 + 3 * i)) ∧ ∃ K, o_LA Z h3 (b + 2 + 3 * i) K ∧ K.length = 16 := by
    intro i hi hg
    obtain ⟨q1, K, q2, q3⟩ := H i hi hg
    refine ⟨q1.keep KK ?_, K, q2.keep KK ?_, q3⟩
    all_goals (simp only [List.mem_cons, List.not_mem_nil, or_false, not_or]; exact ⟨o_ne (by omega), o_ne (by omega), o_ne (by omega)⟩)
  have S3 := S2.mo M3 (Ne.symm sk) (Ne.symm sp)
  rw [es, ek, ep] at S3
  rw [es] at U3
  exact o_lreturnE (pc := 79) B3 d16_79 (by decide) (by decide) ⟨⟨_, rfl⟩, gb', tb', E.keep KK, F1.keep KK nt, F2.keep KK nt, A1.keep KK nb, S3, U3, OO⟩
set_option maxRecDepth 65536 in
set_option maxHeartbeats 40000000 in
theorem oc16b (l : Launch) (Z : State) (a0 : Array Value) (hw : ∀ d ∈ tables_1, d.before a0 Z = true) (n0 : Nat) (h : Heap) (t b : Addr) (g c M i : Nat) (T : List Int64) (key place : Int64) (hg : g < 64) (hT : T.length = 16) (hx : key ≠ 0) (hi : key.toBitVec.toNat % 2 ^ 4 = i) (hz : T[i]? = some 0) (hk : (XT.ushrL (key ^^^ (-9223372036854775808)) 58).toInt32 = Int32.ofNat g) (hc : c = 12) (M1 : M < 2 ^ 31) (M2 : 32 ≤ M) (A : own_Tab Z n0 h t b g T c M) : o_CH l Z n0 oy16 prog_19_method_3_code 13 (some .long) [(20, 79, 80, 0), (80, 85, 80, 0)] orm16 [(.ref t), (.long key), (.long place)] h (fun v h' => (∃ x, v = some (.long x)) ∧ own_Fin Z h' t b (own_f g 32)) := by
  refine o_bodyH (Ls := [.val (.ref t), .val (.long key), .second, .val (.long place), .second, .unset, .unset, .unset, .unset, .unset, .unset, .unset, .unset]) pn16 (by first | (simp [argsToLocals, Value.category]; done) | rfl) (fun κ B HO => ?_)
  obtain ⟨gb', tb', E, F1, F2, A1, S, U, H⟩ := A
  have gb := o_le gb'
  have tb := o_lt tb'
  have hi16 : i < 16 := by rw [← hi]; exact Nat.mod_lt _ (by decide)
  obtain ⟨s, es⟩ : ∃ s : Addr, s = b + 1 + 3 * g := ⟨_, rfl⟩
  obtain ⟨ka, ek⟩ : ∃ s : Addr, s = b + 2 + 3 * g := ⟨_, rfl⟩
  obtain ⟨pa, ep⟩ : ∃ s : Addr, s = b + 3 + 3 * g := ⟨_, rfl⟩
  rw [← es, ← ek, ← ep] at S
  rw [← es] at U
  have es' := o_eq es
  have ek' := o_eq ek
  have ep' := o_eq ep
  have sk : s ≠ ka := o_ne (by omega)
  have sp : s ≠ pa := o_ne (by omega)
  have kp : ka ≠ pa := o_ne (by omega)
  refine o_lloadN (pc := 0) B d16_0 rfl ?_
  refine o_callS1 (pc := 1) B 0 d16_1 (hw _ (List.mem_of_getElem? (i := 60) rfl)) (hw _ (List.mem_of_getElem? (i := 61) rfl)) (hw _ (List.mem_of_getElem? (i := 62) rfl)) (hw _ (List.mem_of_getElem? (i := 63) rfl)) (by decide) pd9 rfl (by first | exact Nat.zero_le _ | exact Nat.le_of_ble_eq_true rfl | simp [Value.category]) (by decide) (by decide) (by decide) (by decide) rfl (oc9 l Z a0 hw n0 _ key hx) ?_
  rintro v h' ⟨rfl, rfl⟩
  refine o_lstore_13_5 (pc := 4) B d16_4 rfl ?_
  refine o_aloadN (pc := 6) B d16_6 rfl rfl ?_
  refine o_lload (pc := 7) B d16_7 rfl ?_
  refine o_callP1 (pc := 9) B 0 d16_9 (hw _ (List.mem_of_getElem? (i := 64) rfl)) (hw _ (List.mem_of_getElem? (i := 65) rfl)) (hw _ (List.mem_of_getElem? (i := 66) rfl)) (hw _ (List.mem_of_getElem? (i := 1) rfl)) (hw _ (List.mem_of_getElem? (i := 2) rfl)) (hw _ (List.mem_of_getElem? (i := 67) rfl)) (by decide) pd10 rfl (by first | exact Nat.zero_le _ | exact Nat.le_of_ble_eq_true rfl | simp [Value.category]) (by decide) (by decide) (by decide) (by decide) rfl (E) (oc10 l Z a0 hw n0 _ t b g key hg hk F1 A1) ?_
  rintro v h' ⟨rfl, rfl⟩
  rw [← es]
  refine o_astore_13_7 (pc := 12) B d16_12 rfl rfl ?_
  refine o_aload (pc := 14) B d16_14 rfl rfl ?_
  refine o_dup (pc := 16) B d16_16 rfl ?_
  refine o_astore_13_8 (pc := 17) B d16_17 rfl rfl ?_
  have B0 := B
  refine o_enter (pc := 19) B (HO s S.1.lt) (U) d16_19 (by decide) (by decide) rfl ?_
  intro κ1 h1 B1 Sb M1_
  have B := B1
  have S1 := S.mo M1_ (Ne.symm sk) (Ne.symm sp)
  refine o_aload (pc := 20) B d16_20 rfl rfl ?_
  refine o_getR (pc := 22) B d16_22 (hw _ (List.mem_of_getElem? (i := 52) rfl)) (S1.2.2.1) ?_
  refine o_lload (pc := 25) B d16_25 rfl ?_
  have H0 : own_H T key ((key.toBitVec.toNat % 2 ^ 4 + 0) % 2 ^ 4) := ⟨0, by rw [Nat.add_zero, Nat.mod_mod, hi]; exact hz, Or.inl rfl⟩
  refine o_callS2 (pc := 27) B 2 d16_27 (hw _ (List.mem_of_getElem? (i := 72) rfl)) (hw _ (List.mem_of_getElem? (i := 73) rfl)) (hw _ (List.mem_of_getElem? (i := 62) rfl)) (hw _ (List.mem_of_getElem? (i := 74) rfl)) (by decide) pd12 rfl (by first | exact Nat.zero_le _ | exact Nat.le_of_ble_eq_true rfl | simp [Value.category]) (by decide) (by decide) (by decide) (by decide) rfl (oc12 l Z a0 hw n0 _ ka T key 4 0 S1.2.2.2.2.2.1 (by decide) hT H0 (fun d q => absurd q (Nat.not_lt_zero d))) ?_
  rintro v h' ⟨rfl, rfl⟩
  rw [show (key.toBitVec.toNat % 2 ^ 4 + 0) % 2 ^ 4 = i by rw [Nat.add_zero, Nat.mod_mod, hi]]
  refine o_istore_13_9 (pc := 30) B d16_30 rfl ?_
  refine o_ldc2_w (pc := 32) B (x := (9223372036854775807 : Int64)) d16_32 (hw _ (List.mem_of_getElem? (i := 75) rfl)) ?_
  refine o_lstore_13_10 (pc := 35) B d16_35 rfl ?_
  refine o_aload (pc := 37) B d16_37 rfl rfl ?_
  refine o_getR (pc := 39) B d16_39 (hw _ (List.mem_of_getElem? (i := 52) rfl)) (S1.2.2.1) ?_
  refine o_iload (pc := 42) B d16_42 rfl ?_
  refine o_laload (pc := 44) B (i) d16_44 (S1.2.2.2.2.2.1) (rfl) (own_mapL hz) ?_
  refine o_lload (pc := 45) B d16_45 rfl ?_
  refine o_lcmp (pc := 47) B d16_47 ?_
  refine o_lif_ne (pc := 48) (pc' := 64) B d16_48 (by decide) (by decide) (fun hc48 => ?_) (fun hc48 => False.elim ((hx hc48.symm)))
  refine o_aload (pc := 64) B d16_64 rfl rfl ?_
  refine o_iload (pc := 66) B d16_66 rfl ?_
  refine o_lload (pc := 68) B d16_68 rfl ?_
  refine o_lloadN (pc := 70) B d16_70 rfl ?_
  refine o_callV3 (pc := 71) B 2 d16_71 (hw _ (List.mem_of_getElem? (i := 76) rfl)) (hw _ (List.mem_of_getElem? (i := 77) rfl)) (hw _ (List.mem_of_getElem? (i := 79) rfl)) (hw _ (List.mem_of_getElem? (i := 78) rfl)) (hw _ (List.mem_of_getElem? (i := 34) rfl)) (hw _ (List.mem_of_getElem? (i := 80) rfl)) (by decide) pd13 rfl (by first | exact Nat.zero_le _ | exact Nat.le_of_ble_eq_true rfl | simp [Value.category]) (by decide) (by decide) (by decide) (by decide) rfl (S1.1) (oc13b l Z a0 hw n0 _ t s ka pa T c i key place hT hi16 hc (o_le (by omega)) (o_le (by omega)) (o_le (by omega)) sk sp kp S1 M M1 M2 (F2.keep M1_.keep (by simp only [List.mem_singleton]; exact o_ne (by omega))) (o_ne (by omega)) (o_ne (by omega)) (o_ne (by omega))) ?_
  rintro v h2 ⟨rfl, S2, K2⟩
  refine o_lload (pc := 74) B d16_74 rfl ?_
  refine o_aload (pc := 76) B d16_76 rfl rfl ?_
  refine o_exit (pc := 78) Sb B0 d16_78 ?_
  intro κ3 h3 B3 M3 U3
  have KK : Keep _ h3 [s, ka, pa] := (((Keep.refl _ [s, ka, pa]).trans M1_.keep (fun x hx => Or.inl (by simp only [List.mem_singleton] at hx; simp [hx]))).trans K2 (fun x hx => Or.inl hx)).trans M3.keep (fun x hx => Or.inl (by simp only [List.mem_singleton] at hx; simp [hx]))
  have nt : t ∉ [s, ka, pa] := by simp only [List.mem_cons, List.not_mem_nil, or_false, not_or]; exact ⟨o_ne (by omega), o_ne (by omega), o_ne (by omega)⟩
  have nb : b ∉ [s, ka, pa] := by simp only [List.mem_cons, List.not_mem_nil, or_false, not_or]; exact ⟨o_ne (by omega), o_ne (by omega), o_ne (by omega)⟩
  have OO : ∀ i : Nat, i < 64 → i ≠ g → Fld Z h3 (b + 1 + 3 * i) own_SG "keys" "[J" (.ref (b + 2 + 3 * i)) ∧ ∃ K, o_LA Z h3 (b + 2 + 3 * i) K ∧ K.length = 16 := by
    intro i hi hg
    obtain ⟨q1, K, q2, q3⟩ := H i hi hg
    refine ⟨q1.keep KK ?_, K, q2.keep KK ?_, q3⟩
    all_goals (simp only [List.mem_cons, List.not_mem_nil, or_false, not_or]; exact ⟨o_ne (by omega), o_ne (by omega), o_ne (by omega)⟩)
  obtain ⟨ga, G, FG, AG, eG, gas⟩ := S2
  have FG3 := FG.mon M3.1
  have AG3 : o_LA Z h3 ga G := AG.keep M3.keep (by simpa using gas)
  refine o_lreturnE (pc := 79) B3 d16_79 (by decide) (by decide) ⟨⟨_, rfl⟩, E.keep KK, F1.keep KK nt, A1.keep KK nb, fun i hi => ?_⟩
  by_cases e : i = g
  · subst e
    rw [← es]
    exact ⟨ga, G, FG3, AG3, by simp [own_f, eG]⟩
  · obtain ⟨q1, K, q2, q3⟩ := OO i hi e
    exact ⟨_, K, q1, q2, by simp [own_f, e, q3]⟩
/-- the j-th key -/
abbrev own_kk (a j : Int64) : Int64 := (a &&& (-16)) ||| j
set_option maxRecDepth 65536 in
set_option maxHeartbeats 40000000 in
theorem oc0 (l : Launch) (Z : State) (a0 : Array Value) (hw : ∀ d ∈ tables_1, d.before a0 Z = true) (n0 : Nat) (h : Heap) (by_ a p : Int64) (x : Int32) (Z0 : n0 ≤ h.size) : o_C l Z n0 Jvm.Pilot.@@N@@.x code maxLocals ret room_1 [(.long by_), (.long a), (.long p), (.int x)] h (fun v h' => v = some (.int 1)) := by
  refine o_body (Ls := [.val (.long by_), .second, .val (.long a), .second, .val (.long p), .second, .val (.int x), .unset, .unset, .unset, .unset, .unset, .unset]) pn0 (by first | (simp [argsToLocals, Value.category, maxLocals]; done) | rfl) (fun κ B => ?_)
  have T34 : ∀ (bytes : Int64) (gr : Int32), (gr = 0 ∨ (gr = 1 ∧ (32 : Int64) ≤ bytes / 64 / 16)) → o_Go κ (fun v h' => v = some (.int 1)) h 0 0 34 [.val (.long by_), .second, .val (.long a), .second, .val (.long p), .second, .val (.int x), .val (.int gr), .val (.long bytes), .second, .unset, .unset, .unset] [] := by
    intro bytes gr hgr
    refine o_new (pc := 34) B at_34 (hw _ (List.mem_of_getElem? (i := 0) rfl)) (hw _ (List.mem_of_getElem? (i := 1) rfl)) (hw _ (List.mem_of_getElem? (i := 2) rfl)) (by decide) (by decide) ?_
    intro h1 X1 E1 D1 U1
    obtain ⟨t, gt, et⟩ : ∃ t : Addr, n0 ≤ t ∧ t = h.size := ⟨_, Z0, rfl⟩
    rw [← et] at E1 D1 U1 ⊢
    have D2 := D1 (Or.inr (hw _ (List.mem_of_getElem? (i := 12) rfl))) (by decide : parseFieldDescriptor "[Lcom/example/one_verdict/oneverdict/check/PlaceTable$Segment;" = some (.array (.object "com/example/one_verdict/oneverdict/check/PlaceTable$Segment")))
    have D3 := D1 (Or.inr (hw _ (List.mem_of_getElem? (i := 32) rfl))) (by decide : parseFieldDescriptor "I" = some .int)
    obtain ⟨b, eb⟩ : ∃ b : Addr, b = h1.size := ⟨_, rfl⟩
    have lt1 := o_lt E1.lt
    refine o_dup (pc := 37) B at_37 rfl ?_
    refine o_lload (pc := 38) B at_38 rfl ?_
    refine o_callN1 (pc := 40) B 1 at_40 rfl (hw _ (List.mem_of_getElem? (i := 3) rfl)) (hw _ (List.mem_of_getElem? (i := 4) rfl)) (hw _ (List.mem_of_getElem? (i := 2) rfl)) (hw _ (List.mem_of_getElem? (i := 5) rfl)) (by decide) pd1 rfl (by first | exact Nat.zero_le _ | exact Nat.le_of_ble_eq_true rfl | simp [Value.category]) (by decide) (by decide) (by decide) (by decide) rfl (oc1 l Z a0 hw n0 _ t bytes _ _ gt (o_le (by have := o_le gt; omega)) E1.lt b eb E1 D2 D3) ?_
    rintro v h2 ⟨rfl, E2, F1, ⟨M, M1, M2, F2⟩, A2, S2⟩
    obtain ⟨g, hg, eg⟩ := own_seg ((a &&& (-16)) ^^^ (-9223372036854775808))
    have Tb : own_Tab Z n0 h2 t b g (List.replicate 16 0) 0 M := by
      have eb' := o_eq eb
      refine ⟨o_le (by have := o_le gt; omega), o_lt (by omega), E2, F1, F2, A2, (S2 g hg).1, (S2 g hg).2, fun i hi _ => ?_⟩
      exact ⟨(S2 i hi).1.2.2.1, List.replicate 16 0, (S2 i hi).1.2.2.2.2.2.1, by simp⟩
    have f16 : ∀ i, own_f g 16 i ≤ 32 := fun i => by unfold own_f; split <;> decide
    have f32 : ∀ i, own_f g 32 i ≤ 32 := fun i => by unfold own_f; split <;> decide
    refine o_astore_13_10 (pc := 43) B at_43 rfl rfl ?_
    refine o_aload (pc := 45) B at_45 rfl rfl ?_
    have Fi := Tb.fin (by simp)
    refine o_callV0 (pc := 47) B 0 at_47 (hw _ (List.mem_of_getElem? (i := 47) rfl)) (hw _ (List.mem_of_getElem? (i := 48) rfl)) (hw _ (List.mem_of_getElem? (i := 50) rfl)) (hw _ (List.mem_of_getElem? (i := 49) rfl)) (hw _ (List.mem_of_getElem? (i := 2) rfl)) (hw _ (List.mem_of_getElem? (i := 51) rfl)) (by decide) pd8 rfl (by first | exact Nat.zero_le _ | exact Nat.le_of_ble_eq_true rfl | simp [Value.category]) (by decide) (by decide) (by decide) (by decide) rfl (Fi.1) (oc8 l Z a0 hw n0 _ t b (own_f g 16) f16 Fi.2.1 Fi.2.2.1 Fi.2.2.2) ?_
    rintro v h' ⟨rfl, rfl⟩
    rw [own_fsum hg, show Int64.ofNat (1008 + 16) = 1024 from rfl]
    refine o_ldc2_w (pc := 50) B (x := (1024 : Int64)) at_50 (hw _ (List.mem_of_getElem? (i := 53) rfl)) ?_
    refine o_lcmp (pc := 53) B at_53 ?_
    refine o_lif_eq (pc := 54) (pc' := 59) B at_54 (by decide) (by decide) (fun hc54 => ?_) (fun hc54 => False.elim ((hc54 rfl)))
    refine o_lloadN (pc := 59) B at_59 rfl ?_
    refine o_ldc2_w (pc := 60) B (x := (-16 : Int64)) at_60 (hw _ (List.mem_of_getElem? (i := 54) rfl)) ?_
    refine o_land (pc := 63) B at_63 ?_
    refine o_lstore_13_11 (pc := 64) B at_64 rfl ?_
    have ky := fun j q1 q2 => own_key a j q1 q2
    have L0 : (List.replicate 16 (0 : Int64)).length = 16 ∧ ∀ j, 1 ≤ j → j < 16 → (List.replicate 16 (0 : Int64))[j]? = some 0 := ⟨by simp, fun j _ q => by rw [List.getElem?_replicate, if_pos q]⟩
    obtain ⟨T0, eT0⟩ : ∃ T0 : List Int64, T0 = List.replicate 16 0 := ⟨_, rfl⟩
    rw [← eT0] at L0 Tb
    obtain ⟨k1_1, k2_1, k3_1⟩ := ky 1 (by decide) (by decide)
    rw [show Int64.ofNat 1 = (1 : Int64) from rfl] at k1_1 k2_1 k3_1
    refine o_aload (pc := 66) B at_66 rfl rfl ?_
    refine o_lload (pc := 68) B at_68 rfl ?_
    refine o_lconst (pc := 70) B (1 : Int64) at_70 (by decide) ?_
    refine o_lor (pc := 71) B at_71 ?_
    refine o_lload (pc := 72) B at_72 rfl ?_
    refine o_callVH2 (pc := 74) B 0 at_74 (hw _ (List.mem_of_getElem? (i := 55) rfl)) (hw _ (List.mem_of_getElem? (i := 56) rfl)) (hw _ (List.mem_of_getElem? (i := 58) rfl)) (hw _ (List.mem_of_getElem? (i := 57) rfl)) (hw _ (List.mem_of_getElem? (i := 2) rfl)) (hw _ (List.mem_of_getElem? (i := 59) rfl)) (by decide) pd16 rfl (by first | exact Nat.zero_le _ | exact Nat.le_of_ble_eq_true rfl | simp [Value.category]) (by decide) (by decide) (by decide) (by decide) rfl (Tb.2.2.1) (oc16a l Z a0 hw n0 _ t b g 0 M 1 T0 (own_kk a 1) p hg L0.1 k1_1 k2_1 (L0.2 1 (by decide) (by decide)) (by rw [k3_1]; exact eg) (by decide) Tb) ?_
    rintro v h1_ ⟨⟨y1, rfl⟩, Tb1⟩
    obtain ⟨T1, eT1⟩ : ∃ T' : List Int64, T' = T0.set 1 (own_kk a 1) := ⟨_, rfl⟩
    have L1 : T1.length = 16 ∧ ∀ j, 2 ≤ j → j < 16 → T1[j]? = some 0 := ⟨by rw [eT1, List.length_set]; exact L0.1, fun j q1 q2 => by rw [eT1, List.getElem?_set_ne (by omega)]; exact L0.2 j (by omega) q2⟩
    rw [← eT1] at Tb1
    obtain ⟨k1_2, k2_2, k3_2⟩ := ky 2 (by decide) (by decide)
    rw [show Int64.ofNat 2 = (2 : Int64) from rfl] at k1_2 k2_2 k3_2
    refine o_pop2L (pc := 77) B at_77 ?_
    refine o_aload (pc := 78) B at_78 rfl rfl ?_
    refine o_lload (pc := 80) B at_80 rfl ?_
    refine o_ldc2_w (pc := 82) B (x := (2 : Int64)) at_82 (hw _ (List.mem_of_getElem? (i := 88) rfl)) ?_
    refine o_lor (pc := 85) B at_85 ?_
    refine o_lload (pc := 86) B at_86 rfl ?_
    refine o_callVH2 (pc := 88) B 0 at_88 (hw _ (List.mem_of_getElem? (i := 55) rfl)) (hw _ (List.mem_of_getElem? (i := 56) rfl)) (hw _ (List.mem_of_getElem? (i := 58) rfl)) (hw _ (List.mem_of_getElem? (i := 57) rfl)) (hw _ (List.mem_of_getElem? (i := 2) rfl)) (hw _ (List.mem_of_getElem? (i := 59) rfl)) (by decide) pd16 rfl (by first | exact Nat.zero_le _ | exact Nat.le_of_ble_eq_true rfl | simp [Value.category]) (by decide) (by decide) (by decide) (by decide) rfl (Tb1.2.2.1) (oc16a l Z a0 hw n0 _ t b g 1 M 2 T1 (own_kk a 2) p hg L1.1 k1_2 k2_2 (L1.2 2 (by decide) (by decide)) (by rw [k3_2]; exact eg) (by decide) Tb1) ?_
    rintro v h2_ ⟨⟨y2, rfl⟩, Tb2⟩
    obtain ⟨T2, eT2⟩ : ∃ T' : List Int64, T' = T1.set 2 (own_kk a 2) := ⟨_, rfl⟩
    have L2 : T2.length = 16 ∧ ∀ j, 3 ≤ j → j < 16 → T2[j]? = some 0 := ⟨by rw [eT2, List.length_set]; exact L1.1, fun j q1 q2 => by rw [eT2, List.getElem?_set_ne (by omega)]; exact L1.2 j (by omega) q2⟩
    rw [← eT2] at Tb2
    obtain ⟨k1_3, k2_3, k3_3⟩ := ky 3 (by decide) (by decide)
    rw [show Int64.ofNat 3 = (3 : Int64) from rfl] at k1_3 k2_3 k3_3
    refine o_pop2L (pc := 91) B at_91 ?_
    refine o_aload (pc := 92) B at_92 rfl rfl ?_
    refine o_lload (pc := 94) B at_94 rfl ?_
    refine o_ldc2_w (pc := 96) B (x := (3 : Int64)) at_96 (hw _ (List.mem_of_getElem? (i := 89) rfl)) ?_
    refine o_lor (pc := 99) B at_99 ?_
    refine o_lload (pc := 100) B at_100 rfl ?_
    refine o_callVH2 (pc := 102) B 0 at_102 (hw _ (List.mem_of_getElem? (i := 55) rfl)) (hw _ (List.mem_of_getElem? (i := 56) rfl)) (hw _ (List.mem_of_getElem? (i := 58) rfl)) (hw _ (List.mem_of_getElem? (i := 57) rfl)) (hw _ (List.mem_of_getElem? (i := 2) rfl)) (hw _ (List.mem_of_getElem? (i := 59) rfl)) (by decide) pd16 rfl (by first | exact Nat.zero_le _ | exact Nat.le_of_ble_eq_true rfl | simp [Value.category]) (by decide) (by decide) (by decide) (by decide) rfl (Tb2.2.2.1) (oc16a l Z a0 hw n0 _ t b g 2 M 3 T2 (own_kk a 3) p hg L2.1 k1_3 k2_3 (L2.2 3 (by decide) (by decide)) (by rw [k3_3]; exact eg) (by decide) Tb2) ?_
    rintro v h3_ ⟨⟨y3, rfl⟩, Tb3⟩
    obtain ⟨T3, eT3⟩ : ∃ T' : List Int64, T' = T2.set 3 (own_kk a 3) := ⟨_, rfl⟩
    have L3 : T3.length = 16 ∧ ∀ j, 4 ≤ j → j < 16 → T3[j]? = some 0 := ⟨by rw [eT3, List.length_set]; exact L2.1, fun j q1 q2 => by rw [eT3, List.getElem?_set_ne (by omega)]; exact L2.2 j (by omega) q2⟩
    rw [← eT3] at Tb3
    obtain ⟨k1_4, k2_4, k3_4⟩ := ky 4 (by decide) (by decide)
    rw [show Int64.ofNat 4 = (4 : Int64) from rfl] at k1_4 k2_4 k3_4
    refine o_pop2L (pc := 105) B at_105 ?_
    refine o_aload (pc := 106) B at_106 rfl rfl ?_
    refine o_lload (pc := 108) B at_108 rfl ?_
    refine o_ldc2_w (pc := 110) B (x := (4 : Int64)) at_110 (hw _ (List.mem_of_getElem? (i := 90) rfl)) ?_
    refine o_lor (pc := 113) B at_113 ?_
    refine o_lload (pc := 114) B at_114 rfl ?_
    refine o_callVH2 (pc := 116) B 0 at_116 (hw _ (List.mem_of_getElem? (i := 55) rfl)) (hw _ (List.mem_of_getElem? (i := 56) rfl)) (hw _ (List.mem_of_getElem? (i := 58) rfl)) (hw _ (List.mem_of_getElem? (i := 57) rfl)) (hw _ (List.mem_of_getElem? (i := 2) rfl)) (hw _ (List.mem_of_getElem? (i := 59) rfl)) (by decide) pd16 rfl (by first | exact Nat.zero_le _ | exact Nat.le_of_ble_eq_true rfl | simp [Value.category]) (by decide) (by decide) (by decide) (by decide) rfl (Tb3.2.2.1) (oc16a l Z a0 hw n0 _ t b g 3 M 4 T3 (own_kk a 4) p hg L3.1 k1_4 k2_4 (L3.2 4 (by decide) (by decide)) (by rw [k3_4]; exact eg) (by decide) Tb3) ?_
    rintro v h4_ ⟨⟨y4, rfl⟩, Tb4⟩
    obtain ⟨T4, eT4⟩ : ∃ T' : List Int64, T' = T3.set 4 (own_kk a 4) := ⟨_, rfl⟩
    have L4 : T4.length = 16 ∧ ∀ j, 5 ≤ j → j < 16 → T4[j]? = some 0 := ⟨by rw [eT4, List.length_set]; exact L3.1, fun j q1 q2 => by rw [eT4, List.getElem?_set_ne (by omega)]; exact L3.2 j (by omega) q2⟩
    rw [← eT4] at Tb4
    obtain ⟨k1_5, k2_5, k3_5⟩ := ky 5 (by decide) (by decide)
    rw [show Int64.ofNat 5 = (5 : Int64) from rfl] at k1_5 k2_5 k3_5
    refine o_pop2L (pc := 119) B at_119 ?_
    refine o_aload (pc := 120) B at_120 rfl rfl ?_
    refine o_lload (pc := 122) B at_122 rfl ?_
    refine o_ldc2_w (pc := 124) B (x := (5 : Int64)) at_124 (hw _ (List.mem_of_getElem? (i := 91) rfl)) ?_
    refine o_lor (pc := 127) B at_127 ?_
    refine o_lload (pc := 128) B at_128 rfl ?_
    refine o_callVH2 (pc := 130) B 0 at_130 (hw _ (List.mem_of_getElem? (i := 55) rfl)) (hw _ (List.mem_of_getElem? (i := 56) rfl)) (hw _ (List.mem_of_getElem? (i := 58) rfl)) (hw _ (List.mem_of_getElem? (i := 57) rfl)) (hw _ (List.mem_of_getElem? (i := 2) rfl)) (hw _ (List.mem_of_getElem? (i := 59) rfl)) (by decide) pd16 rfl (by first | exact Nat.zero_le _ | exact Nat.le_of_ble_eq_true rfl | simp [Value.category]) (by decide) (by decide) (by decide) (by decide) rfl (Tb4.2.2.1) (oc16a l Z a0 hw n0 _ t b g 4 M 5 T4 (own_kk a 5) p hg L4.1 k1_5 k2_5 (L4.2 5 (by decide) (by decide)) (by rw [k3_5]; exact eg) (by decide) Tb4) ?_
    rintro v h5_ ⟨⟨y5, rfl⟩, Tb5⟩
    obtain ⟨T5, eT5⟩ : ∃ T' : List Int64, T' = T4.set 5 (own_kk a 5) := ⟨_, rfl⟩
    have L5 : T5.length = 16 ∧ ∀ j, 6 ≤ j → j < 16 → T5[j]? = some 0 := ⟨by rw [eT5, List.length_set]; exact L4.1, fun j q1 q2 => by rw [eT5, List.getElem?_set_ne (by omega)]; exact L4.2 j (by omega) q2⟩
    rw [← eT5] at Tb5
    obtain ⟨k1_6, k2_6, k3_6⟩ := ky 6 (by decide) (by decide)
    rw [show Int64.ofNat 6 = (6 : Int64) from rfl] at k1_6 k2_6 k3_6
    refine o_pop2L (pc := 133) B at_133 ?_
    refine o_aload (pc := 134) B at_134 rfl rfl ?_
    refine o_lload (pc := 136) B at_136 rfl ?_
    refine o_ldc2_w (pc := 138) B (x := (6 : Int64)) at_138 (hw _ (List.mem_of_getElem? (i := 92) rfl)) ?_
    refine o_lor (pc := 141) B at_141 ?_
    refine o_lload (pc := 142) B at_142 rfl ?_
    refine o_callVH2 (pc := 144) B 0 at_144 (hw _ (List.mem_of_getElem? (i := 55) rfl)) (hw _ (List.mem_of_getElem? (i := 56) rfl)) (hw _ (List.mem_of_getElem? (i := 58) rfl)) (hw _ (List.mem_of_getElem? (i := 57) rfl)) (hw _ (List.mem_of_getElem? (i := 2) rfl)) (hw _ (List.mem_of_getElem? (i := 59) rfl)) (by decide) pd16 rfl (by first | exact Nat.zero_le _ | exact Nat.le_of_ble_eq_true rfl | simp [Value.category]) (by decide) (by decide) (by decide) (by decide) rfl (Tb5.2.2.1) (oc16a l Z a0 hw n0 _ t b g 5 M 6 T5 (own_kk a 6) p hg L5.1 k1_6 k2_6 (L5.2 6 (by decide) (by decide)) (by rw [k3_6]; exact eg) (by decide) Tb5) ?_
    rintro v h6_ ⟨⟨y6, rfl⟩, Tb6⟩
    obtain ⟨T6, eT6⟩ : ∃ T' : List Int64, T' = T5.set 6 (own_kk a 6) := ⟨_, rfl⟩
    have L6 : T6.length = 16 ∧ ∀ j, 7 ≤ j → j < 16 → T6[j]? = some 0 := ⟨by rw [eT6, List.length_set]; exact L5.1, fun j q1 q2 => by rw [eT6, List.getElem?_set_ne (by omega)]; exact L5.2 j (by omega) q2⟩
    rw [← eT6] at Tb6
    obtain ⟨k1_7, k2_7, k3_7⟩ := ky 7 (by decide) (by decide)
    rw [show Int64.ofNat 7 = (7 : Int64) from rfl] at k1_7 k2_7 k3_7
    refine o_pop2L (pc := 147) B at_147 ?_
    refine o_aload (pc := 148) B at_148 rfl rfl ?_
    refine o_lload (pc := 150) B at_150 rfl ?_
    refine o_ldc2_w (pc := 152) B (x := (7 : Int64)) at_152 (hw _ (List.mem_of_getElem? (i := 93) rfl)) ?_
    refine o_lor (pc := 155) B at_155 ?_
    refine o_lload (pc := 156) B at_156 rfl ?_
    refine o_callVH2 (pc := 158) B 0 at_158 (hw _ (List.mem_of_getElem? (i := 55) rfl)) (hw _ (List.mem_of_getElem? (i := 56) rfl)) (hw _ (List.mem_of_getElem? (i := 58) rfl)) (hw _ (List.mem_of_getElem? (i := 57) rfl)) (hw _ (List.mem_of_getElem? (i := 2) rfl)) (hw _ (List.mem_of_getElem? (i := 59) rfl)) (by decide) pd16 rfl (by first | exact Nat.zero_le _ | exact Nat.le_of_ble_eq_true rfl | simp [Value.category]) (by decide) (by decide) (by decide) (by decide) rfl (Tb6.2.2.1) (oc16a l Z a0 hw n0 _ t b g 6 M 7 T6 (own_kk a 7) p hg L6.1 k1_7 k2_7 (L6.2 7 (by decide) (by decide)) (by rw [k3_7]; exact eg) (by decide) Tb6) ?_
    rintro v h7_ ⟨⟨y7, rfl⟩, Tb7⟩
    obtain ⟨T7, eT7⟩ : ∃ T' : List Int64, T' = T6.set 7 (own_kk a 7) := ⟨_, rfl⟩
    have L7 : T7.length = 16 ∧ ∀ j, 8 ≤ j → j < 16 → T7[j]? = some 0 := ⟨by rw [eT7, List.length_set]; exact L6.1, fun j q1 q2 => by rw [eT7, List.getElem?_set_ne (by omega)]; exact L6.2 j (by omega) q2⟩
    rw [← eT7] at Tb7
    obtain ⟨k1_8, k2_8, k3_8⟩ := ky 8 (by decide) (by decide)
    rw [show Int64.ofNat 8 = (8 : Int64) from rfl] at k1_8 k2_8 k3_8
    refine o_pop2L (pc := 161) B at_161 ?_
    refine o_aload (pc := 162) B at_162 rfl rfl ?_
    refine o_lload (pc := 164) B at_164 rfl ?_
    refine o_ldc2_w (pc := 166) B (x := (8 : Int64)) at_166 (hw _ (List.mem_of_getElem? (i := 94) rfl)) ?_
    refine o_lor (pc := 169) B at_169 ?_
    refine o_lload (pc := 170) B at_170 rfl ?_
    refine o_callVH2 (pc := 172) B 0 at_172 (hw _ (List.mem_of_getElem? (i := 55) rfl)) (hw _ (List.mem_of_getElem? (i := 56) rfl)) (hw _ (List.mem_of_getElem? (i := 58) rfl)) (hw _ (List.mem_of_getElem? (i := 57) rfl)) (hw _ (List.mem_of_getElem? (i := 2) rfl)) (hw _ (List.mem_of_getElem? (i := 59) rfl)) (by decide) pd16 rfl (by first | exact Nat.zero_le _ | exact Nat.le_of_ble_eq_true rfl | simp [Value.category]) (by decide) (by decide) (by decide) (by decide) rfl (Tb7.2.2.1) (oc16a l Z a0 hw n0 _ t b g 7 M 8 T7 (own_kk a 8) p hg L7.1 k1_8 k2_8 (L7.2 8 (by decide) (by decide)) (by rw [k3_8]; exact eg) (by decide) Tb7) ?_
    rintro v h8_ ⟨⟨y8, rfl⟩, Tb8⟩
    obtain ⟨T8, eT8⟩ : ∃ T' : List Int64, T' = T7.set 8 (own_kk a 8) := ⟨_, rfl⟩
    have L8 : T8.length = 16 ∧ ∀ j, 9 ≤ j → j < 16 → T8[j]? = some 0 := ⟨by rw [eT8, List.length_set]; exact L7.1, fun j q1 q2 => by rw [eT8, List.getElem?_set_ne (by omega)]; exact L7.2 j (by omega) q2⟩
    rw [← eT8] at Tb8
    obtain ⟨k1_9, k2_9, k3_9⟩ := ky 9 (by decide) (by decide)
    rw [show Int64.ofNat 9 = (9 : Int64) from rfl] at k1_9 k2_9 k3_9
    refine o_pop2L (pc := 175) B at_175 ?_
    refine o_aload (pc := 176) B at_176 rfl rfl ?_
    refine o_lload (pc := 178) B at_178 rfl ?_
    refine o_ldc2_w (pc := 180) B (x := (9 : Int64)) at_180 (hw _ (List.mem_of_getElem? (i := 95) rfl)) ?_
    refine o_lor (pc := 183) B at_183 ?_
    refine o_lload (pc := 184) B at_184 rfl ?_
    refine o_callVH2 (pc := 186) B 0 at_186 (hw _ (List.mem_of_getElem? (i := 55) rfl)) (hw _ (List.mem_of_getElem? (i := 56) rfl)) (hw _ (List.mem_of_getElem? (i := 58) rfl)) (hw _ (List.mem_of_getElem? (i := 57) rfl)) (hw _ (List.mem_of_getElem? (i := 2) rfl)) (hw _ (List.mem_of_getElem? (i := 59) rfl)) (by decide) pd16 rfl (by first | exact Nat.zero_le _ | exact Nat.le_of_ble_eq_true rfl | simp [Value.category]) (by decide) (by decide) (by decide) (by decide) rfl (Tb8.2.2.1) (oc16a l Z a0 hw n0 _ t b g 8 M 9 T8 (own_kk a 9) p hg L8.1 k1_9 k2_9 (L8.2 9 (by decide) (by decide)) (by rw [k3_9]; exact eg) (by decide) Tb8) ?_
    rintro v h9_ ⟨⟨y9, rfl⟩, Tb9⟩
    obtain ⟨T9, eT9⟩ : ∃ T' : List Int64, T' = T8.set 9 (own_kk a 9) := ⟨_, rfl⟩
    have L9 : T9.length = 16 ∧ ∀ j, 10 ≤ j → j < 16 → T9[j]? = some 0 := ⟨by rw [eT9, List.length_set]; exact L8.1, fun j q1 q2 => by rw [eT9, List.getElem?_set_ne (by omega)]; exact L8.2 j (by omega) q2⟩
    rw [← eT9] at Tb9
    obtain ⟨k1_10, k2_10, k3_10⟩ := ky 10 (by decide) (by decide)
    rw [show Int64.ofNat 10 = (10 : Int64) from rfl] at k1_10 k2_10 k3_10
    refine o_pop2L (pc := 189) B at_189 ?_
    refine o_aload (pc := 190) B at_190 rfl rfl ?_
    refine o_lload (pc := 192) B at_192 rfl ?_
    refine o_ldc2_w (pc := 194) B (x := (10 : Int64)) at_194 (hw _ (List.mem_of_getElem? (i := 96) rfl)) ?_
    refine o_lor (pc := 197) B at_197 ?_
    refine o_lload (pc := 198) B at_198 rfl ?_
    refine o_callVH2 (pc := 200) B 0 at_200 (hw _ (List.mem_of_getElem? (i := 55) rfl)) (hw _ (List.mem_of_getElem? (i := 56) rfl)) (hw _ (List.mem_of_getElem? (i := 58) rfl)) (hw _ (List.mem_of_getElem? (i := 57) rfl)) (hw _ (List.mem_of_getElem? (i := 2) rfl)) (hw _ (List.mem_of_getElem? (i := 59) rfl)) (by decide) pd16 rfl (by first | exact Nat.zero_le _ | exact Nat.le_of_ble_eq_true rfl | simp [Value.category]) (by decide) (by decide) (by decide) (by decide) rfl (Tb9.2.2.1) (oc16a l Z a0 hw n0 _ t b g 9 M 10 T9 (own_kk a 10) p hg L9.1 k1_10 k2_10 (L9.2 10 (by decide) (by decide)) (by rw [k3_10]; exact eg) (by decide) Tb9) ?_
    rintro v h10_ ⟨⟨y10, rfl⟩, Tb10⟩
    obtain ⟨T10, eT10⟩ : ∃ T' : List Int64, T' = T9.set 10 (own_kk a 10) := ⟨_, rfl⟩
    have L10 : T10.length = 16 ∧ ∀ j, 11 ≤ j → j < 16 → T10[j]? = some 0 := ⟨by rw [eT10, List.length_set]; exact L9.1, fun j q1 q2 => by rw [eT10, List.getElem?_set_ne (by omega)]; exact L9.2 j (by omega) q2⟩
    rw [← eT10] at Tb10
    obtain ⟨k1_11, k2_11, k3_11⟩ := ky 11 (by decide) (by decide)
    rw [show Int64.ofNat 11 = (11 : Int64) from rfl] at k1_11 k2_11 k3_11
    refine o_pop2L (pc := 203) B at_203 ?_
    refine o_aload (pc := 204) B at_204 rfl rfl ?_
    refine o_lload (pc := 206) B at_206 rfl ?_
    refine o_ldc2_w (pc := 208) B (x := (11 : Int64)) at_208 (hw _ (List.mem_of_getElem? (i := 97) rfl)) ?_
    refine o_lor (pc := 211) B at_211 ?_
    refine o_lload (pc := 212) B at_212 rfl ?_
    refine o_callVH2 (pc := 214) B 0 at_214 (hw _ (List.mem_of_getElem? (i := 55) rfl)) (hw _ (List.mem_of_getElem? (i := 56) rfl)) (hw _ (List.mem_of_getElem? (i := 58) rfl)) (hw _ (List.mem_of_getElem? (i := 57) rfl)) (hw _ (List.mem_of_getElem? (i := 2) rfl)) (hw _ (List.mem_of_getElem? (i := 59) rfl)) (by decide) pd16 rfl (by first | exact Nat.zero_le _ | exact Nat.le_of_ble_eq_true rfl | simp [Value.category]) (by decide) (by decide) (by decide) (by decide) rfl (Tb10.2.2.1) (oc16a l Z a0 hw n0 _ t b g 10 M 11 T10 (own_kk a 11) p hg L10.1 k1_11 k2_11 (L10.2 11 (by decide) (by decide)) (by rw [k3_11]; exact eg) (by decide) Tb10) ?_
    rintro v h11_ ⟨⟨y11, rfl⟩, Tb11⟩
    obtain ⟨T11, eT11⟩ : ∃ T' : List Int64, T' = T10.set 11 (own_kk a 11) := ⟨_, rfl⟩
    have L11 : T11.length = 16 ∧ ∀ j, 12 ≤ j → j < 16 → T11[j]? = some 0 := ⟨by rw [eT11, List.length_set]; exact L10.1, fun j q1 q2 => by rw [eT11, List.getElem?_set_ne (by omega)]; exact L10.2 j (by omega) q2⟩
    rw [← eT11] at Tb11
    obtain ⟨k1_12, k2_12, k3_12⟩ := ky 12 (by decide) (by decide)
    rw [show Int64.ofNat 12 = (12 : Int64) from rfl] at k1_12 k2_12 k3_12
    refine o_pop2L (pc := 217) B at_217 ?_
    refine o_aload (pc := 218) B at_218 rfl rfl ?_
    refine o_lload (pc := 220) B at_220 rfl ?_
    refine o_ldc2_w (pc := 222) B (x := (12 : Int64)) at_222 (hw _ (List.mem_of_getElem? (i := 98) rfl)) ?_
    refine o_lor (pc := 225) B at_225 ?_
    refine o_lload (pc := 226) B at_226 rfl ?_
    refine o_callVH2 (pc := 228) B 0 at_228 (hw _ (List.mem_of_getElem? (i := 55) rfl)) (hw _ (List.mem_of_getElem? (i := 56) rfl)) (hw _ (List.mem_of_getElem? (i := 58) rfl)) (hw _ (List.mem_of_getElem? (i := 57) rfl)) (hw _ (List.mem_of_getElem? (i := 2) rfl)) (hw _ (List.mem_of_getElem? (i := 59) rfl)) (by decide) pd16 rfl (by first | exact Nat.zero_le _ | exact Nat.le_of_ble_eq_true rfl | simp [Value.category]) (by decide) (by decide) (by decide) (by decide) rfl (Tb11.2.2.1) (oc16a l Z a0 hw n0 _ t b g 11 M 12 T11 (own_kk a 12) p hg L11.1 k1_12 k2_12 (L11.2 12 (by decide) (by decide)) (by rw [k3_12]; exact eg) (by decide) Tb11) ?_
    rintro v h12_ ⟨⟨y12, rfl⟩, Tb12⟩
    obtain ⟨T12, eT12⟩ : ∃ T' : List Int64, T' = T11.set 12 (own_kk a 12) := ⟨_, rfl⟩
    have L12 : T12.length = 16 ∧ ∀ j, 13 ≤ j → j < 16 → T12[j]? = some 0 := ⟨by rw [eT12, List.length_set]; exact L11.1, fun j q1 q2 => by rw [eT12, List.getElem?_set_ne (by omega)]; exact L11.2 j (by omega) q2⟩
    rw [← eT12] at Tb12
    refine o_pop2L (pc := 231) B at_231 ?_
    refine o_aload (pc := 232) B at_232 rfl rfl ?_
    have Fj := Tb12.fin L12.1
    refine o_callV0 (pc := 234) B 0 at_234 (hw _ (List.mem_of_getElem? (i := 47) rfl)) (hw _ (List.mem_of_getElem? (i := 48) rfl)) (hw _ (List.mem_of_getElem? (i := 50) rfl)) (hw _ (List.mem_of_getElem? (i := 49) rfl)) (hw _ (List.mem_of_getElem? (i := 2) rfl)) (hw _ (List.mem_of_getElem? (i := 51) rfl)) (by decide) pd8 rfl (by first | exact Nat.zero_le _ | exact Nat.le_of_ble_eq_true rfl | simp [Value.category]) (by decide) (by decide) (by decide) (by decide) rfl (Fj.1) (oc8 l Z a0 hw n0 _ t b (own_f g 16) f16 Fj.2.1 Fj.2.2.1 Fj.2.2.2) ?_
    rintro v h' ⟨rfl, rfl⟩
    rw [own_fsum hg, show Int64.ofNat (1008 + 16) = 1024 from rfl]
    refine o_ldc2_w (pc := 237) B (x := (1024 : Int64)) at_237 (hw _ (List.mem_of_getElem? (i := 53) rfl)) ?_
    refine o_lcmp (pc := 240) B at_240 ?_
    refine o_lif_eq (pc := 241) (pc' := 246) B at_241 (by decide) (by decide) (fun hc241 => ?_) (fun hc241 => False.elim ((hc241 rfl)))
    refine o_iload (pc := 246) B at_246 rfl ?_
    refine o_if_ne (pc := 248) (pc' := 253) B at_248 (by decide) (by decide) (fun hc248 => ?_) (fun hc248 => ?_)
    · have hgr' : gr = 1 ∧ (32 : Int64) ≤ bytes / 64 / 16 := hgr.resolve_left hc248
      obtain ⟨k1_13, k2_13, k3_13⟩ := ky 13 (by decide) (by decide)
      rw [show Int64.ofNat 13 = (13 : Int64) from rfl] at k1_13 k2_13 k3_13
      refine o_aload (pc := 253) B at_253 rfl rfl ?_
      refine o_lload (pc := 255) B at_255 rfl ?_
      refine o_ldc2_w (pc := 257) B (x := (13 : Int64)) at_257 (hw _ (List.mem_of_getElem? (i := 101) rfl)) ?_
      refine o_lor (pc := 260) B at_260 ?_
      refine o_lload (pc := 261) B at_261 rfl ?_
      refine o_callVH2 (pc := 263) B 0 at_263 (hw _ (List.mem_of_getElem? (i := 55) rfl)) (hw _ (List.mem_of_getElem? (i := 56) rfl)) (hw _ (List.mem_of_getElem? (i := 58) rfl)) (hw _ (List.mem_of_getElem? (i := 57) rfl)) (hw _ (List.mem_of_getElem? (i := 2) rfl)) (hw _ (List.mem_of_getElem? (i := 59) rfl)) (by decide) pd16 rfl (by first | exact Nat.zero_le _ | exact Nat.le_of_ble_eq_true rfl | simp [Value.category]) (by decide) (by decide) (by decide) (by decide) rfl (Tb12.2.2.1) (oc16b l Z a0 hw n0 _ t b g 12 M 13 T12 (own_kk a 13) p hg L12.1 k1_13 k2_13 (L12.2 13 (by decide) (by decide)) (by rw [k3_13]; exact eg) rfl M1 (M2 hgr'.2) Tb12) ?_
      rintro v h13_ ⟨⟨y13, rfl⟩, Fk⟩
      refine o_pop2L (pc := 266) B at_266 ?_
      refine o_aload (pc := 267) B at_267 rfl rfl ?_
      refine o_callV0 (pc := 269) B 0 at_269 (hw _ (List.mem_of_getElem? (i := 47) rfl)) (hw _ (List.mem_of_getElem? (i := 48) rfl)) (hw _ (List.mem_of_getElem? (i := 50) rfl)) (hw _ (List.mem_of_getElem? (i := 49) rfl)) (hw _ (List.mem_of_getElem? (i := 2) rfl)) (hw _ (List.mem_of_getElem? (i := 51) rfl)) (by decide) pd8 rfl (by first | exact Nat.zero_le _ | exact Nat.le_of_ble_eq_true rfl | simp [Value.category]) (by decide) (by decide) (by decide) (by decide) rfl (Fk.1) (oc8 l Z a0 hw n0 _ t b (own_f g 32) f32 Fk.2.1 Fk.2.2.1 Fk.2.2.2) ?_
      rintro v h' ⟨rfl, rfl⟩
      rw [own_fsum hg, show Int64.ofNat (1008 + 32) = 1040 from rfl]
      refine o_ldc2_w (pc := 272) B (x := (1040 : Int64)) at_272 (hw _ (List.mem_of_getElem? (i := 108) rfl)) ?_
      refine o_lcmp (pc := 275) B at_275 ?_
      refine o_lif_ne (pc := 276) (pc' := 283) B at_276 (by decide) (by decide) (fun hc276 => False.elim ((hc276 rfl))) (fun hc276 => ?_)
      refine o_iconst (pc := 279) B (1 : Int32) at_279 (by decide) ?_
      refine o_goto (pc := 280) (pc' := 284) B at_280 (by decide) (by decide) ?_
      exact o_zreturn (pc := 284) B at_284 (by decide) (by decide) (rfl)
    refine o_iconst (pc := 251) B (1 : Int32) at_251 (by decide) ?_
    exact o_zreturn (pc := 252) B at_252 (by decide) (by decide) (rfl)
  refine o_iload (pc := 0) B at_0 rfl ?_
  refine o_iconst (pc := 2) B (1 : Int32) at_2 (by decide) ?_
  refine o_iand (pc := 3) B at_3 ?_
  refine o_if_eq (pc := 4) (pc' := 11) B at_4 (by decide) (by decide) (fun hc4 => ?_) (fun hc4 => ?_)
  · refine o_iconst (pc := 11) B (0 : Int32) at_11 (by decide) ?_
    refine o_istore_13_7 (pc := 12) B at_12 rfl ?_
    refine o_iload (pc := 14) B at_14 rfl ?_
    refine o_if_eq (pc := 16) (pc' := 31) B at_16 (by decide) (by decide) (fun hc16 => ?_) (fun hc16 => False.elim (by revert hc16; decide))
    refine o_lloadN (pc := 31) B at_31 rfl ?_
    refine o_lstore_13_8 (pc := 32) B at_32 rfl ?_
    exact T34 _ _ (Or.inl rfl)
  refine o_iconst (pc := 7) B (1 : Int32) at_7 (by decide) ?_
  refine o_goto (pc := 8) (pc' := 12) B at_8 (by decide) (by decide) ?_
  refine o_istore_13_7 (pc := 12) B at_12 rfl ?_
  refine o_iload (pc := 14) B at_14 rfl ?_
  refine o_if_eq (pc := 16) (pc' := 31) B at_16 (by decide) (by decide) (fun hc16 => False.elim (by revert hc16; decide)) (fun hc16 => ?_)
  refine o_lloadN (pc := 19) B at_19 rfl ?_
  refine o_ldc2_w (pc := 20) B (x := (9223372036854775807 : Int64)) at_20 (hw _ (List.mem_of_getElem? (i := 99) rfl)) ?_
  refine o_land (pc := 23) B at_23 ?_
  refine o_ldc2_w (pc := 24) B (x := (32768 : Int64)) at_24 (hw _ (List.mem_of_getElem? (i := 100) rfl)) ?_
  refine o_lor (pc := 27) B at_27 ?_
  refine o_goto (pc := 28) (pc' := 32) B at_28 (by decide) (by decide) ?_
  refine o_lstore_13_8 (pc := 32) B at_32 rfl ?_
  exact T34 _ _ (Or.inr ⟨rfl, own_share by_⟩)
set_option maxRecDepth 65536 in
set_option maxHeartbeats 40000000 in
theorem comes_1 {Post : Tables → Env → Array Value → State → Outcome → State → Prop} (hpost : ∀ tb e args s v u, (limb_1_1.after args s (.returned v) u = true ∧ limb_1_2.after args s (.returned v) u = true ∧ True) → FrameEnd s (.returned v) u (Jvm.fieldLocs frame_1_writes args s ++ Jvm.arrayLocs frame_1_arrays args s ++ Jvm.staticLocs frame_1_statics s) 400 4992 → Post tb e args s (.returned v) u) :
    ArmFor flags0 classFile x code maxLocals ret World_1 tables_1 room_1 Calls_1 rest_1 Pre_1 Post := by
  intro l hfl _ _ p e ha hc hk s m args below hf hA hF happ hP
  obtain ⟨hcalls, hrest, hpre⟩ := hP
  obtain ⟨-, -, -, hnamed, -, -, -, hat⟩ := (Spec.applies_iff hf).mp happ
  obtain ⟨hg, hn⟩ := and_e (Cond.before_iff.mp (show (Jvm.Cond.and given_1 narrow_1).before args s = true from hpre))
  obtain ⟨hcnt, g0⟩ := and_e hg
  obtain ⟨q0, g1⟩ := and_e g0
  obtain ⟨q1, g2⟩ := and_e g1
  obtain ⟨q2, g3⟩ := and_e g2
  obtain ⟨w0, w1, w2, w3, rfl⟩ : ∃ w0 w1 w2 w3 : Value, args = #[w0, w1, w2, w3] := by
    have hs : args.size = 4 := by simpa [Cond.value, given_1] using hcnt
    obtain ⟨L⟩ := args
    match L, hs with
    | [w0, w1, w2, w3], _ => exact ⟨w0, w1, w2, w3, rfl⟩
  have hw := fun d (hd : d ∈ tables_1) => atoms_spec (ws := Jvm.Cond.code x code maxLocals ret :: tables_1) hat d (List.mem_cons_of_mem _ hd)
  obtain ⟨i0, e0⟩ := isL_v q0
  obtain rfl : w0 = (.long i0) := Option.some.inj e0
  obtain ⟨i1, e1⟩ := isL_v q1
  obtain rfl : w1 = (.long i1) := Option.some.inj e1
  obtain ⟨i2, e2⟩ := isL_v q2
  obtain rfl : w2 = (.long i2) := Option.some.inj e2
  obtain ⟨i3, e3⟩ := is_v g3
  obtain rfl : w3 = (.int i3) := Option.some.inj e3
  obtain ⟨n, o, h1, h2, h3, _, L, rfl, ⟨rfl, N⟩, hq⟩ := (oc0 l s #[.long i0, .long i1, .long i2, .int i3] hw s.heap.size s.heap i0 i1 i2 i3 (Nat.le_refl _)) tables_1 p e ha hc hk s m _ below hf ((Spec.applies_iff_loose hf).mp happ).1 ⟨rfl, State.Warmed39.refl s, rfl⟩ trivial
  refine ⟨n, _, h1, h2, h3, hpost _ _ _ _ _ _ ⟨Cond.after_iff.mpr rfl, Cond.after_iff.mpr (eq_i res_at (Term.int_eval (1)) rfl), trivial⟩ ⟨hq.1, hq.2.1, (hq.2.2.sift fun y hy => Or.inr (N y hy)).mono (by decide) (by decide)⟩⟩
theorem main_1_1 : Claimed_1_1 := comes_1 fun _ _ _ _ _ _ h hF => ⟨h.1, hF⟩
theorem main_1_2 : Claimed_1_2 := comes_1 fun _ _ _ _ _ _ h hF => ⟨h.2.1, hF⟩
end Jvm.Pilot.@@N@@
namespace Jvm.Pilot.@@N@@
open Jvm Jvm.ClassFile Sem Op Lib Jvm.Free Jvm.Stand Jvm.Pilot.@@N@@.Jvm.D
/-! MADE BY PROGRAM (witnessworld.py) out of the Statement's table words and the real class files: 22 classes; the members and pool entries that the words name. The judged class is class 1, her method 1. -/
namespace start1
open Jvm.ClassFile
def u (s : String) : CpInfo := .utf8 (stringToUtf16 s)
/-- a pool by its gaps: so many unusable entries, then the entry; so many at the end -/
def gap : Nat → List CpInfo → List CpInfo
  | 0, r => r
  | n + 1, r => .unusable :: gap n r
def poolList (es : List (Nat × CpInfo)) (last : Nat) : List CpInfo := es.foldr (fun e r => gap e.1 (e.2 :: r)) (gap last [])
def pool (es : List (Nat × CpInfo)) (last : Nat) : Array CpInfo := ⟨poolList es last⟩
def fileOf (pool : Array CpInfo) (this : Nat) (attrs : Array Attribute := #[]) (ms : Array MethodInfo := #[]) (fl : Nat := 33) (sup : Nat := 0) (ifs : Array Nat := #[]) (fds : Array FieldInfo := #[]) : ClassFile where
  minorVersion := 0
  majorVersion := 65
  constantPool := pool
  accessFlags := fl
  thisClass := this
  superClass := sup
  interfaces := ifs
  fields := fds
  methods := ms
  attributes := attrs
def plain (name : String) (sup : Option ClassId) : Class where
  name := name
  kind := .ordinary
  loader := none
  accessFlags := 33
  super := sup
  interfaces := #[]
  cf := none
  fields := #[]
  methods := #[]
  instanceTypes := #[]
  staticTypes := #[]
  resolved := #[]
  callSites := []
  init := .initialized
  statics := none
  mirror := none

def pool0 : Array CpInfo := pool [(5, u "<init>"), (0, u "()V"), (1, .class_ 10), (1, u "java/lang/Object")] 113

def k0c0 : Code := { maxStack := 0, maxLocals := 1, code := object_method_1_code, exceptionTable := #[], attributes := #[] }
def k0m0 : Method := { name := "<init>", desc := "()V", sig := { parameters := [], returnType := none }, accessFlags := 1, code := some k0c0 }
/-- java/lang/Object -/
def k0 : Class := { plain "java/lang/Object" none with
  accessFlags := 33
  interfaces := #[]
  cf := some (fileOf pool0 8 #[] #[{ accessFlags := 1, nameIndex := 5, descriptorIndex := 6, attributes := #[] }] 33 0 #[] #[])
  fields := #[]
  methods := #[k0m0]
  instanceTypes := #[]
  staticTypes := #[]
  resolved := Array.replicate 124 none
  statics := none }

def pool1 : Array CpInfo := pool [(2, .class_ 4), (1, u "java/lang/Object"), (0, u "<init>"), (0, u "()V"), (2, .long 9223372036854775807), (1, .long 32768), (1, .class_ 14), (0, u "com/example/one_verdict/oneverdict/check/PlaceTable"), (0, .methodref 13 16), (0, .nameAndType 5 17), (0, u "(J)V"), (0, .methodref 13 19), (0, .nameAndType 20 21), (0, u "slots"), (0, u "()J"), (0, .long 1024), (1, .long 18446744073709551600), (1, .methodref 13 27), (0, .nameAndType 28 29), (0, u "reach"), (0, u "(JJ)J"), (0, .long 2), (1, .long 3), (1, .long 4), (1, .long 5), (1, .long 6), (1, .long 7), (1, .long 8), (1, .long 9), (1, .long 10), (1, .long 11), (1, .long 12), (1, .long 13), (1, .long 1040), (1, .class_ 57), (0, u "com/example/one_verdict/oneverdict/check/PlaceTableSlotsPinLaw"), (2, u "law"), (0, u "(JJJI)Z")] 3

def k1m0 : Method := { name := "<init>", desc := "()V", sig := { parameters := [], returnType := none }, accessFlags := 1, code := none }
def k1c1 : Code := { maxStack := 5, maxLocals := 13, code := code, exceptionTable := #[], attributes := #[] }
def k1m1 : Method := { name := "law", desc := "(JJJI)Z", sig := { parameters := [.long, .long, .long, .int], returnType := some .boolean }, accessFlags := 9, code := some k1c1 }
/-- com/example/one_verdict/oneverdict/check/PlaceTableSlotsPinLaw -/
def k1 : Class := { plain "com/example/one_verdict/oneverdict/check/PlaceTableSlotsPinLaw" (some 0) with
  accessFlags := 49
  interfaces := #[]
  cf := some (fileOf pool1 56 #[] #[{ accessFlags := 1, nameIndex := 5, descriptorIndex := 6, attributes := #[] }, { accessFlags := 9, nameIndex := 60, descriptorIndex := 61, attributes := #[] }] 49 2 #[] #[])
  fields := #[]
  methods := #[k1m0, k1m1]
  instanceTypes := #[]
  staticTypes := #[]
  resolved := Array.replicate 65 none
  statics := none }

def pool2 : Array CpInfo := pool [(1, .class_ 2), (0, u "java/lang/AutoCloseable"), (0, .class_ 4), (0, u "java/lang/Object")] 7

/-- java/lang/AutoCloseable -/
def k2 : Class := { plain "java/lang/AutoCloseable" (some 0) with
  accessFlags := 1537
  interfaces := #[]
  cf := some (fileOf pool2 1 #[] #[] 1537 3 #[] #[])
  fields := #[]
  methods := #[]
  instanceTypes := #[]
  staticTypes := #[]
  resolved := Array.replicate 12 none
  statics := none }

def pool3 : Array CpInfo := pool [(1, .class_ 2), (0, u "java/io/Closeable"), (0, .class_ 4), (0, u "java/lang/Object"), (0, .class_ 6), (0, u "java/lang/AutoCloseable")] 7

/-- java/io/Closeable -/
def k3 : Class := { plain "java/io/Closeable" (some 0) with
  accessFlags := 1537
  interfaces := #[2]
  cf := some (fileOf pool3 1 #[] #[] 1537 3 #[5] #[])
  fields := #[]
  methods := #[]
  instanceTypes := #[]
  staticTypes := #[]
  resolved := Array.replicate 14 none
  statics := none }

def pool4 : Array CpInfo := pool [(3, .methodref 4 5), (0, .class_ 6), (0, .nameAndType 7 8), (0, u "java/lang/Object"), (0, u "<init>"), (0, u "()V"), (0, .class_ 10), (0, u "com/example/one_verdict/oneverdict/check/PlaceTable"), (0, .class_ 12), (0, u "com/example/one_verdict/oneverdict/check/PlaceTable$Segment"), (0, .fieldref 9 14), (0, .nameAndType 15 16), (0, u "segments"), (0, u "[Lcom/example/one_verdict/oneverdict/check/PlaceTable$Segment;"), (0, .long 16), (1, .long 1073741824), (1, .class_ 22), (0, u "com/example/one_verdict/oneverdict/check/FingerprintSet"), (0, .methodref 24 25), (0, .class_ 26), (0, .nameAndType 27 28), (0, u "java/lang/Math"), (0, u "max"), (0, u "(JJ)J"), (0, .methodref 24 30), (0, .nameAndType 31 28), (0, u "min"), (0, .methodref 33 34), (0, .class_ 35), (0, .nameAndType 36 37), (0, u "java/lang/Integer"), (0, u "highestOneBit"), (0, u "(I)I"), (0, .fieldref 9 39), (0, .nameAndType 40 41), (0, u "mostSlots"), (0, u "I"), (0, .methodref 11 43), (0, .nameAndType 7 44), (0, u "(Lcom/example/one_verdict/oneverdict/check/PlaceTable;)V"), (0, .methodref 21 46), (0, .nameAndType 47 48), (0, u "key"), (0, u "(J)J"), (0, .methodref 9 50), (0, .nameAndType 51 52), (0, u "segment"), (0, u "(J)Lcom/example/one_verdict/oneverdict/check/PlaceTable$Segment;"), (0, .fieldref 11 54), (0, .nameAndType 55 56), (0, u "keys"), (0, u "[J"), (0, .methodref 21 58), (0, .nameAndType 59 60), (0, u "slot"), (0, u "([JJ)I"), (0, .fieldref 11 62), (0, .nameAndType 63 56), (0, u "places"), (0, .long 9223372036854775807), (1, .methodref 11 67), (0, .nameAndType 68 69), (0, u "put"), (0, u "(IJJ)V"), (2, u "spilled"), (0, u "Lcom/example/one_verdict/oneverdict/check/SortedRuns;"), (18, .class_ 93), (0, u "com/example/one_verdict/oneverdict/check/PlaceTable$Earliest"), (18, .methodref 21 113), (0, .nameAndType 114 115), (0, u "segmentOf"), (0, u "(JI)I"), (4, .class_ 121), (0, u "java/io/Closeable"), (0, u "NONE"), (0, u "J"), (1, u "SEGMENT_BITS"), (1, u "MOST_SLOTS"), (1, u "(J)V"), (6, u "reach"), (7, u "slots"), (0, u "()J")] 9

def k4c0 : Code := { maxStack := 7, maxLocals := 6, code := prog_19_method_1_code, exceptionTable := #[], attributes := #[] }
def k4m0 : Method := { name := "<init>", desc := "(J)V", sig := { parameters := [.long], returnType := none }, accessFlags := 0, code := some k4c0 }
def k4c1 : Code := { maxStack := 6, maxLocals := 13, code := prog_19_method_3_code, exceptionTable := #[{ startPc := 20, endPc := 79, handlerPc := 80, catchType := 0 }, { startPc := 80, endPc := 85, handlerPc := 80, catchType := 0 }], attributes := #[] }
def k4m1 : Method := { name := "reach", desc := "(JJ)J", sig := { parameters := [.long, .long], returnType := some .long }, accessFlags := 0, code := some k4c1 }
def k4c2 : Code := { maxStack := 4, maxLocals := 7, code := prog_19_method_9_code, exceptionTable := #[], attributes := #[] }
def k4m2 : Method := { name := "slots", desc := "()J", sig := { parameters := [], returnType := some .long }, accessFlags := 0, code := some k4c2 }
def k4c3 : Code := { maxStack := 4, maxLocals := 3, code := prog_19_method_11_code, exceptionTable := #[], attributes := #[] }
def k4m3 : Method := { name := "segment", desc := "(J)Lcom/example/one_verdict/oneverdict/check/PlaceTable$Segment;", sig := { parameters := [.long], returnType := some (.object "com/example/one_verdict/oneverdict/check/PlaceTable$Segment") }, accessFlags := 2, code := some k4c3 }
/-- com/example/one_verdict/oneverdict/check/PlaceTable -/
def k4 : Class := { plain "com/example/one_verdict/oneverdict/check/PlaceTable" (some 0) with
  accessFlags := 32
  interfaces := #[3]
  cf := some (fileOf pool4 9 #[.nestMembers #[11, 92]] #[{ accessFlags := 0, nameIndex := 7, descriptorIndex := 129, attributes := #[] }, { accessFlags := 0, nameIndex := 136, descriptorIndex := 28, attributes := #[] }, { accessFlags := 0, nameIndex := 144, descriptorIndex := 145, attributes := #[] }, { accessFlags := 2, nameIndex := 51, descriptorIndex := 52, attributes := #[] }] 32 4 #[120] #[{ accessFlags := 24, nameIndex := 122, descriptorIndex := 123, attributes := #[] }, { accessFlags := 26, nameIndex := 125, descriptorIndex := 41, attributes := #[] }, { accessFlags := 26, nameIndex := 127, descriptorIndex := 41, attributes := #[] }, { accessFlags := 18, nameIndex := 15, descriptorIndex := 16, attributes := #[] }, { accessFlags := 18, nameIndex := 40, descriptorIndex := 41, attributes := #[] }, { accessFlags := 2, nameIndex := 72, descriptorIndex := 73, attributes := #[] }])
  fields := #[{ name := "NONE", type := .long, accessFlags := 24, slot := 0, constantValue := 0 }, { name := "SEGMENT_BITS", type := .int, accessFlags := 26, slot := 1, constantValue := 0 }, { name := "MOST_SLOTS", type := .int, accessFlags := 26, slot := 2, constantValue := 0 }, { name := "segments", type := (.array (.object "com/example/one_verdict/oneverdict/check/PlaceTable$Segment")), accessFlags := 18, slot := 0, constantValue := 0 }, { name := "mostSlots", type := .int, accessFlags := 18, slot := 1, constantValue := 0 }, { name := "spilled", type := (.object "com/example/one_verdict/oneverdict/check/SortedRuns"), accessFlags := 2, slot := 2, constantValue := 0 }]
  methods := #[k4m0, k4m1, k4m2, k4m3]
  instanceTypes := #[(.array (.object "com/example/one_verdict/oneverdict/check/PlaceTable$Segment")), .int, (.object "com/example/one_verdict/oneverdict/check/SortedRuns")]
  staticTypes := #[.long, .int, .int]
  resolved := ((((Array.replicate 155 none).setIfInBounds 11 (some (.cls 5))).setIfInBounds 42 (some (.method ⟨5, 0⟩))).setIfInBounds 53 (some (.field 5 0))).setIfInBounds 61 (some (.field 5 1))
  statics := none }

def pool5 : Array CpInfo := pool [(1, .fieldref 2 3), (0, .class_ 4), (0, .nameAndType 5 6), (0, u "com/example/one_verdict/oneverdict/check/PlaceTable$Segment"), (0, u "this$0"), (0, u "Lcom/example/one_verdict/oneverdict/check/PlaceTable;"), (0, .methodref 8 9), (0, .class_ 10), (0, .nameAndType 11 12), (0, u "java/lang/Object"), (0, u "<init>"), (0, u "()V"), (0, .class_ 14), (0, u "com/example/one_verdict/oneverdict/check/FingerprintSet"), (0, .fieldref 2 16), (0, .nameAndType 17 18), (0, u "keys"), (0, u "[J"), (0, .fieldref 2 20), (0, .nameAndType 21 18), (0, u "places"), (0, .fieldref 2 23), (0, .nameAndType 24 25), (0, u "count"), (0, u "I"), (0, .methodref 13 27), (0, .nameAndType 28 29), (0, u "isCrowded"), (0, u "(II)Z"), (0, .fieldref 31 32), (0, .class_ 33), (0, .nameAndType 34 25), (0, u "com/example/one_verdict/oneverdict/check/PlaceTable"), (0, u "mostSlots"), (0, .methodref 2 36), (0, .nameAndType 37 12), (0, u "grow"), (9, .methodref 13 48), (0, .nameAndType 49 50), (0, u "slot"), (0, u "([JJ)I"), (18, u "(Lcom/example/one_verdict/oneverdict/check/PlaceTable;)V"), (3, u "put"), (0, u "(IJJ)V")] 8

def k5c0 : Code := { maxStack := 2, maxLocals := 2, code := prog_21_method_1_code, exceptionTable := #[], attributes := #[] }
def k5m0 : Method := { name := "<init>", desc := "(Lcom/example/one_verdict/oneverdict/check/PlaceTable;)V", sig := { parameters := [(.object "com/example/one_verdict/oneverdict/check/PlaceTable")], returnType := none }, accessFlags := 2, code := some k5c0 }
def k5c1 : Code := { maxStack := 4, maxLocals := 6, code := prog_21_method_2_code, exceptionTable := #[], attributes := #[] }
def k5m1 : Method := { name := "put", desc := "(IJJ)V", sig := { parameters := [.int, .long, .long], returnType := none }, accessFlags := 0, code := some k5c1 }
def k5c2 : Code := { maxStack := 4, maxLocals := 5, code := prog_21_method_5_code, exceptionTable := #[], attributes := #[] }
def k5m2 : Method := { name := "grow", desc := "()V", sig := { parameters := [], returnType := none }, accessFlags := 2, code := some k5c2 }
/-- com/example/one_verdict/oneverdict/check/PlaceTable$Segment -/
def k5 : Class := { plain "com/example/one_verdict/oneverdict/check/PlaceTable$Segment" (some 0) with
  accessFlags := 32
  interfaces := #[]
  cf := some (fileOf pool5 2 #[.nestHost 31] #[{ accessFlags := 2, nameIndex := 11, descriptorIndex := 69, attributes := #[] }, { accessFlags := 0, nameIndex := 73, descriptorIndex := 74, attributes := #[] }, { accessFlags := 2, nameIndex := 37, descriptorIndex := 12, attributes := #[] }] 32 8 #[] #[{ accessFlags := 2, nameIndex := 17, descriptorIndex := 18, attributes := #[] }, { accessFlags := 2, nameIndex := 21, descriptorIndex := 18, attributes := #[] }, { accessFlags := 2, nameIndex := 24, descriptorIndex := 25, attributes := #[] }, { accessFlags := 4112, nameIndex := 5, descriptorIndex := 6, attributes := #[] }])
  fields := #[{ name := "keys", type := (.array .long), accessFlags := 2, slot := 0, constantValue := 0 }, { name := "places", type := (.array .long), accessFlags := 2, slot := 1, constantValue := 0 }, { name := "count", type := .int, accessFlags := 2, slot := 2, constantValue := 0 }, { name := "this$0", type := (.object "com/example/one_verdict/oneverdict/check/PlaceTable"), accessFlags := 4112, slot := 3, constantValue := 0 }]
  methods := #[k5m0, k5m1, k5m2]
  instanceTypes := #[(.array .long), (.array .long), .int, (.object "com/example/one_verdict/oneverdict/check/PlaceTable")]
  staticTypes := #[]
  resolved := Array.replicate 83 none
  statics := none }

def pool6 : Array CpInfo := pool [(1, .class_ 2), (0, u "java/lang/Math"), (1, .class_ 6), (1, u "java/lang/Object"), (0, u "<init>"), (0, u "()V"), (89, .class_ 100), (1, u "java/lang/Math$RandomNumberGeneratorHolder"), (20, u "(JJ)J"), (50, u "negativeZeroFloatBits"), (0, u "J"), (2, u "negativeZeroDoubleBits"), (21, u "max"), (2, u "min"), (43, u "$assertionsDisabled"), (0, u "Z"), (91, u "twoToTheDoubleScaleDown"), (0, u "D"), (4, u "twoToTheDoubleScaleUp"), (9, u "E"), (3, u "PI"), (2, u "TAU"), (2, u "DEGREES_TO_RADIANS"), (0, u "RADIANS_TO_DEGREES")] 94

def k6m0 : Method := { name := "<init>", desc := "()V", sig := { parameters := [], returnType := none }, accessFlags := 2, code := none }
def k6c1 : Code := { maxStack := 4, maxLocals := 4, code := jdk_29_method_66_code, exceptionTable := #[], attributes := #[] }
def k6m1 : Method := { name := "max", desc := "(JJ)J", sig := { parameters := [.long, .long], returnType := some .long }, accessFlags := 9, code := some k6c1 }
def k6c2 : Code := { maxStack := 4, maxLocals := 4, code := jdk_29_method_70_code, exceptionTable := #[], attributes := #[] }
def k6m2 : Method := { name := "min", desc := "(JJ)J", sig := { parameters := [.long, .long], returnType := some .long }, accessFlags := 9, code := some k6c2 }
/-- java/lang/Math -/
def k6 : Class := { plain "java/lang/Math" (some 0) with
  accessFlags := 49
  interfaces := #[]
  cf := some (fileOf pool6 1 #[.nestMembers #[98]] #[{ accessFlags := 2, nameIndex := 7, descriptorIndex := 8, attributes := #[] }, { accessFlags := 9, nameIndex := 198, descriptorIndex := 121, attributes := #[] }, { accessFlags := 9, nameIndex := 201, descriptorIndex := 121, attributes := #[] }] 49 4 #[] #[{ accessFlags := 25, nameIndex := 354, descriptorIndex := 339, attributes := #[] }, { accessFlags := 25, nameIndex := 358, descriptorIndex := 339, attributes := #[] }, { accessFlags := 25, nameIndex := 361, descriptorIndex := 339, attributes := #[] }, { accessFlags := 26, nameIndex := 364, descriptorIndex := 339, attributes := #[] }, { accessFlags := 26, nameIndex := 365, descriptorIndex := 339, attributes := #[] }, { accessFlags := 26, nameIndex := 172, descriptorIndex := 173, attributes := #[] }, { accessFlags := 26, nameIndex := 176, descriptorIndex := 173, attributes := #[] }, { accessFlags := 8, nameIndex := 344, descriptorIndex := 339, attributes := #[] }, { accessFlags := 8, nameIndex := 338, descriptorIndex := 339, attributes := #[] }, { accessFlags := 4120, nameIndex := 245, descriptorIndex := 246, attributes := #[] }])
  fields := #[{ name := "E", type := .double, accessFlags := 25, slot := 0, constantValue := 0 }, { name := "PI", type := .double, accessFlags := 25, slot := 1, constantValue := 0 }, { name := "TAU", type := .double, accessFlags := 25, slot := 2, constantValue := 0 }, { name := "DEGREES_TO_RADIANS", type := .double, accessFlags := 26, slot := 3, constantValue := 0 }, { name := "RADIANS_TO_DEGREES", type := .double, accessFlags := 26, slot := 4, constantValue := 0 }, { name := "negativeZeroFloatBits", type := .long, accessFlags := 26, slot := 5, constantValue := 0 }, { name := "negativeZeroDoubleBits", type := .long, accessFlags := 26, slot := 6, constantValue := 0 }, { name := "twoToTheDoubleScaleUp", type := .double, accessFlags := 8, slot := 7, constantValue := 0 }, { name := "twoToTheDoubleScaleDown", type := .double, accessFlags := 8, slot := 8, constantValue := 0 }, { name := "$assertionsDisabled", type := .boolean, accessFlags := 4120, slot := 9, constantValue := 0 }]
  methods := #[k6m0, k6m1, k6m2]
  instanceTypes := #[]
  staticTypes := #[.double, .double, .double, .double, .double, .long, .long, .double, .double, .boolean]
  resolved := Array.replicate 460 none
  statics := none }

def pool7 : Array CpInfo := pool [(1, .class_ 2), (0, u "java/io/Serializable"), (0, .class_ 4), (0, u "java/lang/Object")] 2

/-- java/io/Serializable -/
def k7 : Class := { plain "java/io/Serializable" (some 0) with
  accessFlags := 1537
  interfaces := #[]
  cf := some (fileOf pool7 1 #[] #[] 1537 3 #[] #[])
  fields := #[]
  methods := #[]
  instanceTypes := #[]
  staticTypes := #[]
  resolved := Array.replicate 7 none
  statics := none }

def pool8 : Array CpInfo := pool [(2, .class_ 4), (1, u "java/lang/Object"), (0, u "<init>"), (0, u "()V"), (1, .class_ 10), (1, u "java/lang/Number"), (2, .class_ 14), (0, u "java/io/Serializable"), (0, u "serialVersionUID"), (0, u "J")] 20

def k8m0 : Method := { name := "<init>", desc := "()V", sig := { parameters := [], returnType := none }, accessFlags := 1, code := none }
/-- java/lang/Number -/
def k8 : Class := { plain "java/lang/Number" (some 0) with
  accessFlags := 1057
  interfaces := #[7]
  cf := some (fileOf pool8 8 #[] #[{ accessFlags := 1, nameIndex := 5, descriptorIndex := 6, attributes := #[] }] 1057 2 #[13] #[{ accessFlags := 26, nameIndex := 15, descriptorIndex := 16, attributes := #[] }])
  fields := #[{ name := "serialVersionUID", type := .long, accessFlags := 26, slot := 0, constantValue := 0 }]
  methods := #[k8m0]
  instanceTypes := #[]
  staticTypes := #[.long]
  resolved := Array.replicate 37 none
  statics := none }

def pool9 : Array CpInfo := pool [(1, .class_ 2), (0, u "java/lang/Comparable"), (0, .class_ 4), (0, u "java/lang/Object")] 7

/-- java/lang/Comparable -/
def k9 : Class := { plain "java/lang/Comparable" (some 0) with
  accessFlags := 1537
  interfaces := #[]
  cf := some (fileOf pool9 1 #[] #[] 1537 3 #[] #[])
  fields := #[]
  methods := #[]
  instanceTypes := #[]
  staticTypes := #[]
  resolved := Array.replicate 12 none
  statics := none }

def pool10 : Array CpInfo := pool [(1, .class_ 2), (0, u "java/lang/constant/Constable"), (0, .class_ 4), (0, u "java/lang/Object")] 6

/-- java/lang/constant/Constable -/
def k10 : Class := { plain "java/lang/constant/Constable" (some 0) with
  accessFlags := 1537
  interfaces := #[]
  cf := some (fileOf pool10 1 #[] #[] 1537 3 #[] #[])
  fields := #[]
  methods := #[]
  instanceTypes := #[]
  staticTypes := #[]
  resolved := Array.replicate 11 none
  statics := none }

def pool11 : Array CpInfo := pool [(1, .class_ 2), (0, u "java/lang/constant/ConstantDesc"), (0, .class_ 4), (0, u "java/lang/Object")] 32

/-- java/lang/constant/ConstantDesc -/
def k11 : Class := { plain "java/lang/constant/ConstantDesc" (some 0) with
  accessFlags := 1537
  interfaces := #[]
  cf := some (fileOf pool11 1 #[] #[] 1537 3 #[] #[])
  fields := #[]
  methods := #[]
  instanceTypes := #[]
  staticTypes := #[]
  resolved := Array.replicate 37 none
  statics := none }

def pool12 : Array CpInfo := pool [(1, .class_ 2), (0, u "java/lang/Integer"), (16, u "digits"), (0, u "[C"), (30, .methodref 1 52), (0, .nameAndType 53 54), (0, u "numberOfLeadingZeros"), (0, u "(I)I"), (30, u "DigitOnes"), (0, u "[B"), (2, u "DigitTens"), (37, .integer 2147483648), (61, .class_ 190), (0, u "java/lang/Integer$IntegerCache"), (3, u "I"), (8, .class_ 204), (0, u "java/lang/Number"), (2, u "value"), (56, .integer 65536), (37, u "TYPE"), (0, u "Ljava/lang/Class;"), (0, .class_ 305), (0, u "java/lang/Comparable"), (0, .class_ 307), (0, u "java/lang/constant/Constable"), (0, .class_ 309), (0, u "java/lang/constant/ConstantDesc"), (0, u "MIN_VALUE"), (1, u "MAX_VALUE"), (3, u "SIZE"), (1, u "BYTES"), (1, u "serialVersionUID"), (0, u "J"), (81, u "highestOneBit")] 49

def k12c0 : Code := { maxStack := 3, maxLocals := 1, code := jdk_33_method_45_code, exceptionTable := #[], attributes := #[] }
def k12m0 : Method := { name := "highestOneBit", desc := "(I)I", sig := { parameters := [.int], returnType := some .int }, accessFlags := 9, code := some k12c0 }
def k12c1 : Code := { maxStack := 3, maxLocals := 2, code := jdk_33_method_47_code, exceptionTable := #[], attributes := #[] }
def k12m1 : Method := { name := "numberOfLeadingZeros", desc := "(I)I", sig := { parameters := [.int], returnType := some .int }, accessFlags := 9, code := some k12c1 }
/-- java/lang/Integer -/
def k12 : Class := { plain "java/lang/Integer" (some 8) with
  accessFlags := 49
  interfaces := #[9, 10, 11]
  cf := some (fileOf pool12 1 #[.nestMembers #[189]] #[{ accessFlags := 9, nameIndex := 403, descriptorIndex := 54, attributes := #[] }, { accessFlags := 9, nameIndex := 53, descriptorIndex := 54, attributes := #[] }] 49 203 #[304, 306, 308] #[{ accessFlags := 25, nameIndex := 310, descriptorIndex := 194, attributes := #[] }, { accessFlags := 25, nameIndex := 312, descriptorIndex := 194, attributes := #[] }, { accessFlags := 25, nameIndex := 302, descriptorIndex := 303, attributes := #[] }, { accessFlags := 24, nameIndex := 19, descriptorIndex := 20, attributes := #[] }, { accessFlags := 24, nameIndex := 89, descriptorIndex := 86, attributes := #[] }, { accessFlags := 24, nameIndex := 85, descriptorIndex := 86, attributes := #[] }, { accessFlags := 18, nameIndex := 207, descriptorIndex := 194, attributes := #[] }, { accessFlags := 25, nameIndex := 316, descriptorIndex := 194, attributes := #[] }, { accessFlags := 25, nameIndex := 318, descriptorIndex := 194, attributes := #[] }, { accessFlags := 26, nameIndex := 320, descriptorIndex := 321, attributes := #[] }])
  fields := #[{ name := "MIN_VALUE", type := .int, accessFlags := 25, slot := 0, constantValue := 0 }, { name := "MAX_VALUE", type := .int, accessFlags := 25, slot := 1, constantValue := 0 }, { name := "TYPE", type := (.object "java/lang/Class"), accessFlags := 25, slot := 2, constantValue := 0 }, { name := "digits", type := (.array .char), accessFlags := 24, slot := 3, constantValue := 0 }, { name := "DigitTens", type := (.array .byte), accessFlags := 24, slot := 4, constantValue := 0 }, { name := "DigitOnes", type := (.array .byte), accessFlags := 24, slot := 5, constantValue := 0 }, { name := "value", type := .int, accessFlags := 18, slot := 0, constantValue := 0 }, { name := "SIZE", type := .int, accessFlags := 25, slot := 6, constantValue := 0 }, { name := "BYTES", type := .int, accessFlags := 25, slot := 7, constantValue := 0 }, { name := "serialVersionUID", type := .long, accessFlags := 26, slot := 8, constantValue := 0 }]
  methods := #[k12m0, k12m1]
  instanceTypes := #[.int]
  staticTypes := #[.int, .int, (.object "java/lang/Class"), (.array .char), (.array .byte), (.array .byte), .int, .int, .long]
  resolved := Array.replicate 453 none
  statics := none }

def pool13 : Array CpInfo := pool [(2, .class_ 4), (1, u "java/lang/Object"), (3, .class_ 10), (1, u "com/example/one_verdict/oneverdict/check/FingerprintSet"), (0, u "segmentBits"), (0, u "I"), (1, u "[J"), (2, u "tables"), (0, u "[[J"), (2, u "counts"), (0, u "[I"), (2, u "blockStarts"), (22, u "mostSegmentBits"), (2, u "key"), (0, u "(J)J"), (2, u "segmentOf"), (0, u "(JI)I"), (2, u "slot"), (0, u "([JJ)I"), (2, u "inFile"), (0, u "J"), (2, u "isCrowded"), (0, u "(II)Z"), (16, .class_ 87), (1, u "com/example/one_verdict/oneverdict/check/FingerprintSet$FileLookup"), (13, u "file"), (0, u "Lcom/example/one_verdict/oneverdict/check/ScratchFile;"), (5, .long 9223372036854775809), (1, .long 4), (1, .long 3), (1, .long 9223372036854775808), (9, .class_ 125), (0, u "com/example/one_verdict/oneverdict/check/FingerprintSet$SortedKeys"), (3, .class_ 130), (0, u "com/example/one_verdict/oneverdict/check/FingerprintSet$KeysInFile"), (42, .class_ 174), (0, u "java/io/Closeable"), (0, u "ZERO"), (1, u "FEWEST_SLOTS"), (1, u "MOST_SLOTS"), (0, u "MOST_SEGMENT_BITS"), (1, u "BLOCK")] 23

def k13c0 : Code := { maxStack := 4, maxLocals := 2, code := prog_6_method_9_code, exceptionTable := #[], attributes := #[] }
def k13m0 : Method := { name := "key", desc := "(J)J", sig := { parameters := [.long], returnType := some .long }, accessFlags := 8, code := some k13c0 }
def k13c1 : Code := { maxStack := 4, maxLocals := 5, code := prog_6_method_10_code, exceptionTable := #[], attributes := #[] }
def k13m1 : Method := { name := "slot", desc := "([JJ)I", sig := { parameters := [(.array .long), .long], returnType := some .int }, accessFlags := 8, code := some k13c1 }
def k13c2 : Code := { maxStack := 6, maxLocals := 2, code := prog_6_method_11_code, exceptionTable := #[], attributes := #[] }
def k13m2 : Method := { name := "isCrowded", desc := "(II)Z", sig := { parameters := [.int, .int], returnType := some .boolean }, accessFlags := 8, code := some k13c2 }
def k13c3 : Code := { maxStack := 4, maxLocals := 3, code := prog_6_method_13_code, exceptionTable := #[], attributes := #[] }
def k13m3 : Method := { name := "segmentOf", desc := "(JI)I", sig := { parameters := [.long, .int], returnType := some .int }, accessFlags := 8, code := some k13c3 }
/-- com/example/one_verdict/oneverdict/check/FingerprintSet -/
def k13 : Class := { plain "com/example/one_verdict/oneverdict/check/FingerprintSet" (some 0) with
  accessFlags := 32
  interfaces := #[3]
  cf := some (fileOf pool13 8 #[.nestMembers #[124, 129, 85]] #[{ accessFlags := 8, nameIndex := 51, descriptorIndex := 52, attributes := #[] }, { accessFlags := 8, nameIndex := 59, descriptorIndex := 60, attributes := #[] }, { accessFlags := 8, nameIndex := 67, descriptorIndex := 68, attributes := #[] }, { accessFlags := 8, nameIndex := 55, descriptorIndex := 56, attributes := #[] }] 32 2 #[173] #[{ accessFlags := 26, nameIndex := 175, descriptorIndex := 64, attributes := #[] }, { accessFlags := 24, nameIndex := 177, descriptorIndex := 12, attributes := #[] }, { accessFlags := 24, nameIndex := 179, descriptorIndex := 12, attributes := #[] }, { accessFlags := 26, nameIndex := 180, descriptorIndex := 12, attributes := #[] }, { accessFlags := 26, nameIndex := 182, descriptorIndex := 12, attributes := #[] }, { accessFlags := 18, nameIndex := 48, descriptorIndex := 12, attributes := #[] }, { accessFlags := 2, nameIndex := 11, descriptorIndex := 12, attributes := #[] }, { accessFlags := 2, nameIndex := 17, descriptorIndex := 18, attributes := #[] }, { accessFlags := 2, nameIndex := 21, descriptorIndex := 22, attributes := #[] }, { accessFlags := 2, nameIndex := 101, descriptorIndex := 102, attributes := #[] }, { accessFlags := 2, nameIndex := 63, descriptorIndex := 64, attributes := #[] }, { accessFlags := 2, nameIndex := 25, descriptorIndex := 14, attributes := #[] }])
  fields := #[{ name := "ZERO", type := .long, accessFlags := 26, slot := 0, constantValue := 0 }, { name := "FEWEST_SLOTS", type := .int, accessFlags := 24, slot := 1, constantValue := 0 }, { name := "MOST_SLOTS", type := .int, accessFlags := 24, slot := 2, constantValue := 0 }, { name := "MOST_SEGMENT_BITS", type := .int, accessFlags := 26, slot := 3, constantValue := 0 }, { name := "BLOCK", type := .int, accessFlags := 26, slot := 4, constantValue := 0 }, { name := "mostSegmentBits", type := .int, accessFlags := 18, slot := 0, constantValue := 0 }, { name := "segmentBits", type := .int, accessFlags := 2, slot := 1, constantValue := 0 }, { name := "tables", type := (.array (.array .long)), accessFlags := 2, slot := 2, constantValue := 0 }, { name := "counts", type := (.array .int), accessFlags := 2, slot := 3, constantValue := 0 }, { name := "file", type := (.object "com/example/one_verdict/oneverdict/check/ScratchFile"), accessFlags := 2, slot := 4, constantValue := 0 }, { name := "inFile", type := .long, accessFlags := 2, slot := 5, constantValue := 0 }, { name := "blockStarts", type := (.array .long), accessFlags := 2, slot := 6, constantValue := 0 }]
  methods := #[k13m0, k13m1, k13m2, k13m3]
  instanceTypes := #[.int, .int, (.array (.array .long)), (.array .int), (.object "com/example/one_verdict/oneverdict/check/ScratchFile"), .long, (.array .long)]
  staticTypes := #[.long, .int, .int, .int, .int]
  resolved := Array.replicate 206 none
  statics := none }

def pool14 : Array CpInfo := pool [(1, u "java/lang/Cloneable"), (0, .class_ 1), (0, u "java/lang/Object"), (0, .class_ 3)] 3

/-- java/lang/Cloneable -/
def k14 : Class := { plain "java/lang/Cloneable" (some 0) with
  accessFlags := 1537
  interfaces := #[]
  cf := some (fileOf pool14 2 #[] #[] 1537 4 #[] #[])
  fields := #[]
  methods := #[]
  instanceTypes := #[]
  staticTypes := #[]
  resolved := Array.replicate 8 none
  statics := none }

/-- the primitive byte -/
def k15 : Class := { plain "byte" none with kind := .primitive 'B', accessFlags := 0x411 }
/-- [B -/
def k16 : Class := { plain "[B" (some 0) with kind := .array 15 .byte, interfaces := #[14, 7], accessFlags := 1041 }

/-- the primitive int -/
def k17 : Class := { plain "int" none with kind := .primitive 'I', accessFlags := 0x411 }
/-- [I -/
def k18 : Class := { plain "[I" (some 0) with kind := .array 17 .int, interfaces := #[14, 7], accessFlags := 1041 }

/-- the primitive long -/
def k19 : Class := { plain "long" none with kind := .primitive 'J', accessFlags := 0x411 }
/-- [J -/
def k20 : Class := { plain "[J" (some 0) with kind := .array 19 .long, interfaces := #[14, 7], accessFlags := 1041 }

/-- [Lcom/example/one_verdict/oneverdict/check/PlaceTable$Segment; -/
def k21 : Class := { plain "[Lcom/example/one_verdict/oneverdict/check/PlaceTable$Segment;" (some 0) with kind := .array 5 (.object "com/example/one_verdict/oneverdict/check/PlaceTable$Segment"), interfaces := #[14, 7], accessFlags := 1041 }

def heap : Heap := #[]
def classes : Array Class := #[k0, k1, k2, k3, k4, k5, k6, k7, k8, k9, k10, k11, k12, k13, k14, k15, k16, k17, k18, k19, k20, k21]
def interned : List (Array UInt16 × Addr) := []
def slotsUsed : Nat := 0
def theMethod : MethodId := ⟨1, 1⟩
def args0 : Array Value := #[.long 5, .long 7, .long 3, .int 0]
def aboutOver (below : List Frame) : State where
  vm := { classes := classes, interned := interned.toArray }
  heap := heap
  slotsUsed := slotsUsed
  threads := #[{ frames := .invoking theMethod args0 :: below }]
def below0 : List Frame := [.native { method := ⟨0, 0⟩, args := #[] }]
def about1 : State := aboutOver below0
def p0 : Program := .bare "" "" ""
def e0 : Env := launch0.env 0 0 0
theorem w_frames : about1.frames = Frame.invoking theMethod args0 :: below0 := rfl
set_option maxRecDepth 65536 in
theorem w_args : argsFit about1.vm theMethod args0 = true := by decide +kernel
set_option maxRecDepth 65536 in
theorem w_heap : heapFits about1 = true := by decide +kernel
set_option maxRecDepth 65536 in
theorem w_runnable : about1.curStatus? = some .runnable := by decide +kernel
set_option maxRecDepth 65536 in
theorem w_alone : about1.alone = true := by decide +kernel
set_option maxRecDepth 65536 in
theorem w_named : about1.methodNamed? x = some theMethod := by decide +kernel
set_option maxRecDepth 65536 in
theorem w_hears : about1.hears theMethod below0 = true := by decide +kernel
set_option maxRecDepth 65536 in
theorem w_ripe : about1.ripe theMethod args0 below0 = true := by decide +kernel
theorem w_running : about1.status = .running := rfl
set_option maxRecDepth 65536 in
theorem w_room : about1.hasRoom e0.platform room_1 = true :=
  launch0.hasRoom_least _ room_1 (by decide +kernel) (by decide +kernel) (by decide +kernel) (by decide +kernel) (by decide +kernel) (by decide +kernel)
theorem allAtoms_all (ts : List Jvm.Cond) (a : Array Jvm.Value) (st : Jvm.State) : (allAtoms ts).before a st = ts.all (fun c => c.before a st) := by
  induction ts with
  | nil => rfl
  | cons c t ih =>
    show (Jvm.Cond.and c (allAtoms t)).before a st = _
    rw [Jvm.Cond.before_and, ih, List.all_cons]
def words1 : List Jvm.Cond := Jvm.Cond.code x code maxLocals ret :: tables_1
/-- a 'code' word, met by the world's own term for the bytes: nothing is compared byte by byte -/
theorem code_word {y : MethodName} {bytes : ByteArray} {mx : Nat} {rt : Option FieldType} {a : Array Value} {s : State} {m : MethodId} {meth : Method} {c : Code} (h1 : s.methodNamed? y = some m) (h2 : s.vm.method? m = some meth) (h3 : meth.code = some c) (h4 : c.code = bytes)
    (h5 : (c.maxLocals == mx && c.exceptionTable.isEmpty && decide (c.maxStack ≤ mostOperands) && decide (meth.sig.returnType = rt) && !meth.locks && decide (parseMethodDescriptor y.desc = some meth.sig)) = true) : (Jvm.Cond.code y bytes mx rt).before a s = true := by
  simp only [Bool.and_eq_true, beq_iff_eq, Bool.not_eq_true', decide_eq_true_eq] at h5
  obtain ⟨⟨⟨⟨⟨g1, g2⟩, g3⟩, g4⟩, g5⟩, g6⟩ := h5
  simp [Cond.before, Cond.holds, Cond.value, h1, h2, h3, h4, g1, g2, g3, g4, g5, g6]
def isCode : Jvm.Cond → Bool
  | .code _ _ _ _ => true
  | _ => false
theorem all_split {L : List Jvm.Cond} {P : Jvm.Cond → Bool} (h1 : L.all (fun c => isCode c || P c) = true) (h2 : ∀ c ∈ L.filter isCode, P c = true) : L.all P = true := by
  refine List.all_eq_true.mpr fun c hc => ?_
  have h := List.all_eq_true.mp h1 c hc
  rcases Bool.eq_false_or_eq_true (isCode c) with hi | hi
  · exact h2 c (List.mem_filter.mpr ⟨hc, hi⟩)
  · simpa [hi] using h
set_option maxRecDepth 65536 in
theorem w_c0 : (Jvm.Cond.code x code maxLocals ret).before args0 about1 = true := code_word (m := ⟨1, 1⟩) (meth := k1m1) (c := k1c1) (by decide +kernel) rfl rfl rfl (by decide +kernel)
set_option maxRecDepth 65536 in
theorem w_c1 : (Jvm.Cond.code ({ cls := "com/example/one_verdict/oneverdict/check/PlaceTable", name := "<init>", desc := "(J)V" } : Jvm.MethodName) prog_19_method_1_code (6 : Nat) (Option.none : Option Jvm.ClassFile.FieldType)).before args0 about1 = true := code_word (m := ⟨4, 0⟩) (meth := k4m0) (c := k4c0) (by decide +kernel) rfl rfl rfl (by decide +kernel)
set_option maxRecDepth 65536 in
theorem w_c2 : (Jvm.Cond.code ({ cls := "java/lang/Object", name := "<init>", desc := "()V" } : Jvm.MethodName) object_method_1_code (1 : Nat) (Option.none : Option Jvm.ClassFile.FieldType)).before args0 about1 = true := code_word (m := ⟨0, 0⟩) (meth := k0m0) (c := k0c0) (by decide +kernel) rfl rfl rfl (by decide +kernel)
set_option maxRecDepth 65536 in
theorem w_c3 : (Jvm.Cond.code ({ cls := "java/lang/Math", name := "max", desc := "(JJ)J" } : Jvm.MethodName) jdk_29_method_66_code (4 : Nat) (Option.some Jvm.ClassFile.FieldType.long)).before args0 about1 = true := code_word (m := ⟨6, 1⟩) (meth := k6m1) (c := k6c1) (by decide +kernel) rfl rfl rfl (by decide +kernel)
set_option maxRecDepth 65536 in
theorem w_c4 : (Jvm.Cond.code ({ cls := "java/lang/Math", name := "min", desc := "(JJ)J" } : Jvm.MethodName) jdk_29_method_70_code (4 : Nat) (Option.some Jvm.ClassFile.FieldType.long)).before args0 about1 = true := code_word (m := ⟨6, 2⟩) (meth := k6m2) (c := k6c2) (by decide +kernel) rfl rfl rfl (by decide +kernel)
set_option maxRecDepth 65536 in
theorem w_c5 : (Jvm.Cond.code ({ cls := "java/lang/Integer", name := "highestOneBit", desc := "(I)I" } : Jvm.MethodName) jdk_33_method_45_code (1 : Nat) (Option.some Jvm.ClassFile.FieldType.int)).before args0 about1 = true := code_word (m := ⟨12, 0⟩) (meth := k12m0) (c := k12c0) (by decide +kernel) rfl rfl rfl (by decide +kernel)
set_option maxRecDepth 65536 in
theorem w_c6 : (Jvm.Cond.code ({ cls := "java/lang/Integer", name := "numberOfLeadingZeros", desc := "(I)I" } : Jvm.MethodName) jdk_33_method_47_code (2 : Nat) (Option.some Jvm.ClassFile.FieldType.int)).before args0 about1 = true := code_word (m := ⟨12, 1⟩) (meth := k12m1) (c := k12c1) (by decide +kernel) rfl rfl rfl (by decide +kernel)
set_option maxRecDepth 65536 in
theorem w_c7 : (Jvm.Cond.code ({ cls := "com/example/one_verdict/oneverdict/check/PlaceTable$Segment", name := "<init>", desc := "(Lcom/example/one_verdict/oneverdict/check/PlaceTable;)V" } : Jvm.MethodName) prog_21_method_1_code (2 : Nat) (Option.none : Option Jvm.ClassFile.FieldType)).before args0 about1 = true := code_word (m := ⟨5, 0⟩) (meth := k5m0) (c := k5c0) (by decide +kernel) rfl rfl rfl (by decide +kernel)
set_option maxRecDepth 65536 in
theorem w_c8 : (Jvm.Cond.code ({ cls := "com/example/one_verdict/oneverdict/check/PlaceTable", name := "slots", desc := "()J" } : Jvm.MethodName) prog_19_method_9_code (7 : Nat) (Option.some Jvm.ClassFile.FieldType.long)).before args0 about1 = true := code_word (m := ⟨4, 2⟩) (meth := k4m2) (c := k4c2) (by decide +kernel) rfl rfl rfl (by decide +kernel)
set_option maxRecDepth 65536 in
theorem w_c9 : (Jvm.Cond.code ({ cls := "com/example/one_verdict/oneverdict/check/FingerprintSet", name := "key", desc := "(J)J" } : Jvm.MethodName) prog_6_method_9_code (2 : Nat) (Option.some Jvm.ClassFile.FieldType.long)).before args0 about1 = true := code_word (m := ⟨13, 0⟩) (meth := k13m0) (c := k13c0) (by decide +kernel) rfl rfl rfl (by decide +kernel)
set_option maxRecDepth 65536 in
theorem w_c10 : (Jvm.Cond.code ({ cls := "com/example/one_verdict/oneverdict/check/PlaceTable", name := "segment", desc := "(J)Lcom/example/one_verdict/oneverdict/check/PlaceTable$Segment;" } : Jvm.MethodName) prog_19_method_11_code (3 : Nat) (Option.some (Jvm.ClassFile.FieldType.object "com/example/one_verdict/oneverdict/check/PlaceTable$Segment"))).before args0 about1 = true := code_word (m := ⟨4, 3⟩) (meth := k4m3) (c := k4c3) (by decide +kernel) rfl rfl rfl (by decide +kernel)
set_option maxRecDepth 65536 in
theorem w_c11 : (Jvm.Cond.code ({ cls := "com/example/one_verdict/oneverdict/check/FingerprintSet", name := "segmentOf", desc := "(JI)I" } : Jvm.MethodName) prog_6_method_13_code (3 : Nat) (Option.some Jvm.ClassFile.FieldType.int)).before args0 about1 = true := code_word (m := ⟨13, 3⟩) (meth := k13m3) (c := k13c3) (by decide +kernel) rfl rfl rfl (by decide +kernel)
set_option maxRecDepth 65536 in
theorem w_c12 : (Jvm.Cond.code ({ cls := "com/example/one_verdict/oneverdict/check/FingerprintSet", name := "slot", desc := "([JJ)I" } : Jvm.MethodName) prog_6_method_10_code (5 : Nat) (Option.some Jvm.ClassFile.FieldType.int)).before args0 about1 = true := code_word (m := ⟨13, 1⟩) (meth := k13m1) (c := k13c1) (by decide +kernel) rfl rfl rfl (by decide +kernel)
set_option maxRecDepth 65536 in
theorem w_c13 : (Jvm.Cond.code ({ cls := "com/example/one_verdict/oneverdict/check/PlaceTable$Segment", name := "put", desc := "(IJJ)V" } : Jvm.MethodName) prog_21_method_2_code (6 : Nat) (Option.none : Option Jvm.ClassFile.FieldType)).before args0 about1 = true := code_word (m := ⟨5, 1⟩) (meth := k5m1) (c := k5c1) (by decide +kernel) rfl rfl rfl (by decide +kernel)
set_option maxRecDepth 65536 in
theorem w_c14 : (Jvm.Cond.code ({ cls := "com/example/one_verdict/oneverdict/check/FingerprintSet", name := "isCrowded", desc := "(II)Z" } : Jvm.MethodName) prog_6_method_11_code (2 : Nat) (Option.some Jvm.ClassFile.FieldType.boolean)).before args0 about1 = true := code_word (m := ⟨13, 2⟩) (meth := k13m2) (c := k13c2) (by decide +kernel) rfl rfl rfl (by decide +kernel)
set_option maxRecDepth 65536 in
theorem w_c15 : (Jvm.Cond.code ({ cls := "com/example/one_verdict/oneverdict/check/PlaceTable$Segment", name := "grow", desc := "()V" } : Jvm.MethodName) prog_21_method_5_code (5 : Nat) (Option.none : Option Jvm.ClassFile.FieldType)).before args0 about1 = true := code_word (m := ⟨5, 2⟩) (meth := k5m2) (c := k5c2) (by decide +kernel) rfl rfl rfl (by decide +kernel)
def codes1 : List Jvm.Cond := [Jvm.Cond.code x code maxLocals ret, Jvm.Cond.code ({ cls := "com/example/one_verdict/oneverdict/check/PlaceTable", name := "<init>", desc := "(J)V" } : Jvm.MethodName) prog_19_method_1_code (6 : Nat) (Option.none : Option Jvm.ClassFile.FieldType), Jvm.Cond.code ({ cls := "java/lang/Object", name := "<init>", desc := "()V" } : Jvm.MethodName) object_method_1_code (1 : Nat) (Option.none : Option Jvm.ClassFile.FieldType), Jvm.Cond.code ({ cls := "java/lang/Math", name := "max", desc := "(JJ)J" } : Jvm.MethodName) jdk_29_method_66_code (4 : Nat) (Option.some Jvm.ClassFile.FieldType.long), Jvm.Cond.code ({ cls := "java/lang/Math", name := "min", desc := "(JJ)J" } : Jvm.MethodName) jdk_29_method_70_code (4 : Nat) (Option.some Jvm.ClassFile.FieldType.long), Jvm.Cond.code ({ cls := "java/lang/Integer", name := "highestOneBit", desc := "(I)I" } : Jvm.MethodName) jdk_33_method_45_code (1 : Nat) (Option.some Jvm.ClassFile.FieldType.int), Jvm.Cond.code ({ cls := "java/lang/Integer", name := "numberOfLeadingZeros", desc := "(I)I" } : Jvm.MethodName) jdk_33_method_47_code (2 : Nat) (Option.some Jvm.ClassFile.FieldType.int), Jvm.Cond.code ({ cls := "com/example/one_verdict/oneverdict/check/PlaceTable$Segment", name := "<init>", desc := "(Lcom/example/one_verdict/oneverdict/check/PlaceTable;)V" } : Jvm.MethodName) prog_21_method_1_code (2 : Nat) (Option.none : Option Jvm.ClassFile.FieldType), Jvm.Cond.code ({ cls := "com/example/one_verdict/oneverdict/check/PlaceTable", name := "slots", desc := "()J" } : Jvm.MethodName) prog_19_method_9_code (7 : Nat) (Option.some Jvm.ClassFile.FieldType.long), Jvm.Cond.code ({ cls := "com/example/one_verdict/oneverdict/check/FingerprintSet", name := "key", desc := "(J)J" } : Jvm.MethodName) prog_6_method_9_code (2 : Nat) (Option.some Jvm.ClassFile.FieldType.long), Jvm.Cond.code ({ cls := "com/example/one_verdict/oneverdict/check/PlaceTable", name := "segment", desc := "(J)Lcom/example/one_verdict/oneverdict/check/PlaceTable$Segment;" } : Jvm.MethodName) prog_19_method_11_code (3 : Nat) (Option.some (Jvm.ClassFile.FieldType.object "com/example/one_verdict/oneverdict/check/PlaceTable$Segment")), Jvm.Cond.code ({ cls := "com/example/one_verdict/oneverdict/check/FingerprintSet", name := "segmentOf", desc := "(JI)I" } : Jvm.MethodName) prog_6_method_13_code (3 : Nat) (Option.some Jvm.ClassFile.FieldType.int), Jvm.Cond.code ({ cls := "com/example/one_verdict/oneverdict/check/FingerprintSet", name := "slot", desc := "([JJ)I" } : Jvm.MethodName) prog_6_method_10_code (5 : Nat) (Option.some Jvm.ClassFile.FieldType.int), Jvm.Cond.code ({ cls := "com/example/one_verdict/oneverdict/check/PlaceTable$Segment", name := "put", desc := "(IJJ)V" } : Jvm.MethodName) prog_21_method_2_code (6 : Nat) (Option.none : Option Jvm.ClassFile.FieldType), Jvm.Cond.code ({ cls := "com/example/one_verdict/oneverdict/check/FingerprintSet", name := "isCrowded", desc := "(II)Z" } : Jvm.MethodName) prog_6_method_11_code (2 : Nat) (Option.some Jvm.ClassFile.FieldType.boolean), Jvm.Cond.code ({ cls := "com/example/one_verdict/oneverdict/check/PlaceTable$Segment", name := "grow", desc := "()V" } : Jvm.MethodName) prog_21_method_5_code (5 : Nat) (Option.none : Option Jvm.ClassFile.FieldType)]
set_option maxRecDepth 65536 in
theorem codes_eq : words1.filter isCode = codes1 := rfl
theorem w_codes : ∀ c ∈ words1.filter isCode, c.before args0 about1 = true := by
  rw [codes_eq]
  intro c hc
  simp only [codes1, List.mem_cons, List.not_mem_nil, or_false] at hc
  rcases hc with rfl | rfl | rfl | rfl | rfl | rfl | rfl | rfl | rfl | rfl | rfl | rfl | rfl | rfl | rfl | rfl
  · exact w_c0
  · exact w_c1
  · exact w_c2
  · exact w_c3
  · exact w_c4
  · exact w_c5
  · exact w_c6
  · exact w_c7
  · exact w_c8
  · exact w_c9
  · exact w_c10
  · exact w_c11
  · exact w_c12
  · exact w_c13
  · exact w_c14
  · exact w_c15
set_option maxRecDepth 65536 in
theorem w_t1 : (words1.take 24).all (fun c => isCode c || c.before args0 about1) = true := by decide +kernel
set_option maxRecDepth 65536 in
theorem w_t2 : ((words1.drop 24).take 24).all (fun c => isCode c || c.before args0 about1) = true := by decide +kernel
set_option maxRecDepth 65536 in
theorem w_t3 : (((words1.drop 24).drop 24).take 24).all (fun c => isCode c || c.before args0 about1) = true := by decide +kernel
set_option maxRecDepth 65536 in
theorem w_t4 : ((((words1.drop 24).drop 24).drop 24).take 24).all (fun c => isCode c || c.before args0 about1) = true := by decide +kernel
set_option maxRecDepth 65536 in
theorem w_t5 : ((((words1.drop 24).drop 24).drop 24).drop 24).all (fun c => isCode c || c.before args0 about1) = true := by decide +kernel
theorem w_tables : (allAtoms (Jvm.Cond.code x code maxLocals ret :: tables_1)).before args0 about1 = true := by
  rw [allAtoms_all]
  show words1.all (fun c => c.before args0 about1) = true
  refine all_split ?_ w_codes
  rw [← List.take_append_drop 24 words1, List.all_append, w_t1, ← List.take_append_drop 24 (words1.drop 24), List.all_append, w_t2, ← List.take_append_drop 24 ((words1.drop 24).drop 24), List.all_append, w_t3, ← List.take_append_drop 24 (((words1.drop 24).drop 24).drop 24), List.all_append, w_t4, w_t5]
  rfl
set_option maxRecDepth 65536 in
theorem w_case : (Jvm.Cond.and given_1 narrow_1).before args0 about1 = true := by decide +kernel
theorem w_applies : (headSpec (Jvm.Cond.code x code maxLocals ret :: tables_1) room_1).applies x e0.platform about1 = true :=
  (Spec.applies_iff w_frames).mpr ⟨w_running, w_runnable, w_alone, w_named, w_hears, w_ripe, w_room, w_tables⟩
theorem atStart : AtStart classFile x code maxLocals ret World_1 tables_1 room_1 Calls_1 rest_1 Pre_1 launch0 p0 e0 about1 theMethod args0 below0 :=
  ⟨lists_1, trivial, launch0.admits_env _ _ _, launch0.least_env, fairChoices_fair.cas, fairChoices_fair.clock, w_frames, w_args, w_heap, w_applies, trivial, trivial, w_case⟩
end start1
theorem witness_1 : WitnessClaimed_1 := ⟨start1.p0, start1.e0, start1.about1, start1.theMethod, start1.args0, start1.below0, start1.atStart⟩
end Jvm.Pilot.@@N@@
