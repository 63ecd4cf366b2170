import JvmDerived
import JvmDerived.Pilot.@@N@@Statement
import JvmDerived.Pilot.@@N@@Code
set_option linter.unusedVariables false
set_option linter.unusedSimpArgs false
namespace Jvm.Pilot.@@N@@
open Jvm Jvm.ClassFile Sem Op Lib Jvm.Free Jvm.Stand Jvm.LawKit Jvm.RoadKit Bundle Jvm.Pilot.@@N@@.Jvm.D
abbrev o_K : Type := Program × Launch × Env × Room × State × MethodId × Array Value × List Frame × Method × Code × State × Nat
/-- from heap h, with k cells and n slots made so far, at pc with locals Ls and stack St, the invocation comes to its end, and Q holds of what it returns and of the heap -/
def o_Go (κ : o_K) (Q : Option Value → Heap → Prop) (h : Heap) (k n pc : Nat) (Ls : List Slot) (St : List Value) : Prop :=
  match κ with
  | (p, l, e, R, s, m, args, below, meth, c, Z, n0) =>
    ∀ (T : State) (locs : List Loc), Stand p l e R s m args below meth c T locs k n → Fr n0 locs → T.heap = h →
      ∃ (s₂ : State) (o : Outcome), Steps p.tables e below (T.setTop (mkF m pc Ls.toArray St)) s₂ ∧ s₂.status = .running ∧ Ended s₂ below o ∧
        ∃ v L, o = .returned v ∧ (Q v s₂.heap ∧ Fr n0 L) ∧ FrameEnd s o s₂ L R.cells R.slots
/-- the standing facts of one invocation of y -/
def o_Bo (κ : o_K) (l : Launch) (Z : State) (n0 : Nat) (R : Room) (y : MethodName) (bytes : ByteArray) (ml : Nat) (ret : Option FieldType) : Prop :=
  ∃ (p : Program) (e : Env) (s : State) (m : MethodId) (args : Array Value) (below : List Frame) (meth : Method) (c : Code), κ = (p, l, e, R, s, m, args, below, meth, c, Z, n0) ∧ p.tables.exec = Jvm.exec ∧ Z.Warmed39 s.vm ∧ c.code = bytes ∧ c.maxLocals = ml ∧ s.vm.findClass y.cls = some m.cls ∧ meth.sig.returnType = ret ∧ meth.locks = false ∧ meth.name = y.name
/-- the contract of y at the arguments 'as' and the heap h -/
def o_C (l : Launch) (Z : State) (n0 : Nat) (y : MethodName) (bytes : ByteArray) (ml : Nat) (ret : Option FieldType) (rm : Room) (as : List Value) (h : Heap) (Q : Option Value → Heap → Prop) : Prop :=
  ∀ ws : List Jvm.Cond, MetFree l y (head1 (Jvm.Cond.code y bytes ml ret :: ws) rm) (fun a U => a = as.toArray ∧ Z.Warmed39 U.vm ∧ U.heap = h) (fun _ _ _ _ _ => True) (fun _ U o U' => ∃ v L, o = .returned v ∧ (Q v U'.heap ∧ Fr n0 L) ∧ FrameEnd U o U' L rm.cells rm.slots)
theorem o_lt {a b : Nat} (h : a < b) : a < b := h
theorem o_le {a b : Nat} (h : a ≤ b) : a ≤ b := h
theorem o_ne {a b : Nat} (h : a ≠ b) : a ≠ b := h
theorem o_eq {a b : Nat} (h : a = b) : a = b := h
section Fw
variable {κ : o_K} {l : Launch} {Z : State} {n0 : Nat} {R : Room} {y : MethodName} {bytes : ByteArray} {ml : Nat} {ret : Option FieldType} {Q : Option Value → Heap → Prop} {h : Heap} {k n pc : Nat} {Ls : List Slot} {St : List Value} {a0 : Array Value}
theorem o_body {rm : Room} {as : List Value} (hpn : plainFor y = true) (hef : argsToLocals as.toArray ml = Ls.toArray) (H : ∀ κ, o_Bo κ l Z n0 rm y bytes ml ret → o_Go κ Q h 0 0 0 Ls []) : o_C l Z n0 y bytes ml ret rm as h Q := by
  intro ws
  refine MetFree.of_bodySF hpn hisR ?_
  intro p e s m args below meth c s₁ Bd hml0 hP hK
  obtain ⟨rfl, hZ, hh⟩ := hP
  have X0 : Stand p l e rm s m as.toArray below meth c s₁ [] 0 0 := Stand.of_body Bd
  have e0 : s₁.heap = h := by rw [← hh, Bd.state]; rfl
  have hown := findClass_of_methodNamed Bd.named
  have hnm := (name_of_methodNamed Bd.named Bd.method).1
  obtain ⟨s₂, o, st, r1, r2, v, L, rfl, ⟨q, N⟩, fe⟩ := H (p, l, e, rm, s, m, as.toArray, below, meth, c, Z, n0) ⟨p, e, s, m, _, below, meth, c, rfl, Bd.exec, hZ, Bd.bytes, hml0, hown, Bd.returns, Bd.notSynchronized, hnm⟩ s₁ [] X0 (Fr.nil _) e0
  refine ⟨s₂, _, ?_, r1, r2, v, L, rfl, ⟨q, N⟩, fe⟩
  exact castTop (g' := mkF m 0 Ls.toArray []) (by unfold entryFrame; rw [hef]) st
theorem o_C.imp {rm : Room} {as : List Value} {Q' : Option Value → Heap → Prop} (C : o_C l Z n0 y bytes ml ret rm as h Q) (H : ∀ v h', Q v h' → Q' v h') : o_C l Z n0 y bytes ml ret rm as h Q' := by
  intro ws p e ha hc hk s m args below hf happ hP hK
  obtain ⟨n, o, h1, h2, h3, v, L, e1, ⟨q, N⟩, fe⟩ := C ws p e ha hc hk s m args below hf happ hP hK
  exact ⟨n, o, h1, h2, h3, v, L, e1, ⟨H _ _ q, N⟩, fe⟩
theorem o_imp {Q' : Option Value → Heap → Prop} (H : ∀ v h', Q v h' → Q' v h') (G : o_Go κ Q h k n pc Ls St) : o_Go κ Q' h k n pc Ls St := by
  obtain ⟨p, l, e, R, s, m, args, below, meth, c, Z, n0⟩ := κ
  intro T locs X N eT
  obtain ⟨s₂, o, st, r1, r2, v, L, e1, ⟨q, N⟩, fe⟩ := G T locs X N eT
  exact ⟨s₂, o, st, r1, r2, v, L, e1, ⟨H _ _ q, N⟩, fe⟩
theorem o_mono {k' n' : Nat} (hk : k ≤ k') (hn : n ≤ n') (G : o_Go κ Q h k' n' pc Ls St) : o_Go κ Q h k n pc Ls St := by
  obtain ⟨p, l, e, R, s, m, args, below, meth, c, Z, n0⟩ := κ
  intro T locs X N eT
  exact G T locs (X.more hk hn) N eT
theorem o_sim (B : o_Bo κ l Z n0 R y bytes ml ret) {pc' : Nat} {Ls' : List Slot} {St' : List Value} (f : ∀ (p : Program) (e : Env) (m : MethodId) (below : List Frame) (c : Code) (T target : State), At T m c below → p.tables.exec = Jvm.exec → c.code = bytes → Steps p.tables e below (T.setTop (mkF m pc' Ls'.toArray St')) target → Steps p.tables e below (T.setTop (mkF m pc Ls.toArray St)) target) (K : o_Go κ Q h k n pc' Ls' St') : o_Go κ Q h k n pc Ls St := by
  obtain ⟨p, e, s, m, args, below, meth, c, rfl, hx, hZ, hby, hml, hown, hret, hlk, hnm⟩ := B
  intro T locs X N eT
  obtain ⟨s₂, o, st, r⟩ := K T locs X N eT
  exact ⟨s₂, o, f p e m below c T s₂ X.here hx hby st, r⟩
theorem o_get {i : Nat} {x : Slot} (hl : Ls[i]? = some x) : Ls.toArray[i]? = some x := by simpa using hl
def o_ok1 : Slot → Bool
  | .unset => true
  | .val w => w.category == 1
  | .second => false
theorem o_ok1_spec {o : Slot} (ho : o_ok1 o = true) : o = .unset ∨ ∃ w, o = .val w ∧ w.category = 1 := by
  cases o <;> simp [o_ok1] at ho ⊢; exact ho
theorem o_store1 {i : Nat} {o : Slot} {v : Value} (hold : Ls[i]? = some o) (ho : o_ok1 o = true) (hv : v.category = 1) : storeLocals Ls.toArray i v = some (Ls.set i (.val v)).toArray := by
  rw [XS.store1 (o_get hold) (o_ok1_spec ho) hv]; simp
def o_okl : Slot → Slot → Bool
  | .second, _ => false
  | _, .val w => w.category == 1
  | _, _ => true
theorem o_storel {i : Nat} {o o' : Slot} {v : Value} (hold : Ls[i]? = some o) (hold' : Ls[i + 1]? = some o') (ho : o_okl o o' = true) (hv : v.category = 2) : storeLocals Ls.toArray i v = some ((Ls.set i (.val v)).set (i + 1) .second).toArray := by
  obtain ⟨hi, hget⟩ := List.getElem?_eq_some_iff.mp hold
  obtain ⟨hi', hget'⟩ := List.getElem?_eq_some_iff.mp hold'
  have hne : i ≠ i + 1 := by omega
  have hne' : i + 1 ≠ i := by omega
  cases o with
  | second => simp [o_okl] at ho
  | unset =>
    cases o' with
    | val w =>
      have hw : w.category = 1 := by simpa [o_okl] using ho
      simp [storeLocals, storeSelf, setAt, hi, hi', hget, hget', hv, hw, List.getElem?_set, hne, hold, hold']
    | _ => simp [storeLocals, storeSelf, setAt, hi, hi', hget, hget', hv, List.getElem?_set, hne, hold, hold']
  | val u =>
    by_cases hu : u.category = 2
    · cases o' with
      | val w =>
        have hw : w.category = 1 := by simpa [o_okl] using ho
        simp [storeLocals, storeSelf, setAt, hi, hi', hget, hget', hv, hu, hw, List.getElem?_set, hne, hne', hold, hold', List.set_comm _ _ hne', List.set_set]
      | _ => simp [storeLocals, storeSelf, setAt, hi, hi', hget, hget', hv, hu, List.getElem?_set, hne, hne', hold, hold', List.set_comm _ _ hne', List.set_set]
    · cases o' with
      | val w =>
        have hw : w.category = 1 := by simpa [o_okl] using ho
        simp [storeLocals, storeSelf, setAt, hi, hi', hget, hget', hv, hu, hw, List.getElem?_set, hne, hold, hold']
      | _ => simp [storeLocals, storeSelf, setAt, hi, hi', hget, hget', hv, hu, List.getElem?_set, hne, hold, hold']
theorem o_iloadN (B : o_Bo κ l Z n0 R y bytes ml ret) {i : Fin 4} {x : Int32} (hd : decode bytes pc = .ok (.iload_n i, 1)) (hl : Ls[i.val]? = some (.val (.int x))) (K : o_Go κ Q h k n (pc + 1) Ls (.int x :: St)) : o_Go κ Q h k n pc Ls (St) := o_sim B (fun p e m below c T target X hx hby st => XS.iloadN X hx rfl (hb hby hd) (o_get hl) st) K
theorem o_iload (B : o_Bo κ l Z n0 R y bytes ml ret) {i : Nat} {x : Int32} (hd : decode bytes pc = .ok (.iload i, 2)) (hl : Ls[i]? = some (.val (.int x))) (K : o_Go κ Q h k n (pc + 2) Ls (.int x :: St)) : o_Go κ Q h k n pc Ls (St) := o_sim B (fun p e m below c T target X hx hby st => XS.iload X hx rfl (hb hby hd) (o_get hl) st) K
theorem o_lloadN (B : o_Bo κ l Z n0 R y bytes ml ret) {i : Fin 4} {x : Int64} (hd : decode bytes pc = .ok (.lload_n i, 1)) (hl : Ls[i.val]? = some (.val (.long x))) (K : o_Go κ Q h k n (pc + 1) Ls (.long x :: St)) : o_Go κ Q h k n pc Ls (St) := o_sim B (fun p e m below c T target X hx hby st => XT.lloadN X hx rfl (hb hby hd) (o_get hl) st) K
theorem o_lload (B : o_Bo κ l Z n0 R y bytes ml ret) {i : Nat} {x : Int64} (hd : decode bytes pc = .ok (.lload i, 2)) (hl : Ls[i]? = some (.val (.long x))) (K : o_Go κ Q h k n (pc + 2) Ls (.long x :: St)) : o_Go κ Q h k n pc Ls (St) := o_sim B (fun p e m below c T target X hx hby st => XT.lload X hx rfl (hb hby hd) (o_get hl) st) K
theorem o_aloadN (B : o_Bo κ l Z n0 R y bytes ml ret) {i : Fin 4} {v : Value} (hd : decode bytes pc = .ok (.aload_n i, 1)) (hl : Ls[i.val]? = some (.val v)) (hv : v.isRef = true) (K : o_Go κ Q h k n (pc + 1) Ls (v :: St)) : o_Go κ Q h k n pc Ls (St) := o_sim B (fun p e m below c T target X hx hby st => XS.aloadN X hx rfl (hb hby hd) (o_get hl) hv st) K
theorem o_aload (B : o_Bo κ l Z n0 R y bytes ml ret) {i : Nat} {v : Value} (hd : decode bytes pc = .ok (.aload i, 2)) (hl : Ls[i]? = some (.val v)) (hv : v.isRef = true) (K : o_Go κ Q h k n (pc + 2) Ls (v :: St)) : o_Go κ Q h k n pc Ls (St) := o_sim B (fun p e m below c T target X hx hby st => XS.aload X hx rfl (hb hby hd) (o_get hl) hv st) K
theorem o_istoreN (B : o_Bo κ l Z n0 R y bytes ml ret) {i : Fin 4} {x : Int32} {o : Slot} (hd : decode bytes pc = .ok (.istore_n i, 1)) (hold : Ls[i.val]? = some o) (ho : o_ok1 o = true) (K : o_Go κ Q h k n (pc + 1) (Ls.set i.val (.val (.int x))) (St)) : o_Go κ Q h k n pc Ls (.int x :: St) := o_sim B (fun p e m below c T target X hx hby st => XS.istoreN X hx rfl (hb hby hd) rfl (o_store1 hold ho rfl) st) K
theorem o_istore (B : o_Bo κ l Z n0 R y bytes ml ret) {i : Nat} {x : Int32} {o : Slot} (hd : decode bytes pc = .ok (.istore i, 2)) (hold : Ls[i]? = some o) (ho : o_ok1 o = true) (K : o_Go κ Q h k n (pc + 2) (Ls.set i (.val (.int x))) (St)) : o_Go κ Q h k n pc Ls (.int x :: St) := o_sim B (fun p e m below c T target X hx hby st => XS.istore X hx rfl (hb hby hd) rfl (o_store1 hold ho rfl) st) K
theorem o_astoreN (B : o_Bo κ l Z n0 R y bytes ml ret) {i : Fin 4} {v : Value} {o : Slot} (hd : decode bytes pc = .ok (.astore_n i, 1)) (hv : v.isRef = true) (hold : Ls[i.val]? = some o) (ho : o_ok1 o = true) (K : o_Go κ Q h k n (pc + 1) (Ls.set i.val (.val v)) (St)) : o_Go κ Q h k n pc Ls (v :: St) := o_sim B (fun p e m below c T target X hx hby st => XS.astoreN X hx rfl (hb hby hd) rfl hv (o_store1 hold ho (by cases v <;> simp [Value.isRef] at hv <;> rfl)) st) K
theorem o_astore (B : o_Bo κ l Z n0 R y bytes ml ret) {i : Nat} {v : Value} {o : Slot} (hd : decode bytes pc = .ok (.astore i, 2)) (hv : v.isRef = true) (hold : Ls[i]? = some o) (ho : o_ok1 o = true) (K : o_Go κ Q h k n (pc + 2) (Ls.set i (.val v)) (St)) : o_Go κ Q h k n pc Ls (v :: St) := o_sim B (fun p e m below c T target X hx hby st => XS.astore X hx rfl (hb hby hd) rfl hv (o_store1 hold ho (by cases v <;> simp [Value.isRef] at hv <;> rfl)) st) K
theorem o_lstoreN (B : o_Bo κ l Z n0 R y bytes ml ret) {i : Fin 4} {x : Int64} {o o2 : Slot} (hd : decode bytes pc = .ok (.lstore_n i, 1)) (hold : Ls[i.val]? = some o) (hold2 : Ls[i.val + 1]? = some o2) (ho : o_okl o o2 = true) (K : o_Go κ Q h k n (pc + 1) ((Ls.set i.val (.val (.long x))).set (i.val + 1) .second) (St)) : o_Go κ Q h k n pc Ls (.long x :: St) := o_sim B (fun p e m below c T target X hx hby st => XT.lstoreN X hx rfl (hb hby hd) rfl (o_storel hold hold2 ho rfl) st) K
theorem o_lstore (B : o_Bo κ l Z n0 R y bytes ml ret) {i : Nat} {x : Int64} {o o2 : Slot} (hd : decode bytes pc = .ok (.lstore i, 2)) (hold : Ls[i]? = some o) (hold2 : Ls[i + 1]? = some o2) (ho : o_okl o o2 = true) (K : o_Go κ Q h k n (pc + 2) ((Ls.set i (.val (.long x))).set (i + 1) .second) (St)) : o_Go κ Q h k n pc Ls (.long x :: St) := o_sim B (fun p e m below c T target X hx hby st => XT.lstore X hx rfl (hb hby hd) rfl (o_storel hold hold2 ho rfl) st) K
theorem o_iinc (B : o_Bo κ l Z n0 R y bytes ml ret) {i : Nat} {cst : Int} {x : Int32} (v : Int32) (hd : decode bytes pc = .ok (.iinc i cst, 3)) (hv : Int32.ofInt cst = v) (hl : Ls[i]? = some (.val (.int x))) (K : o_Go κ Q h k n (pc + 3) (Ls.set i (.val (.int (x + v)))) (St)) : o_Go κ Q h k n pc Ls (St) := o_sim B (fun p e m below c T target X hx hby st => XT.iincV X hx rfl v (hb hby hd) hv (o_get hl) (o_store1 hl rfl rfl) st) K
theorem o_iconst (B : o_Bo κ l Z n0 R y bytes ml ret) {i : Int} (v : Int32) (hd : decode bytes pc = .ok (.iconst i, 1)) (hv : Int32.ofInt i = v) (K : o_Go κ Q h k n (pc + 1) Ls (.int v :: St)) : o_Go κ Q h k n pc Ls (St) := o_sim B (fun p e m below c T target X hx hby st => XT.iconstV X hx rfl v (hb hby hd) hv st) K
theorem o_bipush (B : o_Bo κ l Z n0 R y bytes ml ret) {i : Int} (v : Int32) (hd : decode bytes pc = .ok (.bipush i, 2)) (hv : (Int8.ofInt i).toInt32 = v) (K : o_Go κ Q h k n (pc + 2) Ls (.int v :: St)) : o_Go κ Q h k n pc Ls (St) := o_sim B (fun p e m below c T target X hx hby st => XT.bipushV X hx rfl v (hb hby hd) hv st) K
theorem o_sipush (B : o_Bo κ l Z n0 R y bytes ml ret) {i : Int} (v : Int32) (hd : decode bytes pc = .ok (.sipush i, 3)) (hv : (Int16.ofInt i).toInt32 = v) (K : o_Go κ Q h k n (pc + 3) Ls (.int v :: St)) : o_Go κ Q h k n pc Ls (St) := o_sim B (fun p e m below c T target X hx hby st => XT.sipushV X hx rfl v (hb hby hd) hv st) K
theorem o_lconst (B : o_Bo κ l Z n0 R y bytes ml ret) {i : Fin 2} (v : Int64) (hd : decode bytes pc = .ok (.lconst i, 1)) (hv : Int64.ofNat i = v) (K : o_Go κ Q h k n (pc + 1) Ls (.long v :: St)) : o_Go κ Q h k n pc Ls (St) := o_sim B (fun p e m below c T target X hx hby st => XT.lconstV X hx rfl v (hb hby hd) hv st) K
theorem o_aconst_null (B : o_Bo κ l Z n0 R y bytes ml ret)  (hd : decode bytes pc = .ok (.aconst_null, 1)) (K : o_Go κ Q h k n (pc + 1) Ls (.null :: St)) : o_Go κ Q h k n pc Ls (St) := o_sim B (fun p e m below c T target X hx hby st => XS.aconstNull X hx rfl (hb hby hd) st) K
theorem o_iadd (B : o_Bo κ l Z n0 R y bytes ml ret) {x y : Int32} (hd : decode bytes pc = .ok (.iadd, 1)) (K : o_Go κ Q h k n (pc + 1) Ls (.int (x + y) :: St)) : o_Go κ Q h k n pc Ls (.int y :: .int x :: St) := o_sim B (fun p e m below c T target X hx hby st => XS.iadd X hx rfl (hb hby hd) rfl st) K
theorem o_isub (B : o_Bo κ l Z n0 R y bytes ml ret) {x y : Int32} (hd : decode bytes pc = .ok (.isub, 1)) (K : o_Go κ Q h k n (pc + 1) Ls (.int (x - y) :: St)) : o_Go κ Q h k n pc Ls (.int y :: .int x :: St) := o_sim B (fun p e m below c T target X hx hby st => XS.isub X hx rfl (hb hby hd) rfl st) K
theorem o_iand (B : o_Bo κ l Z n0 R y bytes ml ret) {x y : Int32} (hd : decode bytes pc = .ok (.iand, 1)) (K : o_Go κ Q h k n (pc + 1) Ls (.int (x &&& y) :: St)) : o_Go κ Q h k n pc Ls (.int y :: .int x :: St) := o_sim B (fun p e m below c T target X hx hby st => XS.iand X hx rfl (hb hby hd) rfl st) K
theorem o_imul (B : o_Bo κ l Z n0 R y bytes ml ret) {x y : Int32} (hd : decode bytes pc = .ok (.imul, 1)) (K : o_Go κ Q h k n (pc + 1) Ls (.int (x * y) :: St)) : o_Go κ Q h k n pc Ls (.int y :: .int x :: St) := o_sim B (fun p e m below c T target X hx hby st => XS.imul X hx rfl (hb hby hd) rfl st) K
theorem o_ior (B : o_Bo κ l Z n0 R y bytes ml ret) {x y : Int32} (hd : decode bytes pc = .ok (.ior, 1)) (K : o_Go κ Q h k n (pc + 1) Ls (.int (x ||| y) :: St)) : o_Go κ Q h k n pc Ls (.int y :: .int x :: St) := o_sim B (fun p e m below c T target X hx hby st => XT.ior X hx rfl (hb hby hd) rfl st) K
theorem o_ixor (B : o_Bo κ l Z n0 R y bytes ml ret) {x y : Int32} (hd : decode bytes pc = .ok (.ixor, 1)) (K : o_Go κ Q h k n (pc + 1) Ls (.int (x ^^^ y) :: St)) : o_Go κ Q h k n pc Ls (.int y :: .int x :: St) := o_sim B (fun p e m below c T target X hx hby st => XT.ixor X hx rfl (hb hby hd) rfl st) K
theorem o_ishl (B : o_Bo κ l Z n0 R y bytes ml ret) {x y : Int32} (hd : decode bytes pc = .ok (.ishl, 1)) (K : o_Go κ Q h k n (pc + 1) Ls (.int (x <<< (y &&& 31)) :: St)) : o_Go κ Q h k n pc Ls (.int y :: .int x :: St) := o_sim B (fun p e m below c T target X hx hby st => XT.ishl X hx rfl (hb hby hd) rfl st) K
theorem o_ishr (B : o_Bo κ l Z n0 R y bytes ml ret) {x y : Int32} (hd : decode bytes pc = .ok (.ishr, 1)) (K : o_Go κ Q h k n (pc + 1) Ls (.int (x >>> (y &&& 31)) :: St)) : o_Go κ Q h k n pc Ls (.int y :: .int x :: St) := o_sim B (fun p e m below c T target X hx hby st => XT.ishr X hx rfl (hb hby hd) rfl st) K
theorem o_iushr (B : o_Bo κ l Z n0 R y bytes ml ret) {x y : Int32} (hd : decode bytes pc = .ok (.iushr, 1)) (K : o_Go κ Q h k n (pc + 1) Ls (.int (XT.ushr x y) :: St)) : o_Go κ Q h k n pc Ls (.int y :: .int x :: St) := o_sim B (fun p e m below c T target X hx hby st => XT.iushr X hx rfl (hb hby hd) rfl st) K
theorem o_idiv (B : o_Bo κ l Z n0 R y bytes ml ret) {x y : Int32} (hd : decode bytes pc = .ok (.idiv, 1)) (hy : y ≠ 0) (K : o_Go κ Q h k n (pc + 1) Ls (.int (x / y) :: St)) : o_Go κ Q h k n pc Ls (.int y :: .int x :: St) := o_sim B (fun p e m below c T target X hx hby st => XS.idiv X hx rfl (hb hby hd) rfl hy st) K
theorem o_irem (B : o_Bo κ l Z n0 R y bytes ml ret) {x y : Int32} (hd : decode bytes pc = .ok (.irem, 1)) (hy : y ≠ 0) (K : o_Go κ Q h k n (pc + 1) Ls (.int (x % y) :: St)) : o_Go κ Q h k n pc Ls (.int y :: .int x :: St) := o_sim B (fun p e m below c T target X hx hby st => XS.irem X hx rfl (hb hby hd) rfl hy (by rw [irem_eq_mod]; exact st)) K
theorem o_ineg (B : o_Bo κ l Z n0 R y bytes ml ret) {x : Int32} (hd : decode bytes pc = .ok (.ineg, 1)) (K : o_Go κ Q h k n (pc + 1) Ls (.int (-x) :: St)) : o_Go κ Q h k n pc Ls (.int x :: St) := o_sim B (fun p e m below c T target X hx hby st => XS.ineg X hx rfl (hb hby hd) rfl st) K
theorem o_ladd (B : o_Bo κ l Z n0 R y bytes ml ret) {x y : Int64} (hd : decode bytes pc = .ok (.ladd, 1)) (K : o_Go κ Q h k n (pc + 1) Ls (.long (x + y) :: St)) : o_Go κ Q h k n pc Ls (.long y :: .long x :: St) := o_sim B (fun p e m below c T target X hx hby st => XT.ladd X hx rfl (hb hby hd) rfl st) K
theorem o_lsub (B : o_Bo κ l Z n0 R y bytes ml ret) {x y : Int64} (hd : decode bytes pc = .ok (.lsub, 1)) (K : o_Go κ Q h k n (pc + 1) Ls (.long (x - y) :: St)) : o_Go κ Q h k n pc Ls (.long y :: .long x :: St) := o_sim B (fun p e m below c T target X hx hby st => XT.lsub X hx rfl (hb hby hd) rfl st) K
theorem o_lmul (B : o_Bo κ l Z n0 R y bytes ml ret) {x y : Int64} (hd : decode bytes pc = .ok (.lmul, 1)) (K : o_Go κ Q h k n (pc + 1) Ls (.long (x * y) :: St)) : o_Go κ Q h k n pc Ls (.long y :: .long x :: St) := o_sim B (fun p e m below c T target X hx hby st => XT.lmul X hx rfl (hb hby hd) rfl st) K
theorem o_land (B : o_Bo κ l Z n0 R y bytes ml ret) {x y : Int64} (hd : decode bytes pc = .ok (.land, 1)) (K : o_Go κ Q h k n (pc + 1) Ls (.long (x &&& y) :: St)) : o_Go κ Q h k n pc Ls (.long y :: .long x :: St) := o_sim B (fun p e m below c T target X hx hby st => XT.land X hx rfl (hb hby hd) rfl st) K
theorem o_lor (B : o_Bo κ l Z n0 R y bytes ml ret) {x y : Int64} (hd : decode bytes pc = .ok (.lor, 1)) (K : o_Go κ Q h k n (pc + 1) Ls (.long (x ||| y) :: St)) : o_Go κ Q h k n pc Ls (.long y :: .long x :: St) := o_sim B (fun p e m below c T target X hx hby st => XT.lor X hx rfl (hb hby hd) rfl st) K
theorem o_lxor (B : o_Bo κ l Z n0 R y bytes ml ret) {x y : Int64} (hd : decode bytes pc = .ok (.lxor, 1)) (K : o_Go κ Q h k n (pc + 1) Ls (.long (x ^^^ y) :: St)) : o_Go κ Q h k n pc Ls (.long y :: .long x :: St) := o_sim B (fun p e m below c T target X hx hby st => XT.lxor X hx rfl (hb hby hd) rfl st) K
theorem o_lshl (B : o_Bo κ l Z n0 R y bytes ml ret) {x : Int64} {y : Int32} (hd : decode bytes pc = .ok (.lshl, 1)) (K : o_Go κ Q h k n (pc + 1) Ls (.long (x <<< (y.toInt64 &&& 63)) :: St)) : o_Go κ Q h k n pc Ls (.int y :: .long x :: St) := o_sim B (fun p e m below c T target X hx hby st => XT.lshl X hx rfl (hb hby hd) rfl st) K
theorem o_lshr (B : o_Bo κ l Z n0 R y bytes ml ret) {x : Int64} {y : Int32} (hd : decode bytes pc = .ok (.lshr, 1)) (K : o_Go κ Q h k n (pc + 1) Ls (.long (x >>> (y.toInt64 &&& 63)) :: St)) : o_Go κ Q h k n pc Ls (.int y :: .long x :: St) := o_sim B (fun p e m below c T target X hx hby st => XT.lshr X hx rfl (hb hby hd) rfl st) K
theorem o_lushr (B : o_Bo κ l Z n0 R y bytes ml ret) {x : Int64} {y : Int32} (hd : decode bytes pc = .ok (.lushr, 1)) (K : o_Go κ Q h k n (pc + 1) Ls (.long (XT.ushrL x y) :: St)) : o_Go κ Q h k n pc Ls (.int y :: .long x :: St) := o_sim B (fun p e m below c T target X hx hby st => XT.lushr X hx rfl (hb hby hd) rfl st) K
theorem o_ldiv (B : o_Bo κ l Z n0 R y bytes ml ret) {x y : Int64} (hd : decode bytes pc = .ok (.ldiv, 1)) (hy : y ≠ 0) (K : o_Go κ Q h k n (pc + 1) Ls (.long (x / y) :: St)) : o_Go κ Q h k n pc Ls (.long y :: .long x :: St) := o_sim B (fun p e m below c T target X hx hby st => XT.ldiv X hx rfl (hb hby hd) rfl hy st) K
theorem o_lrem (B : o_Bo κ l Z n0 R y bytes ml ret) {x y : Int64} (hd : decode bytes pc = .ok (.lrem, 1)) (hy : y ≠ 0) (K : o_Go κ Q h k n (pc + 1) Ls (.long (x - (x / y) * y) :: St)) : o_Go κ Q h k n pc Ls (.long y :: .long x :: St) := o_sim B (fun p e m below c T target X hx hby st => XT.lrem X hx rfl (hb hby hd) rfl hy st) K
theorem o_lneg (B : o_Bo κ l Z n0 R y bytes ml ret) {x : Int64} (hd : decode bytes pc = .ok (.lneg, 1)) (K : o_Go κ Q h k n (pc + 1) Ls (.long (-x) :: St)) : o_Go κ Q h k n pc Ls (.long x :: St) := o_sim B (fun p e m below c T target X hx hby st => XT.lneg X hx rfl (hb hby hd) rfl st) K
theorem o_i2l (B : o_Bo κ l Z n0 R y bytes ml ret) {x : Int32} (hd : decode bytes pc = .ok (.i2l, 1)) (K : o_Go κ Q h k n (pc + 1) Ls (.long x.toInt64 :: St)) : o_Go κ Q h k n pc Ls (.int x :: St) := o_sim B (fun p e m below c T target X hx hby st => XT.i2l X hx rfl (hb hby hd) rfl st) K
theorem o_l2i (B : o_Bo κ l Z n0 R y bytes ml ret) {x : Int64} (hd : decode bytes pc = .ok (.l2i, 1)) (K : o_Go κ Q h k n (pc + 1) Ls (.int x.toInt32 :: St)) : o_Go κ Q h k n pc Ls (.long x :: St) := o_sim B (fun p e m below c T target X hx hby st => XT.l2i X hx rfl (hb hby hd) rfl st) K
theorem o_lcmp (B : o_Bo κ l Z n0 R y bytes ml ret) {x y : Int64} (hd : decode bytes pc = .ok (.lcmp, 1)) (K : o_Go κ Q h k n (pc + 1) Ls (.int (XT.cmpL x y) :: St)) : o_Go κ Q h k n pc Ls (.long y :: .long x :: St) := o_sim B (fun p e m below c T target X hx hby st => XT.lcmp X hx rfl (hb hby hd) rfl st) K
theorem o_dup (B : o_Bo κ l Z n0 R y bytes ml ret) {v : Value} (hd : decode bytes pc = .ok (.dup, 1)) (hv : v.category = 1) (K : o_Go κ Q h k n (pc + 1) Ls (v :: v :: St)) : o_Go κ Q h k n pc Ls (v :: St) := o_sim B (fun p e m below c T target X hx hby st => XS.dup X hx rfl (hb hby hd) rfl hv st) K
theorem o_pop (B : o_Bo κ l Z n0 R y bytes ml ret) {v : Value} (hd : decode bytes pc = .ok (.pop, 1)) (hv : v.category = 1) (K : o_Go κ Q h k n (pc + 1) Ls (St)) : o_Go κ Q h k n pc Ls (v :: St) := o_sim B (fun p e m below c T target X hx hby st => XT.pop X hx rfl (hb hby hd) rfl hv st) K
theorem o_dup_x1 (B : o_Bo κ l Z n0 R y bytes ml ret) {v w : Value} (hd : decode bytes pc = .ok (.dup_x1, 1)) (hv : v.category = 1) (hw : w.category = 1) (K : o_Go κ Q h k n (pc + 1) Ls (v :: w :: v :: St)) : o_Go κ Q h k n pc Ls (v :: w :: St) := o_sim B (fun p e m below c T target X hx hby st => XT.dupX1 X hx rfl (hb hby hd) rfl hv hw st) K
theorem o_dup2 (B : o_Bo κ l Z n0 R y bytes ml ret) {v w : Value} (hd : decode bytes pc = .ok (.dup2, 1)) (hv : v.category = 1) (hw : w.category = 1) (K : o_Go κ Q h k n (pc + 1) Ls (v :: w :: v :: w :: St)) : o_Go κ Q h k n pc Ls (v :: w :: St) := o_sim B (fun p e m below c T target X hx hby st => XT.dup2 X hx rfl (hb hby hd) rfl hv hw st) K
theorem o_dup2L (B : o_Bo κ l Z n0 R y bytes ml ret) {x : Int64} (hd : decode bytes pc = .ok (.dup2, 1)) (K : o_Go κ Q h k n (pc + 1) Ls (.long x :: .long x :: St)) : o_Go κ Q h k n pc Ls (.long x :: St) := o_sim B (fun p e m below c T target X hx hby st => XT.dup2L X hx rfl (hb hby hd) rfl st) K
theorem o_goto (B : o_Bo κ l Z n0 R y bytes ml ret) {o : Int} {pc' : Nat} (hd : decode bytes pc = .ok (.goto o, 3)) (ho : 0 ≤ (pc : Int) + o) (hp : ((pc : Int) + o).toNat = pc') (K : o_Go κ Q h k n pc' Ls St) : o_Go κ Q h k n pc Ls St := o_sim B (fun p e m below c T target X hx hby st => XS.goto X hx rfl (pc0 := pc) rfl (hb hby hd) ho hp st) K
theorem o_if_eq (B : o_Bo κ l Z n0 R y bytes ml ret) {o : Int} {pc' : Nat} {x : Int32} (hd : decode bytes pc = .ok (.ifCond .eq o, 3)) (ho : 0 ≤ (pc : Int) + o) (hp : ((pc : Int) + o).toNat = pc') (K1 : x = 0 → o_Go κ Q h k n pc' Ls St) (K2 : ¬ x = 0 → o_Go κ Q h k n (pc + 3) Ls St) : o_Go κ Q h k n pc Ls (.int x :: St) := by
  by_cases hc : x = 0
  · exact o_sim B (fun p e m below c T target X hx hby st => XS.ifYes X hx rfl (pc0 := pc) rfl (hb hby hd) rfl (XT.i0_eq_t hc) ho hp st) (K1 hc)
  · exact o_sim B (fun p e m below c T target X hx hby st => XS.ifNo X hx rfl (hb hby hd) rfl (XT.i0_eq_f hc) st) (K2 hc)
theorem o_icmp_eq (B : o_Bo κ l Z n0 R y bytes ml ret) {o : Int} {pc' : Nat} {x w : Int32} (hd : decode bytes pc = .ok (.if_icmp .eq o, 3)) (ho : 0 ≤ (pc : Int) + o) (hp : ((pc : Int) + o).toNat = pc') (K1 : x = w → o_Go κ Q h k n pc' Ls St) (K2 : ¬ x = w → o_Go κ Q h k n (pc + 3) Ls St) : o_Go κ Q h k n pc Ls (.int w :: .int x :: St) := by
  by_cases hc : x = w
  · exact o_sim B (fun p e m below c T target X hx hby st => XS.icmpYes X hx rfl (pc0 := pc) rfl (hb hby hd) rfl (XT.ii_eq_t hc) ho hp st) (K1 hc)
  · exact o_sim B (fun p e m below c T target X hx hby st => XS.icmpNo X hx rfl (hb hby hd) rfl (XT.ii_eq_f hc) st) (K2 hc)
theorem o_lif_eq (B : o_Bo κ l Z n0 R y bytes ml ret) {o : Int} {pc' : Nat} {x w : Int64} (hd : decode bytes pc = .ok (.ifCond .eq o, 3)) (ho : 0 ≤ (pc : Int) + o) (hp : ((pc : Int) + o).toNat = pc') (K1 : x = w → o_Go κ Q h k n pc' Ls St) (K2 : ¬ x = w → o_Go κ Q h k n (pc + 3) Ls St) : o_Go κ Q h k n pc Ls (.int (XT.cmpL x w) :: St) := by
  by_cases hc : x = w
  · exact o_sim B (fun p e m below c T target X hx hby st => XS.ifYes X hx rfl (pc0 := pc) rfl (hb hby hd) rfl (XT.ll_eq_t hc) ho hp st) (K1 hc)
  · exact o_sim B (fun p e m below c T target X hx hby st => XS.ifNo X hx rfl (hb hby hd) rfl (XT.ll_eq_f hc) st) (K2 hc)
theorem o_if_ne (B : o_Bo κ l Z n0 R y bytes ml ret) {o : Int} {pc' : Nat} {x : Int32} (hd : decode bytes pc = .ok (.ifCond .ne o, 3)) (ho : 0 ≤ (pc : Int) + o) (hp : ((pc : Int) + o).toNat = pc') (K1 : ¬ x = 0 → o_Go κ Q h k n pc' Ls St) (K2 : x = 0 → o_Go κ Q h k n (pc + 3) Ls St) : o_Go κ Q h k n pc Ls (.int x :: St) := by
  by_cases hc : x = 0
  · exact o_sim B (fun p e m below c T target X hx hby st => XS.ifNo X hx rfl (hb hby hd) rfl (XT.i0_ne_f hc) st) (K2 hc)
  · exact o_sim B (fun p e m below c T target X hx hby st => XS.ifYes X hx rfl (pc0 := pc) rfl (hb hby hd) rfl (XT.i0_ne_t hc) ho hp st) (K1 hc)
theorem o_icmp_ne (B : o_Bo κ l Z n0 R y bytes ml ret) {o : Int} {pc' : Nat} {x w : Int32} (hd : decode bytes pc = .ok (.if_icmp .ne o, 3)) (ho : 0 ≤ (pc : Int) + o) (hp : ((pc : Int) + o).toNat = pc') (K1 : ¬ x = w → o_Go κ Q h k n pc' Ls St) (K2 : x = w → o_Go κ Q h k n (pc + 3) Ls St) : o_Go κ Q h k n pc Ls (.int w :: .int x :: St) := by
  by_cases hc : x = w
  · exact o_sim B (fun p e m below c T target X hx hby st => XS.icmpNo X hx rfl (hb hby hd) rfl (XT.ii_ne_f hc) st) (K2 hc)
  · exact o_sim B (fun p e m below c T target X hx hby st => XS.icmpYes X hx rfl (pc0 := pc) rfl (hb hby hd) rfl (XT.ii_ne_t hc) ho hp st) (K1 hc)
theorem o_lif_ne (B : o_Bo κ l Z n0 R y bytes ml ret) {o : Int} {pc' : Nat} {x w : Int64} (hd : decode bytes pc = .ok (.ifCond .ne o, 3)) (ho : 0 ≤ (pc : Int) + o) (hp : ((pc : Int) + o).toNat = pc') (K1 : ¬ x = w → o_Go κ Q h k n pc' Ls St) (K2 : x = w → o_Go κ Q h k n (pc + 3) Ls St) : o_Go κ Q h k n pc Ls (.int (XT.cmpL x w) :: St) := by
  by_cases hc : x = w
  · exact o_sim B (fun p e m below c T target X hx hby st => XS.ifNo X hx rfl (hb hby hd) rfl (XT.ll_ne_f hc) st) (K2 hc)
  · exact o_sim B (fun p e m below c T target X hx hby st => XS.ifYes X hx rfl (pc0 := pc) rfl (hb hby hd) rfl (XT.ll_ne_t hc) ho hp st) (K1 hc)
theorem o_if_lt (B : o_Bo κ l Z n0 R y bytes ml ret) {o : Int} {pc' : Nat} {x : Int32} (hd : decode bytes pc = .ok (.ifCond .lt o, 3)) (ho : 0 ≤ (pc : Int) + o) (hp : ((pc : Int) + o).toNat = pc') (K1 : x < 0 → o_Go κ Q h k n pc' Ls St) (K2 : ¬ x < 0 → o_Go κ Q h k n (pc + 3) Ls St) : o_Go κ Q h k n pc Ls (.int x :: St) := by
  by_cases hc : x < 0
  · exact o_sim B (fun p e m below c T target X hx hby st => XS.ifYes X hx rfl (pc0 := pc) rfl (hb hby hd) rfl (XT.i0_lt_t hc) ho hp st) (K1 hc)
  · exact o_sim B (fun p e m below c T target X hx hby st => XS.ifNo X hx rfl (hb hby hd) rfl (XT.i0_lt_f hc) st) (K2 hc)
theorem o_icmp_lt (B : o_Bo κ l Z n0 R y bytes ml ret) {o : Int} {pc' : Nat} {x w : Int32} (hd : decode bytes pc = .ok (.if_icmp .lt o, 3)) (ho : 0 ≤ (pc : Int) + o) (hp : ((pc : Int) + o).toNat = pc') (K1 : x < w → o_Go κ Q h k n pc' Ls St) (K2 : ¬ x < w → o_Go κ Q h k n (pc + 3) Ls St) : o_Go κ Q h k n pc Ls (.int w :: .int x :: St) := by
  by_cases hc : x < w
  · exact o_sim B (fun p e m below c T target X hx hby st => XS.icmpYes X hx rfl (pc0 := pc) rfl (hb hby hd) rfl (XT.ii_lt_t hc) ho hp st) (K1 hc)
  · exact o_sim B (fun p e m below c T target X hx hby st => XS.icmpNo X hx rfl (hb hby hd) rfl (XT.ii_lt_f hc) st) (K2 hc)
theorem o_lif_lt (B : o_Bo κ l Z n0 R y bytes ml ret) {o : Int} {pc' : Nat} {x w : Int64} (hd : decode bytes pc = .ok (.ifCond .lt o, 3)) (ho : 0 ≤ (pc : Int) + o) (hp : ((pc : Int) + o).toNat = pc') (K1 : x < w → o_Go κ Q h k n pc' Ls St) (K2 : ¬ x < w → o_Go κ Q h k n (pc + 3) Ls St) : o_Go κ Q h k n pc Ls (.int (XT.cmpL x w) :: St) := by
  by_cases hc : x < w
  · exact o_sim B (fun p e m below c T target X hx hby st => XS.ifYes X hx rfl (pc0 := pc) rfl (hb hby hd) rfl (XT.ll_lt_t hc) ho hp st) (K1 hc)
  · exact o_sim B (fun p e m below c T target X hx hby st => XS.ifNo X hx rfl (hb hby hd) rfl (XT.ll_lt_f hc) st) (K2 hc)
theorem o_if_ge (B : o_Bo κ l Z n0 R y bytes ml ret) {o : Int} {pc' : Nat} {x : Int32} (hd : decode bytes pc = .ok (.ifCond .ge o, 3)) (ho : 0 ≤ (pc : Int) + o) (hp : ((pc : Int) + o).toNat = pc') (K1 : ¬ x < 0 → o_Go κ Q h k n pc' Ls St) (K2 : x < 0 → o_Go κ Q h k n (pc + 3) Ls St) : o_Go κ Q h k n pc Ls (.int x :: St) := by
  by_cases hc : x < 0
  · exact o_sim B (fun p e m below c T target X hx hby st => XS.ifNo X hx rfl (hb hby hd) rfl (XT.i0_ge_f hc) st) (K2 hc)
  · exact o_sim B (fun p e m below c T target X hx hby st => XS.ifYes X hx rfl (pc0 := pc) rfl (hb hby hd) rfl (XT.i0_ge_t hc) ho hp st) (K1 hc)
theorem o_icmp_ge (B : o_Bo κ l Z n0 R y bytes ml ret) {o : Int} {pc' : Nat} {x w : Int32} (hd : decode bytes pc = .ok (.if_icmp .ge o, 3)) (ho : 0 ≤ (pc : Int) + o) (hp : ((pc : Int) + o).toNat = pc') (K1 : ¬ x < w → o_Go κ Q h k n pc' Ls St) (K2 : x < w → o_Go κ Q h k n (pc + 3) Ls St) : o_Go κ Q h k n pc Ls (.int w :: .int x :: St) := by
  by_cases hc : x < w
  · exact o_sim B (fun p e m below c T target X hx hby st => XS.icmpNo X hx rfl (hb hby hd) rfl (XT.ii_ge_f hc) st) (K2 hc)
  · exact o_sim B (fun p e m below c T target X hx hby st => XS.icmpYes X hx rfl (pc0 := pc) rfl (hb hby hd) rfl (XT.ii_ge_t hc) ho hp st) (K1 hc)
theorem o_lif_ge (B : o_Bo κ l Z n0 R y bytes ml ret) {o : Int} {pc' : Nat} {x w : Int64} (hd : decode bytes pc = .ok (.ifCond .ge o, 3)) (ho : 0 ≤ (pc : Int) + o) (hp : ((pc : Int) + o).toNat = pc') (K1 : ¬ x < w → o_Go κ Q h k n pc' Ls St) (K2 : x < w → o_Go κ Q h k n (pc + 3) Ls St) : o_Go κ Q h k n pc Ls (.int (XT.cmpL x w) :: St) := by
  by_cases hc : x < w
  · exact o_sim B (fun p e m below c T target X hx hby st => XS.ifNo X hx rfl (hb hby hd) rfl (XT.ll_ge_f hc) st) (K2 hc)
  · exact o_sim B (fun p e m below c T target X hx hby st => XS.ifYes X hx rfl (pc0 := pc) rfl (hb hby hd) rfl (XT.ll_ge_t hc) ho hp st) (K1 hc)
theorem o_if_gt (B : o_Bo κ l Z n0 R y bytes ml ret) {o : Int} {pc' : Nat} {x : Int32} (hd : decode bytes pc = .ok (.ifCond .gt o, 3)) (ho : 0 ≤ (pc : Int) + o) (hp : ((pc : Int) + o).toNat = pc') (K1 : 0 < x → o_Go κ Q h k n pc' Ls St) (K2 : ¬ 0 < x → o_Go κ Q h k n (pc + 3) Ls St) : o_Go κ Q h k n pc Ls (.int x :: St) := by
  by_cases hc : 0 < x
  · exact o_sim B (fun p e m below c T target X hx hby st => XS.ifYes X hx rfl (pc0 := pc) rfl (hb hby hd) rfl (XT.i0_gt_t hc) ho hp st) (K1 hc)
  · exact o_sim B (fun p e m below c T target X hx hby st => XS.ifNo X hx rfl (hb hby hd) rfl (XT.i0_gt_f hc) st) (K2 hc)
theorem o_icmp_gt (B : o_Bo κ l Z n0 R y bytes ml ret) {o : Int} {pc' : Nat} {x w : Int32} (hd : decode bytes pc = .ok (.if_icmp .gt o, 3)) (ho : 0 ≤ (pc : Int) + o) (hp : ((pc : Int) + o).toNat = pc') (K1 : w < x → o_Go κ Q h k n pc' Ls St) (K2 : ¬ w < x → o_Go κ Q h k n (pc + 3) Ls St) : o_Go κ Q h k n pc Ls (.int w :: .int x :: St) := by
  by_cases hc : w < x
  · exact o_sim B (fun p e m below c T target X hx hby st => XS.icmpYes X hx rfl (pc0 := pc) rfl (hb hby hd) rfl (XT.ii_gt_t hc) ho hp st) (K1 hc)
  · exact o_sim B (fun p e m below c T target X hx hby st => XS.icmpNo X hx rfl (hb hby hd) rfl (XT.ii_gt_f hc) st) (K2 hc)
theorem o_lif_gt (B : o_Bo κ l Z n0 R y bytes ml ret) {o : Int} {pc' : Nat} {x w : Int64} (hd : decode bytes pc = .ok (.ifCond .gt o, 3)) (ho : 0 ≤ (pc : Int) + o) (hp : ((pc : Int) + o).toNat = pc') (K1 : w < x → o_Go κ Q h k n pc' Ls St) (K2 : ¬ w < x → o_Go κ Q h k n (pc + 3) Ls St) : o_Go κ Q h k n pc Ls (.int (XT.cmpL x w) :: St) := by
  by_cases hc : w < x
  · exact o_sim B (fun p e m below c T target X hx hby st => XS.ifYes X hx rfl (pc0 := pc) rfl (hb hby hd) rfl (XT.ll_gt_t hc) ho hp st) (K1 hc)
  · exact o_sim B (fun p e m below c T target X hx hby st => XS.ifNo X hx rfl (hb hby hd) rfl (XT.ll_gt_f hc) st) (K2 hc)
theorem o_if_le (B : o_Bo κ l Z n0 R y bytes ml ret) {o : Int} {pc' : Nat} {x : Int32} (hd : decode bytes pc = .ok (.ifCond .le o, 3)) (ho : 0 ≤ (pc : Int) + o) (hp : ((pc : Int) + o).toNat = pc') (K1 : ¬ 0 < x → o_Go κ Q h k n pc' Ls St) (K2 : 0 < x → o_Go κ Q h k n (pc + 3) Ls St) : o_Go κ Q h k n pc Ls (.int x :: St) := by
  by_cases hc : 0 < x
  · exact o_sim B (fun p e m below c T target X hx hby st => XS.ifNo X hx rfl (hb hby hd) rfl (XT.i0_le_f hc) st) (K2 hc)
  · exact o_sim B (fun p e m below c T target X hx hby st => XS.ifYes X hx rfl (pc0 := pc) rfl (hb hby hd) rfl (XT.i0_le_t hc) ho hp st) (K1 hc)
theorem o_icmp_le (B : o_Bo κ l Z n0 R y bytes ml ret) {o : Int} {pc' : Nat} {x w : Int32} (hd : decode bytes pc = .ok (.if_icmp .le o, 3)) (ho : 0 ≤ (pc : Int) + o) (hp : ((pc : Int) + o).toNat = pc') (K1 : ¬ w < x → o_Go κ Q h k n pc' Ls St) (K2 : w < x → o_Go κ Q h k n (pc + 3) Ls St) : o_Go κ Q h k n pc Ls (.int w :: .int x :: St) := by
  by_cases hc : w < x
  · exact o_sim B (fun p e m below c T target X hx hby st => XS.icmpNo X hx rfl (hb hby hd) rfl (XT.ii_le_f hc) st) (K2 hc)
  · exact o_sim B (fun p e m below c T target X hx hby st => XS.icmpYes X hx rfl (pc0 := pc) rfl (hb hby hd) rfl (XT.ii_le_t hc) ho hp st) (K1 hc)
theorem o_lif_le (B : o_Bo κ l Z n0 R y bytes ml ret) {o : Int} {pc' : Nat} {x w : Int64} (hd : decode bytes pc = .ok (.ifCond .le o, 3)) (ho : 0 ≤ (pc : Int) + o) (hp : ((pc : Int) + o).toNat = pc') (K1 : ¬ w < x → o_Go κ Q h k n pc' Ls St) (K2 : w < x → o_Go κ Q h k n (pc + 3) Ls St) : o_Go κ Q h k n pc Ls (.int (XT.cmpL x w) :: St) := by
  by_cases hc : w < x
  · exact o_sim B (fun p e m below c T target X hx hby st => XS.ifNo X hx rfl (hb hby hd) rfl (XT.ll_le_f hc) st) (K2 hc)
  · exact o_sim B (fun p e m below c T target X hx hby st => XS.ifYes X hx rfl (pc0 := pc) rfl (hb hby hd) rfl (XT.ll_le_t hc) ho hp st) (K1 hc)
theorem o_ifnull_N (B : o_Bo κ l Z n0 R y bytes ml ret) {o : Int} {pc' : Nat} (hd : decode bytes pc = .ok (.ifnull o, 3)) (ho : 0 ≤ (pc : Int) + o) (hp : ((pc : Int) + o).toNat = pc') (K : o_Go κ Q h k n pc' Ls St) : o_Go κ Q h k n pc Ls (.null :: St) := o_sim B (fun p e m below c T target X hx hby st => XS.ifnullYes X hx rfl (pc0 := pc) rfl (hb hby hd) rfl ho hp st) K
theorem o_ifnull_R (B : o_Bo κ l Z n0 R y bytes ml ret) {o : Int} {b : Addr} (hd : decode bytes pc = .ok (.ifnull o, 3)) (K : o_Go κ Q h k n (pc + 3) Ls St) : o_Go κ Q h k n pc Ls (.ref b :: St) := o_sim B (fun p e m below c T target X hx hby st => XS.ifnullNo X hx rfl (hb hby hd) rfl st) K
theorem o_ifnonnull_R (B : o_Bo κ l Z n0 R y bytes ml ret) {o : Int} {pc' : Nat} {b : Addr} (hd : decode bytes pc = .ok (.ifnonnull o, 3)) (ho : 0 ≤ (pc : Int) + o) (hp : ((pc : Int) + o).toNat = pc') (K : o_Go κ Q h k n pc' Ls St) : o_Go κ Q h k n pc Ls (.ref b :: St) := o_sim B (fun p e m below c T target X hx hby st => XT.ifnonnullYes X hx rfl (pc0 := pc) rfl (hb hby hd) rfl ho hp st) K
theorem o_ifnonnull_N (B : o_Bo κ l Z n0 R y bytes ml ret) {o : Int} (hd : decode bytes pc = .ok (.ifnonnull o, 3)) (K : o_Go κ Q h k n (pc + 3) Ls St) : o_Go κ Q h k n pc Ls (.null :: St) := o_sim B (fun p e m below c T target X hx hby st => XT.ifnonnullNo X hx rfl (hb hby hd) rfl st) K
theorem o_acmp_eq (B : o_Bo κ l Z n0 R y bytes ml ret) {o : Int} {pc' : Nat} {v w : Value} (hv : v.isRef = true) (hw : w.isRef = true) (hd : decode bytes pc = .ok (.if_acmp .eq o, 3)) (ho : 0 ≤ (pc : Int) + o) (hp : ((pc : Int) + o).toNat = pc') (K1 : v = w → o_Go κ Q h k n pc' Ls St) (K2 : ¬ v = w → o_Go κ Q h k n (pc + 3) Ls St) : o_Go κ Q h k n pc Ls (w :: v :: St) := by
  by_cases hc : v = w
  · exact o_sim B (fun p e m below c T target X hx hby st => XT.acmpYes X hx rfl (pc0 := pc) rfl (hb hby hd) rfl hv hw (by simp [XT.acmp, hc]) ho hp st) (K1 hc)
  · exact o_sim B (fun p e m below c T target X hx hby st => XT.acmpNo X hx rfl (hb hby hd) rfl hv hw (by simp [XT.acmp, hc]) st) (K2 hc)
theorem o_acmp_ne (B : o_Bo κ l Z n0 R y bytes ml ret) {o : Int} {pc' : Nat} {v w : Value} (hv : v.isRef = true) (hw : w.isRef = true) (hd : decode bytes pc = .ok (.if_acmp .ne o, 3)) (ho : 0 ≤ (pc : Int) + o) (hp : ((pc : Int) + o).toNat = pc') (K1 : ¬ v = w → o_Go κ Q h k n pc' Ls St) (K2 : v = w → o_Go κ Q h k n (pc + 3) Ls St) : o_Go κ Q h k n pc Ls (w :: v :: St) := by
  by_cases hc : v = w
  · exact o_sim B (fun p e m below c T target X hx hby st => XT.acmpNo X hx rfl (hb hby hd) rfl hv hw (by simp [XT.acmp, hc]) st) (K2 hc)
  · exact o_sim B (fun p e m below c T target X hx hby st => XT.acmpYes X hx rfl (pc0 := pc) rfl (hb hby hd) rfl hv hw (by simp [XT.acmp, hc]) ho hp st) (K1 hc)
theorem o_ldc (B : o_Bo κ l Z n0 R y bytes ml ret) {idx : Nat} {x : Int32} (hd : decode bytes pc = .ok (.ldc idx, 2)) (w : (Cond.constant y.cls idx x).before a0 Z = true) (K : o_Go κ Q h k n (pc + 2) Ls (.int x :: St)) : o_Go κ Q h k n pc Ls St := by
  obtain ⟨p, e, s, m, args, below, meth, c, rfl, hx, hZ, hby, hml, hown, hret, hlk, hnm⟩ := B
  intro T locs X N eT
  obtain ⟨s₂, o, st, r⟩ := K T locs X N eT
  exact ⟨s₂, o, Stand.ldcI X hx hown (mv hZ w) rfl (hb hby hd) st, r⟩
theorem o_ldc_w (B : o_Bo κ l Z n0 R y bytes ml ret) {idx : Nat} {x : Int32} (hd : decode bytes pc = .ok (.ldc_w idx, 3)) (w : (Cond.constant y.cls idx x).before a0 Z = true) (K : o_Go κ Q h k n (pc + 3) Ls (.int x :: St)) : o_Go κ Q h k n pc Ls St := by
  obtain ⟨p, e, s, m, args, below, meth, c, rfl, hx, hZ, hby, hml, hown, hret, hlk, hnm⟩ := B
  intro T locs X N eT
  obtain ⟨s₂, o, st, r⟩ := K T locs X N eT
  exact ⟨s₂, o, Stand.ldcWI X hx hown (mv hZ w) rfl (hb hby hd) st, r⟩
theorem o_ldc2_w (B : o_Bo κ l Z n0 R y bytes ml ret) {idx : Nat} {x : Int64} (hd : decode bytes pc = .ok (.ldc2_w idx, 3)) (w : (Cond.constantLong y.cls idx x).before a0 Z = true) (K : o_Go κ Q h k n (pc + 3) Ls (.long x :: St)) : o_Go κ Q h k n pc Ls St := by
  obtain ⟨p, e, s, m, args, below, meth, c, rfl, hx, hZ, hby, hml, hown, hret, hlk, hnm⟩ := B
  intro T locs X N eT
  obtain ⟨s₂, o, st, r⟩ := K T locs X N eT
  exact ⟨s₂, o, Stand.ldc2J X hx hown (mv hZ w) rfl (hb hby hd) st, r⟩
theorem o_out (B : o_Bo κ l Z n0 R y bytes ml ret) {v : Option Value} (hv : ret = none → v = none) (hk : k ≤ R.cells) (hn : n ≤ R.slots) (q : Q v h)
    (f : ∀ (p : Program) (e : Env) (s : State) (m : MethodId) (args : Array Value) (below : List Frame) (meth : Method) (c : Code) (T : State) (locs : List Loc), Stand p l e R s m args below meth c T locs k n → p.tables.exec = Jvm.exec → c.code = bytes → meth.sig.returnType = ret → ∀ fs : List Frame, (∀ (f : JFrame) (acts : List Action), f.method = m → f.locked = none → f.entered = [] → (doReturn e (T.setTop f) acts v).1 = T.setFrames fs) → Steps p.tables e below (T.setTop (mkF m pc Ls.toArray St)) (T.setFrames fs)) : o_Go κ Q h k n pc Ls St := by
  obtain ⟨p, e, s, m, args, below, meth, c, rfl, hx, hZ, hby, hml, hown, hret, hlk, hnm⟩ := B
  intro T locs X N eT
  obtain ⟨fs, hr, hrun, hended, hW, hsame⟩ := X.leave (v := v) (fun hh => hv (hret.symm.trans hh)) hlk
  refine ⟨_, _, f p e s m args below meth c T locs X hx hby hret fs hr, hrun, hended, _, _, rfl, ⟨?_, N⟩, ⟨_, rfl⟩, hW, hsame.mono hk hn⟩
  have e1 : (T.setFrames fs).heap = h := eT
  rw [e1]; exact q
theorem o_ireturn (B : o_Bo κ l Z n0 R y bytes ml (some .int)) {x : Int32} (hd : decode bytes pc = .ok (.ireturn, 1)) (hk : k ≤ R.cells) (hn : n ≤ R.slots) (q : Q (some (.int x)) h) : o_Go κ Q h k n pc Ls (.int x :: St) :=
  o_out B (fun hh => by cases hh) hk hn q fun p e s m args below meth c T locs X hx hby hret fs hr => retOut X hx hret rfl (Or.inl ⟨rfl, Or.inl rfl, _, rfl⟩) (hb hby hd) hr
theorem o_zreturn (B : o_Bo κ l Z n0 R y bytes ml (some .boolean)) {x : Int32} (hd : decode bytes pc = .ok (.ireturn, 1)) (hk : k ≤ R.cells) (hn : n ≤ R.slots) (q : Q (some (.int (nar .boolean x))) h) : o_Go κ Q h k n pc Ls (.int x :: St) :=
  o_out B (fun hh => by cases hh) hk hn q fun p e s m args below meth c T locs X hx hby hret fs hr => retN X hx hret (by simp) (hb hby hd) hr
theorem o_lreturn (B : o_Bo κ l Z n0 R y bytes ml (some .long)) {x : Int64} (hd : decode bytes pc = .ok (.lreturn, 1)) (hk : k ≤ R.cells) (hn : n ≤ R.slots) (q : Q (some (.long x)) h) : o_Go κ Q h k n pc Ls (.long x :: St) :=
  o_out B (fun hh => by cases hh) hk hn q fun p e s m args below meth c T locs X hx hby hret fs hr => retOut X hx hret rfl (Or.inr (Or.inl ⟨rfl, rfl, _, rfl⟩)) (hb hby hd) hr
theorem o_areturn {t : FieldType} (B : o_Bo κ l Z n0 R y bytes ml (some t)) {v : Value} (ht : t.isReference = true) (hn' : narrow t v = v) (hv : v.isRef = true) (hd : decode bytes pc = .ok (.areturn, 1)) (hk : k ≤ R.cells) (hn : n ≤ R.slots) (q : Q (some v) h) : o_Go κ Q h k n pc Ls (v :: St) :=
  o_out B (fun hh => by cases hh) hk hn q fun p e s m args below meth c T locs X hx hby hret fs hr => retOut X hx hret hn' (Or.inr (Or.inr (Or.inr (Or.inr ⟨rfl, ht, hv⟩)))) (hb hby hd) hr
theorem o_return (B : o_Bo κ l Z n0 R y bytes ml none) (hd : decode bytes pc = .ok (.return_, 1)) (hk : k ≤ R.cells) (hn : n ≤ R.slots) (q : Q none h) : o_Go κ Q h k n pc Ls [] :=
  o_out B (fun _ => rfl) hk hn q fun p e s m args below meth c T locs X hx hby hret fs hr => X.returnOut hx hret (hb hby hd) hr
theorem o_getF (B : o_Bo κ l Z n0 R y bytes ml ret) {O nm d : String} {idx : Nat} {a : Addr} {v : Value} (hd : decode bytes pc = .ok (.getfield idx, 3)) (w : (Cond.fieldLink y.cls idx O nm d).before a0 Z = true) (F : Fld Z h a O nm d v) (K : o_Go κ Q h k n (pc + 3) Ls (v :: St)) : o_Go κ Q h k n pc Ls (.ref a :: St) := by
  obtain ⟨p, e, s, m, args, below, meth, c, rfl, hx, hZ, hby, hml, hown, hret, hlk, hnm⟩ := B
  intro T locs X N eT
  obtain ⟨T', X', e', st'⟩ := getF X hx hZ hown (host := "") (Or.inl w) Via.refl eT F (g := mkF m pc Ls.toArray (.ref a :: St)) rfl rfl (hb hby hd)
  obtain ⟨s₂, o, st, r⟩ := K T' locs X' N e'
  exact ⟨s₂, o, st' _ st, r⟩
theorem o_putF (B : o_Bo κ l Z n0 R y bytes ml ret) {O nm d C : String} {idx kk : Nat} {a : Addr} {v old : Value} {ty : FieldType} (hd : decode bytes pc = .ok (.putfield idx, 3)) (w : (Cond.fieldLink y.cls idx O nm d).before a0 Z = true) (F : Fld Z h a O nm d old) (E : Exa Z h a C) (L : (Cond.lays C O nm d).before a0 Z = true ∨ ((Cond.laysFinal C O nm d).before a0 Z = true ∧ y.cls = O ∧ y.name = "<init>")) (wi : (Cond.instantiable C kk).before a0 Z = true)
    (hty : parseFieldDescriptor d = some ty) (hn : narrow ty v = v) (hf : fits ty v = true) (ge : n0 ≤ a) (K : ∀ h', Wr h h' a (Jvm.RoadKit.slotOf Z O nm d) v → o_Go κ Q h' k n (pc + 3) Ls St) : o_Go κ Q h k n pc Ls (v :: .ref a :: St) := by
  obtain ⟨p, e, s, m, args, below, meth, c, rfl, hx, hZ, hby, hml, hown, hret, hlk, hnm⟩ := B
  intro T locs X N eT
  have L' : (Cond.lays C O nm d).before a0 Z = true ∨ ((Cond.laysFinal C O nm d).before a0 Z = true ∧ y.cls = O ∧ meth.name = "<init>") := L.imp id fun q => ⟨q.1, q.2.1, hnm.trans q.2.2⟩
  obtain ⟨T', h', X', e', W, st'⟩ := putF X hx hZ hown (host := "") (Or.inl w) Via.refl eT F E L' wi hty hn hf (g := mkF m pc Ls.toArray (v :: .ref a :: St)) rfl rfl (hb hby hd)
  obtain ⟨s₂, o, st, r⟩ := K h' W T' _ X' (Fr.snoc X' N ge) e'
  exact ⟨s₂, o, st' _ st, r⟩
theorem o_getS (B : o_Bo κ l Z n0 R y bytes ml ret) {O nm d : String} {idx : Nat} {v : Value} (hd : decode bytes pc = .ok (.getstatic idx, 3)) (w : (Cond.fieldLink y.cls idx O nm d).before a0 Z = true) (F : Sta Z h O nm d v) (K : o_Go κ Q h k n (pc + 3) Ls (v :: St)) : o_Go κ Q h k n pc Ls St := by
  obtain ⟨p, e, s, m, args, below, meth, c, rfl, hx, hZ, hby, hml, hown, hret, hlk, hnm⟩ := B
  intro T locs X N eT
  obtain ⟨T', X', e', st'⟩ := getS (host := "") X hx hZ hown w Via.refl eT F (g := mkF m pc Ls.toArray St) rfl (hb hby hd)
  obtain ⟨s₂, o, st, r⟩ := K T' locs X' N e'
  exact ⟨s₂, o, st' _ st, r⟩
theorem o_new (B : o_Bo κ l Z n0 R y bytes ml ret) {C : String} {idx nn : Nat} (hd : decode bytes pc = .ok (.new idx, 3)) (w : (Cond.classLink y.cls idx C).before a0 Z = true) (wi : (Cond.instantiable C nn).before a0 Z = true) (wz : (Cond.initialized C).before a0 Z = true) (hc : k + 1 ≤ R.cells) (hl : n + nn ≤ R.slots)
    (K : ∀ h', Ext h h' → Exa Z h' h.size C → (∀ {O nm d : String} {ty : FieldType}, Laid Z a0 C O nm d → parseFieldDescriptor d = some ty → Fld Z h' h.size O nm d (defaultValue ty)) → o_Go κ Q h' (k + 1) (n + nn) (pc + 3) Ls (.ref h.size :: St)) : o_Go κ Q h k n pc Ls St := by
  obtain ⟨p, e, s, m, args, below, meth, c, rfl, hx, hZ, hby, hml, hown, hret, hlk, hnm⟩ := B
  intro T locs X N eT
  obtain ⟨T', h', X', e', E, A, D, -, st'⟩ := newO X hx hZ hown w wi wz eT (g := mkF m pc Ls.toArray St) rfl (hb hby hd) hc hl
  obtain ⟨s₂, o, st, r⟩ := K h' E A (fun L q => D L q) T' _ X' N e'
  exact ⟨s₂, o, st' _ st, r⟩
theorem o_initO (B : o_Bo κ l Z n0 R y bytes ml ret) {idx W : Nat} {a : Addr} (hd : decode bytes pc = .ok (.invokespecial idx, 3)) (w1 : (Cond.methodLink y.cls idx Lib.objectInit).before a0 Z = true) (w2 : (Cond.instanceMethod Lib.objectInit).before a0 Z = true) (w3 : (Cond.code Lib.objectInit ⟨#[0xb1]⟩ 1 none).before a0 Z = true)
    (hf : 1 ≤ R.frames) (hW : (St.map fun v => v.category).sum ≤ W) (hl : W + 12 ≤ R.locals) (hLs : Ls.length = ml) (K : o_Go κ Q h k n (pc + 3) Ls St) : o_Go κ Q h k n pc Ls (.ref a :: St) := by
  obtain ⟨p, e, s, m, args, below, meth, c, rfl, hx, hZ, hby, hml, hown, hret, hlk, hnm⟩ := B
  intro T locs X N eT
  obtain ⟨T', X', e', st'⟩ := initO X hx hZ hown w1 w2 w3 eT (g := mkF m pc Ls.toArray (.ref a :: St)) rfl (by rw [hml, ← hLs]; simp) rfl (hb hby hd) hf (W := W) (by simpa using hW) hl
  obtain ⟨s₂, o, st, r⟩ := K T' _ X' N e'
  exact ⟨s₂, o, st' _ st, r⟩
/-- an array of the component type ty that holds the list vs -/
def o_AR (Z : State) (h : Heap) (a : Addr) (ty : FieldType) (vs : List Value) : Prop := ∃ c : Cell, Arr Z h a c ty ∧ c.slots = vs.toArray ∧ vs.length < 2 ^ 31
abbrev o_IA (Z : State) (h : Heap) (a : Addr) (L : List Int32) : Prop := o_AR Z h a .int (L.map Value.int)
abbrev o_LA (Z : State) (h : Heap) (a : Addr) (L : List Int64) : Prop := o_AR Z h a .long (L.map Value.long)
abbrev o_ZA (Z : State) (h : Heap) (a : Addr) (L : List Int32) : Prop := o_AR Z h a .boolean (L.map Value.int)
theorem o_AR.lt {h : Heap} {a : Addr} {ty : FieldType} {vs : List Value} (A : o_AR Z h a ty vs) : a < h.size := by obtain ⟨c, A, -⟩ := A; exact A.lt
theorem o_AR.ext {h h' : Heap} {a : Addr} {ty : FieldType} {vs : List Value} (A : o_AR Z h a ty vs) (E : Ext h h') : o_AR Z h' a ty vs := by obtain ⟨c, A, r⟩ := A; exact ⟨c, A.ext E, r⟩
theorem o_AR.other {h h' : Heap} {a b : Addr} {sl : Nat} {v : Value} {ty : FieldType} {vs : List Value} (A : o_AR Z h a ty vs) (W : Wr h h' b sl v) (q : a ≠ b) : o_AR Z h' a ty vs := by obtain ⟨c, A, r⟩ := A; exact ⟨c, A.other W q, r⟩
theorem o_AR.keep {h h' : Heap} {a : Addr} {ws : List Addr} {ty : FieldType} {vs : List Value} (A : o_AR Z h a ty vs) (K : Keep h h' ws) (q : a ∉ ws) : o_AR Z h' a ty vs := by obtain ⟨c, A, r⟩ := A; exact ⟨c, ⟨K.2.1 a c A.1 q, A.2⟩, r⟩
theorem o_AR.same {h h' : Heap} {a : Addr} {i : Nat} {v : Value} {ty : FieldType} {vs : List Value} (A : o_AR Z h a ty vs) (W : Wr h h' a i v) : o_AR Z h' a ty (vs.set i v) := by
  obtain ⟨c, A, e, q⟩ := A
  exact ⟨_, A.same W, by simp [Cell.setSlot, e], by simpa using q⟩
theorem o_IA.same {h h' : Heap} {a : Addr} {i : Nat} {x : Int32} {L : List Int32} (A : o_IA Z h a L) (W : Wr h h' a i (.int x)) : o_IA Z h' a (L.set i x) := by
  have := o_AR.same A W; rwa [← List.map_set] at this
theorem o_LA.same {h h' : Heap} {a : Addr} {i : Nat} {x : Int64} {L : List Int64} (A : o_LA Z h a L) (W : Wr h h' a i (.long x)) : o_LA Z h' a (L.set i x) := by
  have := o_AR.same A W; rwa [← List.map_set] at this
theorem o_ZA.same {h h' : Heap} {a : Addr} {i : Nat} {x : Int32} {L : List Int32} (A : o_ZA Z h a L) (W : Wr h h' a i (.int x)) : o_ZA Z h' a (L.set i x) := by
  have := o_AR.same A W; rwa [← List.map_set] at this
theorem o_IA.len {h : Heap} {a : Addr} {L : List Int32} (A : o_IA Z h a L) : L.length < 2 ^ 31 := by obtain ⟨c, A, e, q⟩ := A; simpa using q
theorem o_LA.len {h : Heap} {a : Addr} {L : List Int64} (A : o_LA Z h a L) : L.length < 2 ^ 31 := by obtain ⟨c, A, e, q⟩ := A; simpa using q
theorem o_nat {i N : Nat} (hi : i < N) (hN : N < 2 ^ 31) : (Int32.ofNat i).toNatClampNeg = i ∧ ¬ (Int32.ofNat i < 0) := by
  have e : (Int32.ofNat i).toInt = i := Int32.toInt_ofNat_of_lt (by omega)
  refine ⟨by simp only [Int32.toNatClampNeg, e]; rfl, ?_⟩
  rw [Int32.lt_iff_toInt_lt, e]; show ¬ (i : Int) < 0; omega
theorem o_in {c : Cell} {vs : List Value} {i : Nat} {j : Int32} (es : c.slots = vs.toArray) (q : vs.length < 2 ^ 31) (hj : j = Int32.ofNat i) (hi : i < vs.length) : ¬ (j < 0 ∨ c.slots.size ≤ j.toNatClampNeg) ∧ j.toNatClampNeg = i := by
  subst hj
  obtain ⟨h1, h2⟩ := o_nat hi q
  refine ⟨?_, h1⟩
  rintro (g | g)
  · exact h2 g
  · rw [h1, es] at g; simp at g; omega
theorem o_iaload (B : o_Bo κ l Z n0 R y bytes ml ret) {a : Addr} {vs : List Value} {j : Int32} {v : Value} (i : Nat) (hd : decode bytes pc = .ok (.iaload, 1)) (A : o_AR Z h a .int vs) (hj : j = Int32.ofNat i) (hv : vs[i]? = some v) (K : o_Go κ Q h k n (pc + 1) Ls (v :: St)) : o_Go κ Q h k n pc Ls (.int j :: .ref a :: St) := by
  obtain ⟨p, e, s, m, args, below, meth, c, rfl, hx, hZ, hby, hml, hown, hret, hlk, hnm⟩ := B
  intro T locs X N eT
  obtain ⟨cl, A, es, q⟩ := A
  obtain ⟨hi, hget⟩ := List.getElem?_eq_some_iff.mp hv
  obtain ⟨h1, h2⟩ := o_in es q hj hi
  obtain ⟨s₂, o, st, r⟩ := K T _ X N eT
  exact ⟨s₂, o, X.iaload hx (by rw [eT]; exact A.1) (State.isArrayOf_alike hZ.alike A.2.1) A.2.2 h1 (by rw [h2, es]; simpa using hv) (g := mkF m pc Ls.toArray (.int j :: .ref a :: St)) rfl rfl (hb hby hd) _ st, r⟩
theorem o_laload (B : o_Bo κ l Z n0 R y bytes ml ret) {a : Addr} {vs : List Value} {j : Int32} {v : Value} (i : Nat) (hd : decode bytes pc = .ok (.laload, 1)) (A : o_AR Z h a .long vs) (hj : j = Int32.ofNat i) (hv : vs[i]? = some v) (K : o_Go κ Q h k n (pc + 1) Ls (v :: St)) : o_Go κ Q h k n pc Ls (.int j :: .ref a :: St) := by
  obtain ⟨p, e, s, m, args, below, meth, c, rfl, hx, hZ, hby, hml, hown, hret, hlk, hnm⟩ := B
  intro T locs X N eT
  obtain ⟨cl, A, es, q⟩ := A
  obtain ⟨hi, hget⟩ := List.getElem?_eq_some_iff.mp hv
  obtain ⟨h1, h2⟩ := o_in es q hj hi
  obtain ⟨s₂, o, st, r⟩ := K T _ X N eT
  exact ⟨s₂, o, X.laload hx (by rw [eT]; exact A.1) (State.isArrayOf_alike hZ.alike A.2.1) A.2.2 h1 (by rw [h2, es]; simpa using hv) (g := mkF m pc Ls.toArray (.int j :: .ref a :: St)) rfl rfl (hb hby hd) _ st, r⟩
theorem o_baload (B : o_Bo κ l Z n0 R y bytes ml ret) {a : Addr} {vs : List Value} {j : Int32} {v : Value} (i : Nat) (hd : decode bytes pc = .ok (.baload, 1)) (A : o_AR Z h a .boolean vs) (hj : j = Int32.ofNat i) (hv : vs[i]? = some v) (K : o_Go κ Q h k n (pc + 1) Ls (v :: St)) : o_Go κ Q h k n pc Ls (.int j :: .ref a :: St) := by
  obtain ⟨p, e, s, m, args, below, meth, c, rfl, hx, hZ, hby, hml, hown, hret, hlk, hnm⟩ := B
  intro T locs X N eT
  obtain ⟨cl, A, es, q⟩ := A
  obtain ⟨hi, hget⟩ := List.getElem?_eq_some_iff.mp hv
  obtain ⟨h1, h2⟩ := o_in es q hj hi
  obtain ⟨s₂, o, st, r⟩ := K T _ X N eT
  exact ⟨s₂, o, X.baloadBooleans hx (by rw [eT]; exact A.1) (State.isArrayOf_alike hZ.alike A.2.1) A.2.2 h1 (by rw [h2, es]; simpa using hv) (g := mkF m pc Ls.toArray (.int j :: .ref a :: St)) rfl rfl (hb hby hd) _ st, r⟩
theorem o_aaload (B : o_Bo κ l Z n0 R y bytes ml ret) {ty : FieldType} {a : Addr} {vs : List Value} {j : Int32} {v : Value} (i : Nat) (hty : ty.isReference = true) (hd : decode bytes pc = .ok (.aaload, 1)) (A : o_AR Z h a ty vs) (hj : j = Int32.ofNat i) (hv : vs[i]? = some v) (K : o_Go κ Q h k n (pc + 1) Ls (v :: St)) : o_Go κ Q h k n pc Ls (.int j :: .ref a :: St) := by
  obtain ⟨p, e, s, m, args, below, meth, c, rfl, hx, hZ, hby, hml, hown, hret, hlk, hnm⟩ := B
  intro T locs X N eT
  obtain ⟨cl, A, es, q⟩ := A
  obtain ⟨hi, hget⟩ := List.getElem?_eq_some_iff.mp hv
  obtain ⟨h1, h2⟩ := o_in es q hj hi
  obtain ⟨s₂, o, st, r⟩ := K T _ X N eT
  exact ⟨s₂, o, X.aaload hx (by rw [eT]; exact A.1) (State.isArrayOf_alike hZ.alike A.2.1) hty A.2.2 h1 (by rw [h2, es]; simpa using hv) (g := mkF m pc Ls.toArray (.int j :: .ref a :: St)) rfl rfl (hb hby hd) _ st, r⟩
theorem o_arraylength (B : o_Bo κ l Z n0 R y bytes ml ret) {ty : FieldType} {a : Addr} {vs : List Value} (hd : decode bytes pc = .ok (.arraylength, 1)) (A : o_AR Z h a ty vs) (K : o_Go κ Q h k n (pc + 1) Ls (.int (Int32.ofNat vs.length) :: St)) : o_Go κ Q h k n pc Ls (.ref a :: St) := by
  obtain ⟨p, e, s, m, args, below, meth, c, rfl, hx, hZ, hby, hml, hown, hret, hlk, hnm⟩ := B
  intro T locs X N eT
  obtain ⟨cl, A, es, q⟩ := A
  obtain ⟨s₂, o, st, r⟩ := K T _ X N eT
  have ez : cl.slots.size.toInt32 = Int32.ofNat vs.length := by rw [es]; simp
  exact ⟨s₂, o, X.arraylength hx (by rw [eT]; exact A.1) (State.isArrayOf_alike hZ.alike A.2.1) (g := mkF m pc Ls.toArray (.ref a :: St)) rfl rfl (hb hby hd) _ (by rw [ez]; exact st), r⟩
theorem o_iastore (B : o_Bo κ l Z n0 R y bytes ml ret) {a : Addr} {vs : List Value} {j : Int32} {x : Int32} (i : Nat) (hd : decode bytes pc = .ok (.iastore, 1)) (A : o_AR Z h a .int vs) (hj : j = Int32.ofNat i) (hi : i < vs.length) (ge : n0 ≤ a) (K : ∀ h', Wr h h' a i (.int x) → o_Go κ Q h' k n (pc + 1) Ls St) : o_Go κ Q h k n pc Ls (.int x :: .int j :: .ref a :: St) := by
  obtain ⟨p, e, s, m, args, below, meth, c, rfl, hx, hZ, hby, hml, hown, hret, hlk, hnm⟩ := B
  intro T locs X N eT
  obtain ⟨cl, A, es, q⟩ := A
  obtain ⟨h1, h2⟩ := o_in es q hj hi
  obtain ⟨T', h', X', e', W, st'⟩ := stI X hx hZ eT A h1 (g := mkF m pc Ls.toArray (.int x :: .int j :: .ref a :: St)) rfl rfl (hb hby hd)
  have W' := W
  rw [h2] at W'
  obtain ⟨s₂, o, st, r⟩ := K h' W' T' _ X' (Fr.snoc X' N ge) e'
  exact ⟨s₂, o, st' _ st, r⟩
theorem o_lastore (B : o_Bo κ l Z n0 R y bytes ml ret) {a : Addr} {vs : List Value} {j : Int32} {x : Int64} (i : Nat) (hd : decode bytes pc = .ok (.lastore, 1)) (A : o_AR Z h a .long vs) (hj : j = Int32.ofNat i) (hi : i < vs.length) (ge : n0 ≤ a) (K : ∀ h', Wr h h' a i (.long x) → o_Go κ Q h' k n (pc + 1) Ls St) : o_Go κ Q h k n pc Ls (.long x :: .int j :: .ref a :: St) := by
  obtain ⟨p, e, s, m, args, below, meth, c, rfl, hx, hZ, hby, hml, hown, hret, hlk, hnm⟩ := B
  intro T locs X N eT
  obtain ⟨cl, A, es, q⟩ := A
  obtain ⟨h1, h2⟩ := o_in es q hj hi
  obtain ⟨T', h', X', e', W, st'⟩ := stJ X hx hZ eT A h1 (g := mkF m pc Ls.toArray (.long x :: .int j :: .ref a :: St)) rfl rfl (hb hby hd)
  have W' := W
  rw [h2] at W'
  obtain ⟨s₂, o, st, r⟩ := K h' W' T' _ X' (Fr.snoc X' N ge) e'
  exact ⟨s₂, o, st' _ st, r⟩
theorem o_bastore (B : o_Bo κ l Z n0 R y bytes ml ret) {a : Addr} {vs : List Value} {j : Int32} {x : Int32} (i : Nat) (hd : decode bytes pc = .ok (.bastore, 1)) (A : o_AR Z h a .boolean vs) (hj : j = Int32.ofNat i) (hi : i < vs.length) (ge : n0 ≤ a) (K : ∀ h', Wr h h' a i (.int (nar .boolean x)) → o_Go κ Q h' k n (pc + 1) Ls St) : o_Go κ Q h k n pc Ls (.int x :: .int j :: .ref a :: St) := by
  obtain ⟨p, e, s, m, args, below, meth, c, rfl, hx, hZ, hby, hml, hown, hret, hlk, hnm⟩ := B
  intro T locs X N eT
  obtain ⟨cl, A, es, q⟩ := A
  obtain ⟨h1, h2⟩ := o_in es q hj hi
  obtain ⟨T', h', X', e', W, st'⟩ := stZ X hx hZ eT A h1 (g := mkF m pc Ls.toArray (.int x :: .int j :: .ref a :: St)) rfl rfl (hb hby hd)
  have W' := W
  rw [h2] at W'
  obtain ⟨s₂, o, st, r⟩ := K h' W' T' _ X' (Fr.snoc X' N ge) e'
  exact ⟨s₂, o, st' _ st, r⟩
theorem o_newarray (B : o_Bo κ l Z n0 R y bytes ml ret) {aty : ArrayType} {cnt : Int32} (cN cap : Nat) (hd : decode bytes pc = .ok (.newarray aty, 2)) (w : (Cond.arrayClass (newarray.typeOf aty)).before a0 Z = true) (hcnt : cnt = Int32.ofNat cN) (hcap : cN ≤ cap) (hbig : cap * 8 ≤ 536870912) (hc : k + 1 ≤ R.cells) (hl : n + cap ≤ R.slots)
    (K : ∀ h', Ext h h' → h.size < h'.size → o_AR Z h' h.size (newarray.typeOf aty) (List.replicate cN (defaultValue (newarray.typeOf aty))) → o_Go κ Q h' (k + 1) (n + cap) (pc + 2) Ls (.ref h.size :: St)) : o_Go κ Q h k n pc Ls (.int cnt :: St) := by
  obtain ⟨p, e, s, m, args, below, meth, c, rfl, hx, hZ, hby, hml, hown, hret, hlk, hnm⟩ := B
  intro T locs X N eT
  obtain ⟨h1, h2⟩ := o_nat (i := cN) (N := cN + 1) (by omega) (by omega)
  obtain ⟨T', h', cA, X', e', E, A, st'⟩ := newP X hx hZ w eT (g := mkF m pc Ls.toArray (.int cnt :: St)) rfl (hb hby hd) rfl (by rw [hcnt]; exact h2) (cap := cap) (by rw [hcnt, h1]; exact hcap) hbig hc hl
  obtain ⟨s₂, o, st, r⟩ := K h' E A.lt ⟨_, A, by simp [newA, hcnt, h1], by simp; omega⟩ T' _ X' N e'
  exact ⟨s₂, o, st' _ st, r⟩
theorem o_iadd_c (B : o_Bo κ l Z n0 R y bytes ml ret) {x y : Int32} (z : Int32) (hd : decode bytes pc = .ok (.iadd, 1)) (hz : x + y = z) (K : o_Go κ Q h k n (pc + 1) Ls (.int z :: St)) : o_Go κ Q h k n pc Ls (.int y :: .int x :: St) := o_iadd B hd (hz.symm ▸ K)
theorem o_isub_c (B : o_Bo κ l Z n0 R y bytes ml ret) {x y : Int32} (z : Int32) (hd : decode bytes pc = .ok (.isub, 1)) (hz : x - y = z) (K : o_Go κ Q h k n (pc + 1) Ls (.int z :: St)) : o_Go κ Q h k n pc Ls (.int y :: .int x :: St) := o_isub B hd (hz.symm ▸ K)
theorem o_iand_c (B : o_Bo κ l Z n0 R y bytes ml ret) {x y : Int32} (z : Int32) (hd : decode bytes pc = .ok (.iand, 1)) (hz : x &&& y = z) (K : o_Go κ Q h k n (pc + 1) Ls (.int z :: St)) : o_Go κ Q h k n pc Ls (.int y :: .int x :: St) := o_iand B hd (hz.symm ▸ K)
theorem o_imul_c (B : o_Bo κ l Z n0 R y bytes ml ret) {x y : Int32} (z : Int32) (hd : decode bytes pc = .ok (.imul, 1)) (hz : x * y = z) (K : o_Go κ Q h k n (pc + 1) Ls (.int z :: St)) : o_Go κ Q h k n pc Ls (.int y :: .int x :: St) := o_imul B hd (hz.symm ▸ K)
theorem o_ior_c (B : o_Bo κ l Z n0 R y bytes ml ret) {x y : Int32} (z : Int32) (hd : decode bytes pc = .ok (.ior, 1)) (hz : x ||| y = z) (K : o_Go κ Q h k n (pc + 1) Ls (.int z :: St)) : o_Go κ Q h k n pc Ls (.int y :: .int x :: St) := o_ior B hd (hz.symm ▸ K)
theorem o_ixor_c (B : o_Bo κ l Z n0 R y bytes ml ret) {x y : Int32} (z : Int32) (hd : decode bytes pc = .ok (.ixor, 1)) (hz : x ^^^ y = z) (K : o_Go κ Q h k n (pc + 1) Ls (.int z :: St)) : o_Go κ Q h k n pc Ls (.int y :: .int x :: St) := o_ixor B hd (hz.symm ▸ K)
theorem o_ishl_c (B : o_Bo κ l Z n0 R y bytes ml ret) {x y : Int32} (z : Int32) (hd : decode bytes pc = .ok (.ishl, 1)) (hz : x <<< (y &&& 31) = z) (K : o_Go κ Q h k n (pc + 1) Ls (.int z :: St)) : o_Go κ Q h k n pc Ls (.int y :: .int x :: St) := o_ishl B hd (hz.symm ▸ K)
theorem o_ishr_c (B : o_Bo κ l Z n0 R y bytes ml ret) {x y : Int32} (z : Int32) (hd : decode bytes pc = .ok (.ishr, 1)) (hz : x >>> (y &&& 31) = z) (K : o_Go κ Q h k n (pc + 1) Ls (.int z :: St)) : o_Go κ Q h k n pc Ls (.int y :: .int x :: St) := o_ishr B hd (hz.symm ▸ K)
theorem o_iushr_c (B : o_Bo κ l Z n0 R y bytes ml ret) {x y : Int32} (z : Int32) (hd : decode bytes pc = .ok (.iushr, 1)) (hz : XT.ushr x y = z) (K : o_Go κ Q h k n (pc + 1) Ls (.int z :: St)) : o_Go κ Q h k n pc Ls (.int y :: .int x :: St) := o_iushr B hd (hz.symm ▸ K)
theorem o_idiv_c (B : o_Bo κ l Z n0 R y bytes ml ret) {x y : Int32} (z : Int32) (hd : decode bytes pc = .ok (.idiv, 1)) (hy : y ≠ 0) (hz : x / y = z) (K : o_Go κ Q h k n (pc + 1) Ls (.int z :: St)) : o_Go κ Q h k n pc Ls (.int y :: .int x :: St) := o_idiv B hd hy (hz.symm ▸ K)
theorem o_irem_c (B : o_Bo κ l Z n0 R y bytes ml ret) {x y : Int32} (z : Int32) (hd : decode bytes pc = .ok (.irem, 1)) (hy : y ≠ 0) (hz : x % y = z) (K : o_Go κ Q h k n (pc + 1) Ls (.int z :: St)) : o_Go κ Q h k n pc Ls (.int y :: .int x :: St) := o_irem B hd hy (hz.symm ▸ K)
theorem o_arraylen (B : o_Bo κ l Z n0 R y bytes ml ret) {ty : FieldType} {a : Addr} {vs : List Value} (z : Int32) (hd : decode bytes pc = .ok (.arraylength, 1)) (A : o_AR Z h a ty vs) (hz : Int32.ofNat vs.length = z) (K : o_Go κ Q h k n (pc + 1) Ls (.int z :: St)) : o_Go κ Q h k n pc Ls (.ref a :: St) := o_arraylength B hd A (hz.symm ▸ K)
/-- an array of references: as o_AR, and P holds of its class -/
def o_RR (Z : State) (h : Heap) (a : Addr) (ty : FieldType) (P : ClassId → Prop) (vs : List Value) : Prop := ∃ c : Cell, Arr Z h a c ty ∧ c.slots = vs.toArray ∧ vs.length < 2 ^ 31 ∧ P c.cls
section RR
variable {Z : State} {h h' : Heap} {a b y : Addr} {ty : FieldType} {P : ClassId → Prop} {vs : List Value} {sl i : Nat} {v : Value} {ws : List Addr} {C : String}
theorem o_RR.ar (A : o_RR Z h a ty P vs) : o_AR Z h a ty vs := by obtain ⟨c, A, e, q, -⟩ := A; exact ⟨c, A, e, q⟩
theorem o_RR.lt (A : o_RR Z h a ty P vs) : a < h.size := A.ar.lt
theorem o_RR.ext (A : o_RR Z h a ty P vs) (E : Ext h h') : o_RR Z h' a ty P vs := by obtain ⟨c, A, r⟩ := A; exact ⟨c, A.ext E, r⟩
theorem o_RR.other (A : o_RR Z h a ty P vs) (W : Wr h h' b sl v) (q : a ≠ b) : o_RR Z h' a ty P vs := by obtain ⟨c, A, r⟩ := A; exact ⟨c, A.other W q, r⟩
theorem o_RR.keep (A : o_RR Z h a ty P vs) (K : Keep h h' ws) (q : a ∉ ws) : o_RR Z h' a ty P vs := by obtain ⟨c, A, r⟩ := A; exact ⟨c, ⟨K.2.1 a c A.1 q, A.2⟩, r⟩
theorem o_RR.same (A : o_RR Z h a ty P vs) (W : Wr h h' a i v) : o_RR Z h' a ty P (vs.set i v) := by
  obtain ⟨c, A, e, q, r⟩ := A
  exact ⟨_, A.same W, by simp [Cell.setSlot, e], by simpa using q, r⟩
theorem o_stoA (A : o_RR Z h a (.array ty) (fun k => OvrA Z k ty C) vs) (E : Exa Z h y C) : Sto Z h a (.ref y) := by
  obtain ⟨c, A, -, -, O⟩ := A; exact Sto.ofVA A rfl O (Ins.self E)
theorem o_stoR (A : o_RR Z h a (.object C) (fun k => Ovr Z k C) vs) (I : Ins Z h y C true) : Sto Z h a (.ref y) := by
  obtain ⟨c, A, -, -, O⟩ := A; exact Sto.ofV A rfl O I
end RR
theorem o_aastore (B : o_Bo κ l Z n0 R y bytes ml ret) {ty : FieldType} {P : ClassId → Prop} {a : Addr} {vs : List Value} {j : Int32} {v : Value} (i : Nat) (hty : ty.isReference = true) (hd : decode bytes pc = .ok (.aastore, 1)) (A : o_RR Z h a ty P vs) (hj : j = Int32.ofNat i) (hi : i < vs.length) (F : Sto Z h a v) (ge : n0 ≤ a) (K : ∀ h', Wr h h' a i v → o_Go κ Q h' k n (pc + 1) Ls St) : o_Go κ Q h k n pc Ls (v :: .int j :: .ref a :: St) := by
  obtain ⟨p, e, s, m, args, below, meth, c, rfl, hx, hZ, hby, hml, hown, hret, hlk, hnm⟩ := B
  intro T locs X N eT
  obtain ⟨cl, A, es, q, -⟩ := A
  obtain ⟨h1, h2⟩ := o_in es q hj hi
  obtain ⟨T', h', X', e', W, st'⟩ := stR X hx hZ eT A h1 hty F (g := mkF m pc Ls.toArray (v :: .int j :: .ref a :: St)) rfl rfl (hb hby hd)
  have W' := W
  rw [h2] at W'
  obtain ⟨s₂, o, st, r⟩ := K h' W' T' _ X' (Fr.snoc X' N ge) e'
  exact ⟨s₂, o, st' _ st, r⟩
theorem o_newarrayE (B : o_Bo κ l Z n0 R y bytes ml ret) {aty : ArrayType} {cnt : Int32} {ad : String} (cN cap : Nat) (had : "[" ++ (newarray.typeOf aty).toString = ad) (hd : decode bytes pc = .ok (.newarray aty, 2)) (w : (Cond.arrayClass (newarray.typeOf aty)).before a0 Z = true) (hcnt : cnt = Int32.ofNat cN) (hcap : cN ≤ cap) (hbig : cap * 8 ≤ 536870912) (hc : k + 1 ≤ R.cells) (hl : n + cap ≤ R.slots)
    (K : ∀ h', Ext h h' → h.size < h'.size → o_AR Z h' h.size (newarray.typeOf aty) (List.replicate cN (defaultValue (newarray.typeOf aty))) → Exa Z h' h.size ad → o_Go κ Q h' (k + 1) (n + cap) (pc + 2) Ls (.ref h.size :: St)) : o_Go κ Q h k n pc Ls (.int cnt :: St) := by
  obtain ⟨p, e, s, m, args, below, meth, c, rfl, hx, hZ, hby, hml, hown, hret, hlk, hnm⟩ := B
  intro T locs X N eT
  obtain ⟨h1, h2⟩ := o_nat (i := cN) (N := cN + 1) (by omega) (by omega)
  obtain ⟨T', h', cA, X', e', E, A, Ex, st'⟩ := newPE X hx hZ w eT (g := mkF m pc Ls.toArray (.int cnt :: St)) rfl (hb hby hd) rfl (by rw [hcnt]; exact h2) (cap := cap) (by rw [hcnt, h1]; exact hcap) hbig hc hl had
  obtain ⟨s₂, o, st, r⟩ := K h' E A.lt ⟨_, A, by simp [newA, hcnt, h1], by simp; omega⟩ Ex T' _ X' N e'
  exact ⟨s₂, o, st' _ st, r⟩
theorem o_anewA (B : o_Bo κ l Z n0 R y bytes ml ret) {C ad : String} {ty : FieldType} {idx : Nat} {cnt : Int32} (cN cap : Nat) (hC : (FieldType.array ty).toString = C) (had : "[" ++ C = ad) (hd : decode bytes pc = .ok (.anewarray idx, 3)) (w1 : (Cond.classLink y.cls idx C).before a0 Z = true) (w2 : (Cond.arrayOver (.array ty)).before a0 Z = true) (hcnt : cnt = Int32.ofNat cN) (hcap : cN ≤ cap) (hbig : cap * 8 ≤ 536870912) (hc : k + 1 ≤ R.cells) (hl : n + cap ≤ R.slots)
    (K : ∀ h', Ext h h' → h.size < h'.size → o_RR Z h' h.size (.array ty) (fun k => OvrA Z k ty C) (List.replicate cN .null) → Exa Z h' h.size ad → o_Go κ Q h' (k + 1) (n + cap) (pc + 3) Ls (.ref h.size :: St)) : o_Go κ Q h k n pc Ls (.int cnt :: St) := by
  obtain ⟨p, e, s, m, args, below, meth, c, rfl, hx, hZ, hby, hml, hown, hret, hlk, hnm⟩ := B
  intro T locs X N eT
  obtain ⟨h1, h2⟩ := o_nat (i := cN) (N := cN + 1) (by omega) (by omega)
  obtain ⟨T', h', cA, X', e', E, A, Ex, O, st'⟩ := newRA X hx hZ hown hC w1 w2 eT (g := mkF m pc Ls.toArray (.int cnt :: St)) rfl (hb hby hd) rfl (by rw [hcnt]; exact h2) (cap := cap) (by rw [hcnt, h1]; exact hcap) hbig hc hl had
  obtain ⟨s₂, o, st, r⟩ := K h' E A.lt ⟨_, A, by simp [newA, hcnt, h1, defaultValue], by simp; omega, O⟩ Ex T' _ X' N e'
  exact ⟨s₂, o, st' _ st, r⟩
theorem o_anewR (B : o_Bo κ l Z n0 R y bytes ml ret) {C ad : String} {idx : Nat} {cnt : Int32} (cN cap : Nat) (had : "[" ++ (FieldType.object C).toString = ad) (hd : decode bytes pc = .ok (.anewarray idx, 3)) (w1 : (Cond.classLink y.cls idx C).before a0 Z = true) (w2 : (Cond.arrayOver (.object C)).before a0 Z = true) (hcnt : cnt = Int32.ofNat cN) (hcap : cN ≤ cap) (hbig : cap * 8 ≤ 536870912) (hc : k + 1 ≤ R.cells) (hl : n + cap ≤ R.slots)
    (K : ∀ h', Ext h h' → h.size < h'.size → o_RR Z h' h.size (.object C) (fun k => Ovr Z k C) (List.replicate cN .null) → Exa Z h' h.size ad → o_Go κ Q h' (k + 1) (n + cap) (pc + 3) Ls (.ref h.size :: St)) : o_Go κ Q h k n pc Ls (.int cnt :: St) := by
  obtain ⟨p, e, s, m, args, below, meth, c, rfl, hx, hZ, hby, hml, hown, hret, hlk, hnm⟩ := B
  intro T locs X N eT
  obtain ⟨h1, h2⟩ := o_nat (i := cN) (N := cN + 1) (by omega) (by omega)
  obtain ⟨T', h', cA, X', e', E, A, Ex, O, st'⟩ := newRE X hx hZ hown w1 w2 eT (g := mkF m pc Ls.toArray (.int cnt :: St)) rfl (hb hby hd) rfl (by rw [hcnt]; exact h2) (cap := cap) (by rw [hcnt, h1]; exact hcap) hbig hc hl had
  obtain ⟨s₂, o, st, r⟩ := K h' E A.lt ⟨_, A, by simp [newA, hcnt, h1, defaultValue], by simp; omega, O⟩ Ex T' _ X' N e'
  exact ⟨s₂, o, st' _ st, r⟩
theorem o_callS (B : o_Bo κ l Z n0 R y bytes ml ret) {yc : MethodName} {bc : ByteArray} {mc : Nat} {rc : Option FieldType} {rm : Room} {as rest : List Value} {Qc : Option Value → Heap → Prop} {idx : Nat} (W : Nat) (hd : decode bytes pc = .ok (.invokestatic idx, 3))
    (w1 : (Cond.methodLink y.cls idx yc).before a0 Z = true) (w2 : (Cond.static yc).before a0 Z = true) (w3 : (Cond.initialized yc.cls).before a0 Z = true) (w4 : (Cond.code yc bc mc rc).before a0 Z = true) (hy : yc.cls ≠ "java/lang/invoke/MethodHandle" ∧ yc.cls ≠ "java/lang/invoke/VarHandle") {ps : List FieldType} {r0 : Option FieldType} (pd : parseMethodDescriptor yc.desc = some ⟨ps, r0⟩) (hlen : as.length = ps.length)
    (hW : (rest.map fun v => v.category).sum ≤ W) (hf : rm.frames + 1 ≤ R.frames) (hl : W + (mc + 11) + rm.locals ≤ R.locals) (hc : k + rm.cells ≤ R.cells) (hs : n + rm.slots ≤ R.slots) (hLs : Ls.length = ml)
    (C : o_C l Z n0 yc bc mc rc rm as h Qc) (K : ∀ v h', Qc v h' → o_Go κ Q h' (k + rm.cells) (n + rm.slots) (pc + 3) Ls (v.toList ++ rest)) : o_Go κ Q h k n pc Ls (as.reverse ++ rest) := by
  obtain ⟨p, e, s, m, args, below, meth, c, rfl, hx, hZ, hby, hml, hown, hret, hlk, hnm⟩ := B
  intro T locs X N eT
  obtain ⟨v, vm1, ⟨T', L', k', n'⟩, -, X', ⟨Lc, hQ, l', y', z'⟩, st'⟩ := Jvm.LawKit.callS X hx (y := yc) hown (mvT hZ w1) (mvT hZ w2) (mvT hZ w3) (mvT hZ w4) hy (backOf (W := W) (Q := fun v h L => Qc v h ∧ Fr n0 L) (C []) hZ w4 w3 hf hl) (g := mkF m pc Ls.toArray (as.reverse ++ rest)) rfl (by rw [hml, ← hLs]; simp) (argsL := as) (rest := rest) (lenOf pd hlen) rfl (by simpa using hW) (hb hby hd) (fun _ _ => ⟨rfl, eT, hc, hs⟩)
  dsimp only [Pt.U, Pt.locs, Pt.cells, Pt.slots] at X' l' y' z' st' hQ
  subst l' y' z'
  obtain ⟨hq, Nc⟩ := hQ
  obtain ⟨s₂, o, st, r⟩ := K v T'.heap hq T' _ X' (Fr.app N Nc) rfl
  exact ⟨s₂, o, st' _ st, r⟩
theorem o_callN (B : o_Bo κ l Z n0 R y bytes ml ret) {yc : MethodName} {bc : ByteArray} {mc : Nat} {rm : Room} {as rest : List Value} {a : Addr} {Qc : Option Value → Heap → Prop} {idx : Nat} (W : Nat) (hd : decode bytes pc = .ok (.invokespecial idx, 3)) (hin : yc.name = "<init>")
    (w1 : (Cond.methodLink y.cls idx yc).before a0 Z = true) (w2 : (Cond.instanceMethod yc).before a0 Z = true) (w3 : (Cond.initialized yc.cls).before a0 Z = true) (w4 : (Cond.code yc bc mc none).before a0 Z = true) (hy : yc.cls ≠ "java/lang/invoke/MethodHandle" ∧ yc.cls ≠ "java/lang/invoke/VarHandle") {ps : List FieldType} {r0 : Option FieldType} (pd : parseMethodDescriptor yc.desc = some ⟨ps, r0⟩) (hlen : as.length = ps.length)
    (hW : (rest.map fun v => v.category).sum ≤ W) (hf : rm.frames + 1 ≤ R.frames) (hl : W + (mc + 11) + rm.locals ≤ R.locals) (hc : k + rm.cells ≤ R.cells) (hs : n + rm.slots ≤ R.slots) (hLs : Ls.length = ml)
    (C : o_C l Z n0 yc bc mc none rm (.ref a :: as) h Qc) (K : ∀ v h', Qc v h' → o_Go κ Q h' (k + rm.cells) (n + rm.slots) (pc + 3) Ls (v.toList ++ rest)) : o_Go κ Q h k n pc Ls (as.reverse ++ .ref a :: rest) := by
  obtain ⟨p, e, s, m, args, below, meth, c, rfl, hx, hZ, hby, hml, hown, hret, hlk, hnm⟩ := B
  intro T locs X N eT
  obtain ⟨v, vm1, ⟨T', L', k', n'⟩, -, X', ⟨Lc, hQ, l', y', z'⟩, st'⟩ := X.specialBack hx (y := yc) hin hown (mvT hZ w1) (mvT hZ w2) (mvT hZ w4) hy (backOf (W := W) (Q := fun v h L => Qc v h ∧ Fr n0 L) (C []) hZ w4 w3 hf hl) (g := mkF m pc Ls.toArray (as.reverse ++ .ref a :: rest)) rfl (by rw [hml, ← hLs]; simp) (Steps.refl _) (a := a) (argsL := as) (rest := rest) (lenOf pd hlen) rfl (by simpa using hW) (hb hby hd) (fun _ _ => ⟨rfl, eT, hc, hs⟩)
  dsimp only [Pt.U, Pt.locs, Pt.cells, Pt.slots] at X' l' y' z' st' hQ
  subst l' y' z'
  obtain ⟨hq, Nc⟩ := hQ
  obtain ⟨s₂, o, st, r⟩ := K v T'.heap hq T' _ X' (Fr.app N Nc) rfl
  exact ⟨s₂, o, st'.trans st, r⟩
theorem o_callV (B : o_Bo κ l Z n0 R y bytes ml ret) {yc : MethodName} {Cn : String} {bc : ByteArray} {mc : Nat} {rc : Option FieldType} {rm : Room} {as rest : List Value} {a : Addr} {Qc : Option Value → Heap → Prop} {idx : Nat} (W : Nat) (hd : decode bytes pc = .ok (.invokevirtual idx, 3))
    (w1 : (Cond.methodLink y.cls idx yc).before a0 Z = true) (w2 : (Cond.declares yc).before a0 Z = true) (w5 : (Cond.selects Cn yc yc).before a0 Z = true) (w6 : (Cond.instanceMethod yc).before a0 Z = true) (w3 : (Cond.initialized yc.cls).before a0 Z = true) (w4 : (Cond.code yc bc mc rc).before a0 Z = true) (hy : yc.cls ≠ "java/lang/invoke/MethodHandle" ∧ yc.cls ≠ "java/lang/invoke/VarHandle") {ps : List FieldType} {r0 : Option FieldType} (pd : parseMethodDescriptor yc.desc = some ⟨ps, r0⟩) (hlen : as.length = ps.length)
    (hW : (rest.map fun v => v.category).sum ≤ W) (hf : rm.frames + 1 ≤ R.frames) (hl : W + (mc + 11) + rm.locals ≤ R.locals) (hc : k + rm.cells ≤ R.cells) (hs : n + rm.slots ≤ R.slots) (hLs : Ls.length = ml) (E : Exa Z h a Cn)
    (C : o_C l Z n0 yc bc mc rc rm (.ref a :: as) h Qc) (K : ∀ v h', Qc v h' → o_Go κ Q h' (k + rm.cells) (n + rm.slots) (pc + 3) Ls (v.toList ++ rest)) : o_Go κ Q h k n pc Ls (as.reverse ++ .ref a :: rest) := by
  obtain ⟨p, e, s, m, args, below, meth, c, rfl, hx, hZ, hby, hml, hown, hret, hlk, hnm⟩ := B
  intro T locs X N eT
  obtain ⟨cq, kq, qa, qb, qc⟩ := isOf hZ eT E
  obtain ⟨v, vm1, ⟨T', L', k', n'⟩, -, X', ⟨Lc, hQ, l', y', z'⟩, st'⟩ := X.virtualBack hx (y := yc) (z := yc) hown (mvT hZ w1) (mvT hZ w2) (notFace_of_selects (args := #[]) (mvT hZ w5)) (mvT hZ w5) (mvT hZ w6) hy (backOf (W := W) (Q := fun v h L => Qc v h ∧ Fr n0 L) (C []) hZ w4 w3 hf hl) qa qc (g := mkF m pc Ls.toArray (as.reverse ++ .ref a :: rest)) rfl (by rw [hml, ← hLs]; simp) (Steps.refl _) (argsL := as) (rest := rest) (lenOf pd hlen) rfl (by simpa using hW) (hb hby hd) (fun _ _ => ⟨rfl, eT, hc, hs⟩)
  dsimp only [Pt.U, Pt.locs, Pt.cells, Pt.slots] at X' l' y' z' st' hQ
  subst l' y' z'
  obtain ⟨hq, Nc⟩ := hQ
  obtain ⟨s₂, o, st, r⟩ := K v T'.heap hq T' _ X' (Fr.app N Nc) rfl
  exact ⟨s₂, o, st'.trans st, r⟩
theorem o_callS0 (B : o_Bo κ l Z n0 R y bytes ml ret) {yc : MethodName} {bc : ByteArray} {mc : Nat} {rc : Option FieldType} {rm : Room} {rest : List Value} {Qc : Option Value → Heap → Prop} {idx : Nat} (W : Nat) (hd : decode bytes pc = .ok (.invokestatic idx, 3)) (w1 : (Cond.methodLink y.cls idx yc).before a0 Z = true) (w2 : (Cond.static yc).before a0 Z = true) (w3 : (Cond.initialized yc.cls).before a0 Z = true) (w4 : (Cond.code yc bc mc rc).before a0 Z = true) (hy : yc.cls ≠ "java/lang/invoke/MethodHandle" ∧ yc.cls ≠ "java/lang/invoke/VarHandle") {ps : List FieldType} {r0 : Option FieldType} (pd : parseMethodDescriptor yc.desc = some ⟨ps, r0⟩) (hlen : 0 = ps.length) (hW : (rest.map fun v => v.category).sum ≤ W) (hf : rm.frames + 1 ≤ R.frames) (hl : W + (mc + 11) + rm.locals ≤ R.locals) (hc : k + rm.cells ≤ R.cells) (hs : n + rm.slots ≤ R.slots) (hLs : Ls.length = ml) (C : o_C l Z n0 yc bc mc rc rm [] h Qc) (K : ∀ v h', Qc v h' → o_Go κ Q h' (k + rm.cells) (n + rm.slots) (pc + 3) Ls (v.toList ++ rest)) : o_Go κ Q h k n pc Ls (rest) := o_callS B W hd w1 w2 w3 w4 hy pd (as := []) hlen hW hf hl hc hs hLs C K
theorem o_callN0 (B : o_Bo κ l Z n0 R y bytes ml ret) {yc : MethodName} {bc : ByteArray} {mc : Nat} {rm : Room} {rest : List Value} {a : Addr} {Qc : Option Value → Heap → Prop} {idx : Nat} (W : Nat) (hd : decode bytes pc = .ok (.invokespecial idx, 3)) (hin : yc.name = "<init>") (w1 : (Cond.methodLink y.cls idx yc).before a0 Z = true) (w2 : (Cond.instanceMethod yc).before a0 Z = true) (w3 : (Cond.initialized yc.cls).before a0 Z = true) (w4 : (Cond.code yc bc mc none).before a0 Z = true) (hy : yc.cls ≠ "java/lang/invoke/MethodHandle" ∧ yc.cls ≠ "java/lang/invoke/VarHandle") {ps : List FieldType} {r0 : Option FieldType} (pd : parseMethodDescriptor yc.desc = some ⟨ps, r0⟩) (hlen : 0 = ps.length) (hW : (rest.map fun v => v.category).sum ≤ W) (hf : rm.frames + 1 ≤ R.frames) (hl : W + (mc + 11) + rm.locals ≤ R.locals) (hc : k + rm.cells ≤ R.cells) (hs : n + rm.slots ≤ R.slots) (hLs : Ls.length = ml) (C : o_C l Z n0 yc bc mc none rm (.ref a :: []) h Qc) (K : ∀ v h', Qc v h' → o_Go κ Q h' (k + rm.cells) (n + rm.slots) (pc + 3) Ls (v.toList ++ rest)) : o_Go κ Q h k n pc Ls (.ref a :: rest) := o_callN B W hd hin w1 w2 w3 w4 hy pd (as := []) hlen hW hf hl hc hs hLs C K
theorem o_callV0 (B : o_Bo κ l Z n0 R y bytes ml ret) {yc : MethodName} {Cn : String} {bc : ByteArray} {mc : Nat} {rc : Option FieldType} {rm : Room} {rest : List Value} {a : Addr} {Qc : Option Value → Heap → Prop} {idx : Nat} (W : Nat) (hd : decode bytes pc = .ok (.invokevirtual idx, 3)) (w1 : (Cond.methodLink y.cls idx yc).before a0 Z = true) (w2 : (Cond.declares yc).before a0 Z = true) (w5 : (Cond.selects Cn yc yc).before a0 Z = true) (w6 : (Cond.instanceMethod yc).before a0 Z = true) (w3 : (Cond.initialized yc.cls).before a0 Z = true) (w4 : (Cond.code yc bc mc rc).before a0 Z = true) (hy : yc.cls ≠ "java/lang/invoke/MethodHandle" ∧ yc.cls ≠ "java/lang/invoke/VarHandle") {ps : List FieldType} {r0 : Option FieldType} (pd : parseMethodDescriptor yc.desc = some ⟨ps, r0⟩) (hlen : 0 = ps.length) (hW : (rest.map fun v => v.category).sum ≤ W) (hf : rm.frames + 1 ≤ R.frames) (hl : W + (mc + 11) + rm.locals ≤ R.locals) (hc : k + rm.cells ≤ R.cells) (hs : n + rm.slots ≤ R.slots) (hLs : Ls.length = ml) (E : Exa Z h a Cn) (C : o_C l Z n0 yc bc mc rc rm (.ref a :: []) h Qc) (K : ∀ v h', Qc v h' → o_Go κ Q h' (k + rm.cells) (n + rm.slots) (pc + 3) Ls (v.toList ++ rest)) : o_Go κ Q h k n pc Ls (.ref a :: rest) := o_callV B W hd w1 w2 w5 w6 w3 w4 hy pd (as := []) hlen hW hf hl hc hs hLs E C K
theorem o_callS1 (B : o_Bo κ l Z n0 R y bytes ml ret) {yc : MethodName} {bc : ByteArray} {mc : Nat} {rc : Option FieldType} {rm : Room} {v0 : Value} {rest : List Value} {Qc : Option Value → Heap → Prop} {idx : Nat} (W : Nat) (hd : decode bytes pc = .ok (.invokestatic idx, 3)) (w1 : (Cond.methodLink y.cls idx yc).before a0 Z = true) (w2 : (Cond.static yc).before a0 Z = true) (w3 : (Cond.initialized yc.cls).before a0 Z = true) (w4 : (Cond.code yc bc mc rc).before a0 Z = true) (hy : yc.cls ≠ "java/lang/invoke/MethodHandle" ∧ yc.cls ≠ "java/lang/invoke/VarHandle") {ps : List FieldType} {r0 : Option FieldType} (pd : parseMethodDescriptor yc.desc = some ⟨ps, r0⟩) (hlen : 1 = ps.length) (hW : (rest.map fun v => v.category).sum ≤ W) (hf : rm.frames + 1 ≤ R.frames) (hl : W + (mc + 11) + rm.locals ≤ R.locals) (hc : k + rm.cells ≤ R.cells) (hs : n + rm.slots ≤ R.slots) (hLs : Ls.length = ml) (C : o_C l Z n0 yc bc mc rc rm [v0] h Qc) (K : ∀ v h', Qc v h' → o_Go κ Q h' (k + rm.cells) (n + rm.slots) (pc + 3) Ls (v.toList ++ rest)) : o_Go κ Q h k n pc Ls (v0 :: rest) := o_callS B W hd w1 w2 w3 w4 hy pd (as := [v0]) hlen hW hf hl hc hs hLs C K
theorem o_callN1 (B : o_Bo κ l Z n0 R y bytes ml ret) {yc : MethodName} {bc : ByteArray} {mc : Nat} {rm : Room} {v0 : Value} {rest : List Value} {a : Addr} {Qc : Option Value → Heap → Prop} {idx : Nat} (W : Nat) (hd : decode bytes pc = .ok (.invokespecial idx, 3)) (hin : yc.name = "<init>") (w1 : (Cond.methodLink y.cls idx yc).before a0 Z = true) (w2 : (Cond.instanceMethod yc).before a0 Z = true) (w3 : (Cond.initialized yc.cls).before a0 Z = true) (w4 : (Cond.code yc bc mc none).before a0 Z = true) (hy : yc.cls ≠ "java/lang/invoke/MethodHandle" ∧ yc.cls ≠ "java/lang/invoke/VarHandle") {ps : List FieldType} {r0 : Option FieldType} (pd : parseMethodDescriptor yc.desc = some ⟨ps, r0⟩) (hlen : 1 = ps.length) (hW : (rest.map fun v => v.category).sum ≤ W) (hf : rm.frames + 1 ≤ R.frames) (hl : W + (mc + 11) + rm.locals ≤ R.locals) (hc : k + rm.cells ≤ R.cells) (hs : n + rm.slots ≤ R.slots) (hLs : Ls.length = ml) (C : o_C l Z n0 yc bc mc none rm (.ref a :: [v0]) h Qc) (K : ∀ v h', Qc v h' → o_Go κ Q h' (k + rm.cells) (n + rm.slots) (pc + 3) Ls (v.toList ++ rest)) : o_Go κ Q h k n pc Ls (v0 :: .ref a :: rest) := o_callN B W hd hin w1 w2 w3 w4 hy pd (as := [v0]) hlen hW hf hl hc hs hLs C K
theorem o_callV1 (B : o_Bo κ l Z n0 R y bytes ml ret) {yc : MethodName} {Cn : String} {bc : ByteArray} {mc : Nat} {rc : Option FieldType} {rm : Room} {v0 : Value} {rest : List Value} {a : Addr} {Qc : Option Value → Heap → Prop} {idx : Nat} (W : Nat) (hd : decode bytes pc = .ok (.invokevirtual idx, 3)) (w1 : (Cond.methodLink y.cls idx yc).before a0 Z = true) (w2 : (Cond.declares yc).before a0 Z = true) (w5 : (Cond.selects Cn yc yc).before a0 Z = true) (w6 : (Cond.instanceMethod yc).before a0 Z = true) (w3 : (Cond.initialized yc.cls).before a0 Z = true) (w4 : (Cond.code yc bc mc rc).before a0 Z = true) (hy : yc.cls ≠ "java/lang/invoke/MethodHandle" ∧ yc.cls ≠ "java/lang/invoke/VarHandle") {ps : List FieldType} {r0 : Option FieldType} (pd : parseMethodDescriptor yc.desc = some ⟨ps, r0⟩) (hlen : 1 = ps.length) (hW : (rest.map fun v => v.category).sum ≤ W) (hf : rm.frames + 1 ≤ R.frames) (hl : W + (mc + 11) + rm.locals ≤ R.locals) (hc : k + rm.cells ≤ R.cells) (hs : n + rm.slots ≤ R.slots) (hLs : Ls.length = ml) (E : Exa Z h a Cn) (C : o_C l Z n0 yc bc mc rc rm (.ref a :: [v0]) h Qc) (K : ∀ v h', Qc v h' → o_Go κ Q h' (k + rm.cells) (n + rm.slots) (pc + 3) Ls (v.toList ++ rest)) : o_Go κ Q h k n pc Ls (v0 :: .ref a :: rest) := o_callV B W hd w1 w2 w5 w6 w3 w4 hy pd (as := [v0]) hlen hW hf hl hc hs hLs E C K
theorem o_callS2 (B : o_Bo κ l Z n0 R y bytes ml ret) {yc : MethodName} {bc : ByteArray} {mc : Nat} {rc : Option FieldType} {rm : Room} {v0 v1 : Value} {rest : List Value} {Qc : Option Value → Heap → Prop} {idx : Nat} (W : Nat) (hd : decode bytes pc = .ok (.invokestatic idx, 3)) (w1 : (Cond.methodLink y.cls idx yc).before a0 Z = true) (w2 : (Cond.static yc).before a0 Z = true) (w3 : (Cond.initialized yc.cls).before a0 Z = true) (w4 : (Cond.code yc bc mc rc).before a0 Z = true) (hy : yc.cls ≠ "java/lang/invoke/MethodHandle" ∧ yc.cls ≠ "java/lang/invoke/VarHandle") {ps : List FieldType} {r0 : Option FieldType} (pd : parseMethodDescriptor yc.desc = some ⟨ps, r0⟩) (hlen : 2 = ps.length) (hW : (rest.map fun v => v.category).sum ≤ W) (hf : rm.frames + 1 ≤ R.frames) (hl : W + (mc + 11) + rm.locals ≤ R.locals) (hc : k + rm.cells ≤ R.cells) (hs : n + rm.slots ≤ R.slots) (hLs : Ls.length = ml) (C : o_C l Z n0 yc bc mc rc rm [v0, v1] h Qc) (K : ∀ v h', Qc v h' → o_Go κ Q h' (k + rm.cells) (n + rm.slots) (pc + 3) Ls (v.toList ++ rest)) : o_Go κ Q h k n pc Ls (v1 :: v0 :: rest) := o_callS B W hd w1 w2 w3 w4 hy pd (as := [v0, v1]) hlen hW hf hl hc hs hLs C K
theorem o_callN2 (B : o_Bo κ l Z n0 R y bytes ml ret) {yc : MethodName} {bc : ByteArray} {mc : Nat} {rm : Room} {v0 v1 : Value} {rest : List Value} {a : Addr} {Qc : Option Value → Heap → Prop} {idx : Nat} (W : Nat) (hd : decode bytes pc = .ok (.invokespecial idx, 3)) (hin : yc.name = "<init>") (w1 : (Cond.methodLink y.cls idx yc).before a0 Z = true) (w2 : (Cond.instanceMethod yc).before a0 Z = true) (w3 : (Cond.initialized yc.cls).before a0 Z = true) (w4 : (Cond.code yc bc mc none).before a0 Z = true) (hy : yc.cls ≠ "java/lang/invoke/MethodHandle" ∧ yc.cls ≠ "java/lang/invoke/VarHandle") {ps : List FieldType} {r0 : Option FieldType} (pd : parseMethodDescriptor yc.desc = some ⟨ps, r0⟩) (hlen : 2 = ps.length) (hW : (rest.map fun v => v.category).sum ≤ W) (hf : rm.frames + 1 ≤ R.frames) (hl : W + (mc + 11) + rm.locals ≤ R.locals) (hc : k + rm.cells ≤ R.cells) (hs : n + rm.slots ≤ R.slots) (hLs : Ls.length = ml) (C : o_C l Z n0 yc bc mc none rm (.ref a :: [v0, v1]) h Qc) (K : ∀ v h', Qc v h' → o_Go κ Q h' (k + rm.cells) (n + rm.slots) (pc + 3) Ls (v.toList ++ rest)) : o_Go κ Q h k n pc Ls (v1 :: v0 :: .ref a :: rest) := o_callN B W hd hin w1 w2 w3 w4 hy pd (as := [v0, v1]) hlen hW hf hl hc hs hLs C K
theorem o_callV2 (B : o_Bo κ l Z n0 R y bytes ml ret) {yc : MethodName} {Cn : String} {bc : ByteArray} {mc : Nat} {rc : Option FieldType} {rm : Room} {v0 v1 : Value} {rest : List Value} {a : Addr} {Qc : Option Value → Heap → Prop} {idx : Nat} (W : Nat) (hd : decode bytes pc = .ok (.invokevirtual idx, 3)) (w1 : (Cond.methodLink y.cls idx yc).before a0 Z = true) (w2 : (Cond.declares yc).before a0 Z = true) (w5 : (Cond.selects Cn yc yc).before a0 Z = true) (w6 : (Cond.instanceMethod yc).before a0 Z = true) (w3 : (Cond.initialized yc.cls).before a0 Z = true) (w4 : (Cond.code yc bc mc rc).before a0 Z = true) (hy : yc.cls ≠ "java/lang/invoke/MethodHandle" ∧ yc.cls ≠ "java/lang/invoke/VarHandle") {ps : List FieldType} {r0 : Option FieldType} (pd : parseMethodDescriptor yc.desc = some ⟨ps, r0⟩) (hlen : 2 = ps.length) (hW : (rest.map fun v => v.category).sum ≤ W) (hf : rm.frames + 1 ≤ R.frames) (hl : W + (mc + 11) + rm.locals ≤ R.locals) (hc : k + rm.cells ≤ R.cells) (hs : n + rm.slots ≤ R.slots) (hLs : Ls.length = ml) (E : Exa Z h a Cn) (C : o_C l Z n0 yc bc mc rc rm (.ref a :: [v0, v1]) h Qc) (K : ∀ v h', Qc v h' → o_Go κ Q h' (k + rm.cells) (n + rm.slots) (pc + 3) Ls (v.toList ++ rest)) : o_Go κ Q h k n pc Ls (v1 :: v0 :: .ref a :: rest) := o_callV B W hd w1 w2 w5 w6 w3 w4 hy pd (as := [v0, v1]) hlen hW hf hl hc hs hLs E C K
theorem o_callS3 (B : o_Bo κ l Z n0 R y bytes ml ret) {yc : MethodName} {bc : ByteArray} {mc : Nat} {rc : Option FieldType} {rm : Room} {v0 v1 v2 : Value} {rest : List Value} {Qc : Option Value → Heap → Prop} {idx : Nat} (W : Nat) (hd : decode bytes pc = .ok (.invokestatic idx, 3)) (w1 : (Cond.methodLink y.cls idx yc).before a0 Z = true) (w2 : (Cond.static yc).before a0 Z = true) (w3 : (Cond.initialized yc.cls).before a0 Z = true) (w4 : (Cond.code yc bc mc rc).before a0 Z = true) (hy : yc.cls ≠ "java/lang/invoke/MethodHandle" ∧ yc.cls ≠ "java/lang/invoke/VarHandle") {ps : List FieldType} {r0 : Option FieldType} (pd : parseMethodDescriptor yc.desc = some ⟨ps, r0⟩) (hlen : 3 = ps.length) (hW : (rest.map fun v => v.category).sum ≤ W) (hf : rm.frames + 1 ≤ R.frames) (hl : W + (mc + 11) + rm.locals ≤ R.locals) (hc : k + rm.cells ≤ R.cells) (hs : n + rm.slots ≤ R.slots) (hLs : Ls.length = ml) (C : o_C l Z n0 yc bc mc rc rm [v0, v1, v2] h Qc) (K : ∀ v h', Qc v h' → o_Go κ Q h' (k + rm.cells) (n + rm.slots) (pc + 3) Ls (v.toList ++ rest)) : o_Go κ Q h k n pc Ls (v2 :: v1 :: v0 :: rest) := o_callS B W hd w1 w2 w3 w4 hy pd (as := [v0, v1, v2]) hlen hW hf hl hc hs hLs C K
theorem o_callN3 (B : o_Bo κ l Z n0 R y bytes ml ret) {yc : MethodName} {bc : ByteArray} {mc : Nat} {rm : Room} {v0 v1 v2 : Value} {rest : List Value} {a : Addr} {Qc : Option Value → Heap → Prop} {idx : Nat} (W : Nat) (hd : decode bytes pc = .ok (.invokespecial idx, 3)) (hin : yc.name = "<init>") (w1 : (Cond.methodLink y.cls idx yc).before a0 Z = true) (w2 : (Cond.instanceMethod yc).before a0 Z = true) (w3 : (Cond.initialized yc.cls).before a0 Z = true) (w4 : (Cond.code yc bc mc none).before a0 Z = true) (hy : yc.cls ≠ "java/lang/invoke/MethodHandle" ∧ yc.cls ≠ "java/lang/invoke/VarHandle") {ps : List FieldType} {r0 : Option FieldType} (pd : parseMethodDescriptor yc.desc = some ⟨ps, r0⟩) (hlen : 3 = ps.length) (hW : (rest.map fun v => v.category).sum ≤ W) (hf : rm.frames + 1 ≤ R.frames) (hl : W + (mc + 11) + rm.locals ≤ R.locals) (hc : k + rm.cells ≤ R.cells) (hs : n + rm.slots ≤ R.slots) (hLs : Ls.length = ml) (C : o_C l Z n0 yc bc mc none rm (.ref a :: [v0, v1, v2]) h Qc) (K : ∀ v h', Qc v h' → o_Go κ Q h' (k + rm.cells) (n + rm.slots) (pc + 3) Ls (v.toList ++ rest)) : o_Go κ Q h k n pc Ls (v2 :: v1 :: v0 :: .ref a :: rest) := o_callN B W hd hin w1 w2 w3 w4 hy pd (as := [v0, v1, v2]) hlen hW hf hl hc hs hLs C K
theorem o_callV3 (B : o_Bo κ l Z n0 R y bytes ml ret) {yc : MethodName} {Cn : String} {bc : ByteArray} {mc : Nat} {rc : Option FieldType} {rm : Room} {v0 v1 v2 : Value} {rest : List Value} {a : Addr} {Qc : Option Value → Heap → Prop} {idx : Nat} (W : Nat) (hd : decode bytes pc = .ok (.invokevirtual idx, 3)) (w1 : (Cond.methodLink y.cls idx yc).before a0 Z = true) (w2 : (Cond.declares yc).before a0 Z = true) (w5 : (Cond.selects Cn yc yc).before a0 Z = true) (w6 : (Cond.instanceMethod yc).before a0 Z = true) (w3 : (Cond.initialized yc.cls).before a0 Z = true) (w4 : (Cond.code yc bc mc rc).before a0 Z = true) (hy : yc.cls ≠ "java/lang/invoke/MethodHandle" ∧ yc.cls ≠ "java/lang/invoke/VarHandle") {ps : List FieldType} {r0 : Option FieldType} (pd : parseMethodDescriptor yc.desc = some ⟨ps, r0⟩) (hlen : 3 = ps.length) (hW : (rest.map fun v => v.category).sum ≤ W) (hf : rm.frames + 1 ≤ R.frames) (hl : W + (mc + 11) + rm.locals ≤ R.locals) (hc : k + rm.cells ≤ R.cells) (hs : n + rm.slots ≤ R.slots) (hLs : Ls.length = ml) (E : Exa Z h a Cn) (C : o_C l Z n0 yc bc mc rc rm (.ref a :: [v0, v1, v2]) h Qc) (K : ∀ v h', Qc v h' → o_Go κ Q h' (k + rm.cells) (n + rm.slots) (pc + 3) Ls (v.toList ++ rest)) : o_Go κ Q h k n pc Ls (v2 :: v1 :: v0 :: .ref a :: rest) := o_callV B W hd w1 w2 w5 w6 w3 w4 hy pd (as := [v0, v1, v2]) hlen hW hf hl hc hs hLs E C K
theorem o_callS4 (B : o_Bo κ l Z n0 R y bytes ml ret) {yc : MethodName} {bc : ByteArray} {mc : Nat} {rc : Option FieldType} {rm : Room} {v0 v1 v2 v3 : Value} {rest : List Value} {Qc : Option Value → Heap → Prop} {idx : Nat} (W : Nat) (hd : decode bytes pc = .ok (.invokestatic idx, 3)) (w1 : (Cond.methodLink y.cls idx yc).before a0 Z = true) (w2 : (Cond.static yc).before a0 Z = true) (w3 : (Cond.initialized yc.cls).before a0 Z = true) (w4 : (Cond.code yc bc mc rc).before a0 Z = true) (hy : yc.cls ≠ "java/lang/invoke/MethodHandle" ∧ yc.cls ≠ "java/lang/invoke/VarHandle") {ps : List FieldType} {r0 : Option FieldType} (pd : parseMethodDescriptor yc.desc = some ⟨ps, r0⟩) (hlen : 4 = ps.length) (hW : (rest.map fun v => v.category).sum ≤ W) (hf : rm.frames + 1 ≤ R.frames) (hl : W + (mc + 11) + rm.locals ≤ R.locals) (hc : k + rm.cells ≤ R.cells) (hs : n + rm.slots ≤ R.slots) (hLs : Ls.length = ml) (C : o_C l Z n0 yc bc mc rc rm [v0, v1, v2, v3] h Qc) (K : ∀ v h', Qc v h' → o_Go κ Q h' (k + rm.cells) (n + rm.slots) (pc + 3) Ls (v.toList ++ rest)) : o_Go κ Q h k n pc Ls (v3 :: v2 :: v1 :: v0 :: rest) := o_callS B W hd w1 w2 w3 w4 hy pd (as := [v0, v1, v2, v3]) hlen hW hf hl hc hs hLs C K
theorem o_callN4 (B : o_Bo κ l Z n0 R y bytes ml ret) {yc : MethodName} {bc : ByteArray} {mc : Nat} {rm : Room} {v0 v1 v2 v3 : Value} {rest : List Value} {a : Addr} {Qc : Option Value → Heap → Prop} {idx : Nat} (W : Nat) (hd : decode bytes pc = .ok (.invokespecial idx, 3)) (hin : yc.name = "<init>") (w1 : (Cond.methodLink y.cls idx yc).before a0 Z = true) (w2 : (Cond.instanceMethod yc).before a0 Z = true) (w3 : (Cond.initialized yc.cls).before a0 Z = true) (w4 : (Cond.code yc bc mc none).before a0 Z = true) (hy : yc.cls ≠ "java/lang/invoke/MethodHandle" ∧ yc.cls ≠ "java/lang/invoke/VarHandle") {ps : List FieldType} {r0 : Option FieldType} (pd : parseMethodDescriptor yc.desc = some ⟨ps, r0⟩) (hlen : 4 = ps.length) (hW : (rest.map fun v => v.category).sum ≤ W) (hf : rm.frames + 1 ≤ R.frames) (hl : W + (mc + 11) + rm.locals ≤ R.locals) (hc : k + rm.cells ≤ R.cells) (hs : n + rm.slots ≤ R.slots) (hLs : Ls.length = ml) (C : o_C l Z n0 yc bc mc none rm (.ref a :: [v0, v1, v2, v3]) h Qc) (K : ∀ v h', Qc v h' → o_Go κ Q h' (k + rm.cells) (n + rm.slots) (pc + 3) Ls (v.toList ++ rest)) : o_Go κ Q h k n pc Ls (v3 :: v2 :: v1 :: v0 :: .ref a :: rest) := o_callN B W hd hin w1 w2 w3 w4 hy pd (as := [v0, v1, v2, v3]) hlen hW hf hl hc hs hLs C K
theorem o_callV4 (B : o_Bo κ l Z n0 R y bytes ml ret) {yc : MethodName} {Cn : String} {bc : ByteArray} {mc : Nat} {rc : Option FieldType} {rm : Room} {v0 v1 v2 v3 : Value} {rest : List Value} {a : Addr} {Qc : Option Value → Heap → Prop} {idx : Nat} (W : Nat) (hd : decode bytes pc = .ok (.invokevirtual idx, 3)) (w1 : (Cond.methodLink y.cls idx yc).before a0 Z = true) (w2 : (Cond.declares yc).before a0 Z = true) (w5 : (Cond.selects Cn yc yc).before a0 Z = true) (w6 : (Cond.instanceMethod yc).before a0 Z = true) (w3 : (Cond.initialized yc.cls).before a0 Z = true) (w4 : (Cond.code yc bc mc rc).before a0 Z = true) (hy : yc.cls ≠ "java/lang/invoke/MethodHandle" ∧ yc.cls ≠ "java/lang/invoke/VarHandle") {ps : List FieldType} {r0 : Option FieldType} (pd : parseMethodDescriptor yc.desc = some ⟨ps, r0⟩) (hlen : 4 = ps.length) (hW : (rest.map fun v => v.category).sum ≤ W) (hf : rm.frames + 1 ≤ R.frames) (hl : W + (mc + 11) + rm.locals ≤ R.locals) (hc : k + rm.cells ≤ R.cells) (hs : n + rm.slots ≤ R.slots) (hLs : Ls.length = ml) (E : Exa Z h a Cn) (C : o_C l Z n0 yc bc mc rc rm (.ref a :: [v0, v1, v2, v3]) h Qc) (K : ∀ v h', Qc v h' → o_Go κ Q h' (k + rm.cells) (n + rm.slots) (pc + 3) Ls (v.toList ++ rest)) : o_Go κ Q h k n pc Ls (v3 :: v2 :: v1 :: v0 :: .ref a :: rest) := o_callV B W hd w1 w2 w5 w6 w3 w4 hy pd (as := [v0, v1, v2, v3]) hlen hW hf hl hc hs hLs E C K
theorem o_callS5 (B : o_Bo κ l Z n0 R y bytes ml ret) {yc : MethodName} {bc : ByteArray} {mc : Nat} {rc : Option FieldType} {rm : Room} {v0 v1 v2 v3 v4 : Value} {rest : List Value} {Qc : Option Value → Heap → Prop} {idx : Nat} (W : Nat) (hd : decode bytes pc = .ok (.invokestatic idx, 3)) (w1 : (Cond.methodLink y.cls idx yc).before a0 Z = true) (w2 : (Cond.static yc).before a0 Z = true) (w3 : (Cond.initialized yc.cls).before a0 Z = true) (w4 : (Cond.code yc bc mc rc).before a0 Z = true) (hy : yc.cls ≠ "java/lang/invoke/MethodHandle" ∧ yc.cls ≠ "java/lang/invoke/VarHandle") {ps : List FieldType} {r0 : Option FieldType} (pd : parseMethodDescriptor yc.desc = some ⟨ps, r0⟩) (hlen : 5 = ps.length) (hW : (rest.map fun v => v.category).sum ≤ W) (hf : rm.frames + 1 ≤ R.frames) (hl : W + (mc + 11) + rm.locals ≤ R.locals) (hc : k + rm.cells ≤ R.cells) (hs : n + rm.slots ≤ R.slots) (hLs : Ls.length = ml) (C : o_C l Z n0 yc bc mc rc rm [v0, v1, v2, v3, v4] h Qc) (K : ∀ v h', Qc v h' → o_Go κ Q h' (k + rm.cells) (n + rm.slots) (pc + 3) Ls (v.toList ++ rest)) : o_Go κ Q h k n pc Ls (v4 :: v3 :: v2 :: v1 :: v0 :: rest) := o_callS B W hd w1 w2 w3 w4 hy pd (as := [v0, v1, v2, v3, v4]) hlen hW hf hl hc hs hLs C K
theorem o_callN5 (B : o_Bo κ l Z n0 R y bytes ml ret) {yc : MethodName} {bc : ByteArray} {mc : Nat} {rm : Room} {v0 v1 v2 v3 v4 : Value} {rest : List Value} {a : Addr} {Qc : Option Value → Heap → Prop} {idx : Nat} (W : Nat) (hd : decode bytes pc = .ok (.invokespecial idx, 3)) (hin : yc.name = "<init>") (w1 : (Cond.methodLink y.cls idx yc).before a0 Z = true) (w2 : (Cond.instanceMethod yc).before a0 Z = true) (w3 : (Cond.initialized yc.cls).before a0 Z = true) (w4 : (Cond.code yc bc mc none).before a0 Z = true) (hy : yc.cls ≠ "java/lang/invoke/MethodHandle" ∧ yc.cls ≠ "java/lang/invoke/VarHandle") {ps : List FieldType} {r0 : Option FieldType} (pd : parseMethodDescriptor yc.desc = some ⟨ps, r0⟩) (hlen : 5 = ps.length) (hW : (rest.map fun v => v.category).sum ≤ W) (hf : rm.frames + 1 ≤ R.frames) (hl : W + (mc + 11) + rm.locals ≤ R.locals) (hc : k + rm.cells ≤ R.cells) (hs : n + rm.slots ≤ R.slots) (hLs : Ls.length = ml) (C : o_C l Z n0 yc bc mc none rm (.ref a :: [v0, v1, v2, v3, v4]) h Qc) (K : ∀ v h', Qc v h' → o_Go κ Q h' (k + rm.cells) (n + rm.slots) (pc + 3) Ls (v.toList ++ rest)) : o_Go κ Q h k n pc Ls (v4 :: v3 :: v2 :: v1 :: v0 :: .ref a :: rest) := o_callN B W hd hin w1 w2 w3 w4 hy pd (as := [v0, v1, v2, v3, v4]) hlen hW hf hl hc hs hLs C K
theorem o_callV5 (B : o_Bo κ l Z n0 R y bytes ml ret) {yc : MethodName} {Cn : String} {bc : ByteArray} {mc : Nat} {rc : Option FieldType} {rm : Room} {v0 v1 v2 v3 v4 : Value} {rest : List Value} {a : Addr} {Qc : Option Value → Heap → Prop} {idx : Nat} (W : Nat) (hd : decode bytes pc = .ok (.invokevirtual idx, 3)) (w1 : (Cond.methodLink y.cls idx yc).before a0 Z = true) (w2 : (Cond.declares yc).before a0 Z = true) (w5 : (Cond.selects Cn yc yc).before a0 Z = true) (w6 : (Cond.instanceMethod yc).before a0 Z = true) (w3 : (Cond.initialized yc.cls).before a0 Z = true) (w4 : (Cond.code yc bc mc rc).before a0 Z = true) (hy : yc.cls ≠ "java/lang/invoke/MethodHandle" ∧ yc.cls ≠ "java/lang/invoke/VarHandle") {ps : List FieldType} {r0 : Option FieldType} (pd : parseMethodDescriptor yc.desc = some ⟨ps, r0⟩) (hlen : 5 = ps.length) (hW : (rest.map fun v => v.category).sum ≤ W) (hf : rm.frames + 1 ≤ R.frames) (hl : W + (mc + 11) + rm.locals ≤ R.locals) (hc : k + rm.cells ≤ R.cells) (hs : n + rm.slots ≤ R.slots) (hLs : Ls.length = ml) (E : Exa Z h a Cn) (C : o_C l Z n0 yc bc mc rc rm (.ref a :: [v0, v1, v2, v3, v4]) h Qc) (K : ∀ v h', Qc v h' → o_Go κ Q h' (k + rm.cells) (n + rm.slots) (pc + 3) Ls (v.toList ++ rest)) : o_Go κ Q h k n pc Ls (v4 :: v3 :: v2 :: v1 :: v0 :: .ref a :: rest) := o_callV B W hd w1 w2 w5 w6 w3 w4 hy pd (as := [v0, v1, v2, v3, v4]) hlen hW hf hl hc hs hLs E C K
theorem o_callS6 (B : o_Bo κ l Z n0 R y bytes ml ret) {yc : MethodName} {bc : ByteArray} {mc : Nat} {rc : Option FieldType} {rm : Room} {v0 v1 v2 v3 v4 v5 : Value} {rest : List Value} {Qc : Option Value → Heap → Prop} {idx : Nat} (W : Nat) (hd : decode bytes pc = .ok (.invokestatic idx, 3)) (w1 : (Cond.methodLink y.cls idx yc).before a0 Z = true) (w2 : (Cond.static yc).before a0 Z = true) (w3 : (Cond.initialized yc.cls).before a0 Z = true) (w4 : (Cond.code yc bc mc rc).before a0 Z = true) (hy : yc.cls ≠ "java/lang/invoke/MethodHandle" ∧ yc.cls ≠ "java/lang/invoke/VarHandle") {ps : List FieldType} {r0 : Option FieldType} (pd : parseMethodDescriptor yc.desc = some ⟨ps, r0⟩) (hlen : 6 = ps.length) (hW : (rest.map fun v => v.category).sum ≤ W) (hf : rm.frames + 1 ≤ R.frames) (hl : W + (mc + 11) + rm.locals ≤ R.locals) (hc : k + rm.cells ≤ R.cells) (hs : n + rm.slots ≤ R.slots) (hLs : Ls.length = ml) (C : o_C l Z n0 yc bc mc rc rm [v0, v1, v2, v3, v4, v5] h Qc) (K : ∀ v h', Qc v h' → o_Go κ Q h' (k + rm.cells) (n + rm.slots) (pc + 3) Ls (v.toList ++ rest)) : o_Go κ Q h k n pc Ls (v5 :: v4 :: v3 :: v2 :: v1 :: v0 :: rest) := o_callS B W hd w1 w2 w3 w4 hy pd (as := [v0, v1, v2, v3, v4, v5]) hlen hW hf hl hc hs hLs C K
theorem o_callN6 (B : o_Bo κ l Z n0 R y bytes ml ret) {yc : MethodName} {bc : ByteArray} {mc : Nat} {rm : Room} {v0 v1 v2 v3 v4 v5 : Value} {rest : List Value} {a : Addr} {Qc : Option Value → Heap → Prop} {idx : Nat} (W : Nat) (hd : decode bytes pc = .ok (.invokespecial idx, 3)) (hin : yc.name = "<init>") (w1 : (Cond.methodLink y.cls idx yc).before a0 Z = true) (w2 : (Cond.instanceMethod yc).before a0 Z = true) (w3 : (Cond.initialized yc.cls).before a0 Z = true) (w4 : (Cond.code yc bc mc none).before a0 Z = true) (hy : yc.cls ≠ "java/lang/invoke/MethodHandle" ∧ yc.cls ≠ "java/lang/invoke/VarHandle") {ps : List FieldType} {r0 : Option FieldType} (pd : parseMethodDescriptor yc.desc = some ⟨ps, r0⟩) (hlen : 6 = ps.length) (hW : (rest.map fun v => v.category).sum ≤ W) (hf : rm.frames + 1 ≤ R.frames) (hl : W + (mc + 11) + rm.locals ≤ R.locals) (hc : k + rm.cells ≤ R.cells) (hs : n + rm.slots ≤ R.slots) (hLs : Ls.length = ml) (C : o_C l Z n0 yc bc mc none rm (.ref a :: [v0, v1, v2, v3, v4, v5]) h Qc) (K : ∀ v h', Qc v h' → o_Go κ Q h' (k + rm.cells) (n + rm.slots) (pc + 3) Ls (v.toList ++ rest)) : o_Go κ Q h k n pc Ls (v5 :: v4 :: v3 :: v2 :: v1 :: v0 :: .ref a :: rest) := o_callN B W hd hin w1 w2 w3 w4 hy pd (as := [v0, v1, v2, v3, v4, v5]) hlen hW hf hl hc hs hLs C K
theorem o_callV6 (B : o_Bo κ l Z n0 R y bytes ml ret) {yc : MethodName} {Cn : String} {bc : ByteArray} {mc : Nat} {rc : Option FieldType} {rm : Room} {v0 v1 v2 v3 v4 v5 : Value} {rest : List Value} {a : Addr} {Qc : Option Value → Heap → Prop} {idx : Nat} (W : Nat) (hd : decode bytes pc = .ok (.invokevirtual idx, 3)) (w1 : (Cond.methodLink y.cls idx yc).before a0 Z = true) (w2 : (Cond.declares yc).before a0 Z = true) (w5 : (Cond.selects Cn yc yc).before a0 Z = true) (w6 : (Cond.instanceMethod yc).before a0 Z = true) (w3 : (Cond.initialized yc.cls).before a0 Z = true) (w4 : (Cond.code yc bc mc rc).before a0 Z = true) (hy : yc.cls ≠ "java/lang/invoke/MethodHandle" ∧ yc.cls ≠ "java/lang/invoke/VarHandle") {ps : List FieldType} {r0 : Option FieldType} (pd : parseMethodDescriptor yc.desc = some ⟨ps, r0⟩) (hlen : 6 = ps.length) (hW : (rest.map fun v => v.category).sum ≤ W) (hf : rm.frames + 1 ≤ R.frames) (hl : W + (mc + 11) + rm.locals ≤ R.locals) (hc : k + rm.cells ≤ R.cells) (hs : n + rm.slots ≤ R.slots) (hLs : Ls.length = ml) (E : Exa Z h a Cn) (C : o_C l Z n0 yc bc mc rc rm (.ref a :: [v0, v1, v2, v3, v4, v5]) h Qc) (K : ∀ v h', Qc v h' → o_Go κ Q h' (k + rm.cells) (n + rm.slots) (pc + 3) Ls (v.toList ++ rest)) : o_Go κ Q h k n pc Ls (v5 :: v4 :: v3 :: v2 :: v1 :: v0 :: .ref a :: rest) := o_callV B W hd w1 w2 w5 w6 w3 w4 hy pd (as := [v0, v1, v2, v3, v4, v5]) hlen hW hf hl hc hs hLs E C K
theorem o_callS7 (B : o_Bo κ l Z n0 R y bytes ml ret) {yc : MethodName} {bc : ByteArray} {mc : Nat} {rc : Option FieldType} {rm : Room} {v0 v1 v2 v3 v4 v5 v6 : Value} {rest : List Value} {Qc : Option Value → Heap → Prop} {idx : Nat} (W : Nat) (hd : decode bytes pc = .ok (.invokestatic idx, 3)) (w1 : (Cond.methodLink y.cls idx yc).before a0 Z = true) (w2 : (Cond.static yc).before a0 Z = true) (w3 : (Cond.initialized yc.cls).before a0 Z = true) (w4 : (Cond.code yc bc mc rc).before a0 Z = true) (hy : yc.cls ≠ "java/lang/invoke/MethodHandle" ∧ yc.cls ≠ "java/lang/invoke/VarHandle") {ps : List FieldType} {r0 : Option FieldType} (pd : parseMethodDescriptor yc.desc = some ⟨ps, r0⟩) (hlen : 7 = ps.length) (hW : (rest.map fun v => v.category).sum ≤ W) (hf : rm.frames + 1 ≤ R.frames) (hl : W + (mc + 11) + rm.locals ≤ R.locals) (hc : k + rm.cells ≤ R.cells) (hs : n + rm.slots ≤ R.slots) (hLs : Ls.length = ml) (C : o_C l Z n0 yc bc mc rc rm [v0, v1, v2, v3, v4, v5, v6] h Qc) (K : ∀ v h', Qc v h' → o_Go κ Q h' (k + rm.cells) (n + rm.slots) (pc + 3) Ls (v.toList ++ rest)) : o_Go κ Q h k n pc Ls (v6 :: v5 :: v4 :: v3 :: v2 :: v1 :: v0 :: rest) := o_callS B W hd w1 w2 w3 w4 hy pd (as := [v0, v1, v2, v3, v4, v5, v6]) hlen hW hf hl hc hs hLs C K
theorem o_callN7 (B : o_Bo κ l Z n0 R y bytes ml ret) {yc : MethodName} {bc : ByteArray} {mc : Nat} {rm : Room} {v0 v1 v2 v3 v4 v5 v6 : Value} {rest : List Value} {a : Addr} {Qc : Option Value → Heap → Prop} {idx : Nat} (W : Nat) (hd : decode bytes pc = .ok (.invokespecial idx, 3)) (hin : yc.name = "<init>") (w1 : (Cond.methodLink y.cls idx yc).before a0 Z = true) (w2 : (Cond.instanceMethod yc).before a0 Z = true) (w3 : (Cond.initialized yc.cls).before a0 Z = true) (w4 : (Cond.code yc bc mc none).before a0 Z = true) (hy : yc.cls ≠ "java/lang/invoke/MethodHandle" ∧ yc.cls ≠ "java/lang/invoke/VarHandle") {ps : List FieldType} {r0 : Option FieldType} (pd : parseMethodDescriptor yc.desc = some ⟨ps, r0⟩) (hlen : 7 = ps.length) (hW : (rest.map fun v => v.category).sum ≤ W) (hf : rm.frames + 1 ≤ R.frames) (hl : W + (mc + 11) + rm.locals ≤ R.locals) (hc : k + rm.cells ≤ R.cells) (hs : n + rm.slots ≤ R.slots) (hLs : Ls.length = ml) (C : o_C l Z n0 yc bc mc none rm (.ref a :: [v0, v1, v2, v3, v4, v5, v6]) h Qc) (K : ∀ v h', Qc v h' → o_Go κ Q h' (k + rm.cells) (n + rm.slots) (pc + 3) Ls (v.toList ++ rest)) : o_Go κ Q h k n pc Ls (v6 :: v5 :: v4 :: v3 :: v2 :: v1 :: v0 :: .ref a :: rest) := o_callN B W hd hin w1 w2 w3 w4 hy pd (as := [v0, v1, v2, v3, v4, v5, v6]) hlen hW hf hl hc hs hLs C K
theorem o_callV7 (B : o_Bo κ l Z n0 R y bytes ml ret) {yc : MethodName} {Cn : String} {bc : ByteArray} {mc : Nat} {rc : Option FieldType} {rm : Room} {v0 v1 v2 v3 v4 v5 v6 : Value} {rest : List Value} {a : Addr} {Qc : Option Value → Heap → Prop} {idx : Nat} (W : Nat) (hd : decode bytes pc = .ok (.invokevirtual idx, 3)) (w1 : (Cond.methodLink y.cls idx yc).before a0 Z = true) (w2 : (Cond.declares yc).before a0 Z = true) (w5 : (Cond.selects Cn yc yc).before a0 Z = true) (w6 : (Cond.instanceMethod yc).before a0 Z = true) (w3 : (Cond.initialized yc.cls).before a0 Z = true) (w4 : (Cond.code yc bc mc rc).before a0 Z = true) (hy : yc.cls ≠ "java/lang/invoke/MethodHandle" ∧ yc.cls ≠ "java/lang/invoke/VarHandle") {ps : List FieldType} {r0 : Option FieldType} (pd : parseMethodDescriptor yc.desc = some ⟨ps, r0⟩) (hlen : 7 = ps.length) (hW : (rest.map fun v => v.category).sum ≤ W) (hf : rm.frames + 1 ≤ R.frames) (hl : W + (mc + 11) + rm.locals ≤ R.locals) (hc : k + rm.cells ≤ R.cells) (hs : n + rm.slots ≤ R.slots) (hLs : Ls.length = ml) (E : Exa Z h a Cn) (C : o_C l Z n0 yc bc mc rc rm (.ref a :: [v0, v1, v2, v3, v4, v5, v6]) h Qc) (K : ∀ v h', Qc v h' → o_Go κ Q h' (k + rm.cells) (n + rm.slots) (pc + 3) Ls (v.toList ++ rest)) : o_Go κ Q h k n pc Ls (v6 :: v5 :: v4 :: v3 :: v2 :: v1 :: v0 :: .ref a :: rest) := o_callV B W hd w1 w2 w5 w6 w3 w4 hy pd (as := [v0, v1, v2, v3, v4, v5, v6]) hlen hW hf hl hc hs hLs E C K
theorem o_cast (B : o_Bo κ l Z n0 R y bytes ml ret) {Kc : String} {idx : Nat} {a : Addr} (hd : decode bytes pc = .ok (.checkcast idx, 3)) (w : (Cond.classLink y.cls idx Kc).before a0 Z = true) (F : Ins Z h a Kc true) (K : o_Go κ Q h k n (pc + 3) Ls (.ref a :: St)) : o_Go κ Q h k n pc Ls (.ref a :: St) := by
  obtain ⟨p, e, s, m, args, below, meth, c, rfl, hx, hZ, hby, hml, hown, hret, hlk, hnm⟩ := B
  intro T locs X N eT
  obtain ⟨T', X', e', st'⟩ := castY X hx hZ hown w eT F (g := mkF m pc Ls.toArray (.ref a :: St)) rfl rfl (hb hby hd)
  obtain ⟨s₂, o, st, r⟩ := K T' locs X' N e'
  exact ⟨s₂, o, st' _ st, r⟩
end Fw
section Pats
variable {κ : o_K} {l : Launch} {Z : State} {n0 : Nat} {R : Room} {y : MethodName} {bytes : ByteArray} {ml : Nat} {ret : Option FieldType} {Q : Option Value → Heap → Prop} {h : Heap} {k n pc : Nat} {St : List Value}
theorem o_astoreN_7_1 (B : o_Bo κ l Z n0 R y bytes ml ret) {s0 s1 s2 s3 s4 s5 s6 : Slot} {v : Value} (hd : decode bytes pc = .ok (.astore_n 1, 1)) (hv : v.isRef = true) (ho : o_ok1 s1 = true) (K : o_Go κ Q h k n (pc + 1) [s0, .val v, s2, s3, s4, s5, s6] St) : o_Go κ Q h k n pc [s0, s1, s2, s3, s4, s5, s6] (v :: St) := o_astoreN B hd hv rfl ho K
theorem o_astoreN_7_2 (B : o_Bo κ l Z n0 R y bytes ml ret) {s0 s1 s2 s3 s4 s5 s6 : Slot} {v : Value} (hd : decode bytes pc = .ok (.astore_n 2, 1)) (hv : v.isRef = true) (ho : o_ok1 s2 = true) (K : o_Go κ Q h k n (pc + 1) [s0, s1, .val v, s3, s4, s5, s6] St) : o_Go κ Q h k n pc [s0, s1, s2, s3, s4, s5, s6] (v :: St) := o_astoreN B hd hv rfl ho K
theorem o_astoreN_7_3 (B : o_Bo κ l Z n0 R y bytes ml ret) {s0 s1 s2 s3 s4 s5 s6 : Slot} {v : Value} (hd : decode bytes pc = .ok (.astore_n 3, 1)) (hv : v.isRef = true) (ho : o_ok1 s3 = true) (K : o_Go κ Q h k n (pc + 1) [s0, s1, s2, .val v, s4, s5, s6] St) : o_Go κ Q h k n pc [s0, s1, s2, s3, s4, s5, s6] (v :: St) := o_astoreN B hd hv rfl ho K
theorem o_astore_7_6 (B : o_Bo κ l Z n0 R y bytes ml ret) {s0 s1 s2 s3 s4 s5 s6 : Slot} {v : Value} (hd : decode bytes pc = .ok (.astore 6, 2)) (hv : v.isRef = true) (ho : o_ok1 s6 = true) (K : o_Go κ Q h k n (pc + 2) [s0, s1, s2, s3, s4, s5, .val v] St) : o_Go κ Q h k n pc [s0, s1, s2, s3, s4, s5, s6] (v :: St) := o_astore B hd hv rfl ho K
theorem o_astore_8_6 (B : o_Bo κ l Z n0 R y bytes ml ret) {s0 s1 s2 s3 s4 s5 s6 s7 : Slot} {v : Value} (hd : decode bytes pc = .ok (.astore 6, 2)) (hv : v.isRef = true) (ho : o_ok1 s6 = true) (K : o_Go κ Q h k n (pc + 2) [s0, s1, s2, s3, s4, s5, .val v, s7] St) : o_Go κ Q h k n pc [s0, s1, s2, s3, s4, s5, s6, s7] (v :: St) := o_astore B hd hv rfl ho K
theorem o_astore_12_7 (B : o_Bo κ l Z n0 R y bytes ml ret) {s0 s1 s2 s3 s4 s5 s6 s7 s8 s9 s10 s11 : Slot} {v : Value} (hd : decode bytes pc = .ok (.astore 7, 2)) (hv : v.isRef = true) (ho : o_ok1 s7 = true) (K : o_Go κ Q h k n (pc + 2) [s0, s1, s2, s3, s4, s5, s6, .val v, s8, s9, s10, s11] St) : o_Go κ Q h k n pc [s0, s1, s2, s3, s4, s5, s6, s7, s8, s9, s10, s11] (v :: St) := o_astore B hd hv rfl ho K
theorem o_iinc_2_1 (B : o_Bo κ l Z n0 R y bytes ml ret) {s0 : Slot} {x : Int32} {cst : Int} (v z : Int32) (hd : decode bytes pc = .ok (.iinc 1 cst, 3)) (hv : Int32.ofInt cst = v) (hz : x + v = z) (K : o_Go κ Q h k n (pc + 3) [s0, .val (.int z)] St) : o_Go κ Q h k n pc [s0, .val (.int x)] St := o_iinc B v hd hv rfl (hz.symm ▸ K)
theorem o_iinc_7_4 (B : o_Bo κ l Z n0 R y bytes ml ret) {s0 s1 s2 s3 s5 s6 : Slot} {x : Int32} {cst : Int} (v z : Int32) (hd : decode bytes pc = .ok (.iinc 4 cst, 3)) (hv : Int32.ofInt cst = v) (hz : x + v = z) (K : o_Go κ Q h k n (pc + 3) [s0, s1, s2, s3, .val (.int z), s5, s6] St) : o_Go κ Q h k n pc [s0, s1, s2, s3, .val (.int x), s5, s6] St := o_iinc B v hd hv rfl (hz.symm ▸ K)
theorem o_iinc_7_5 (B : o_Bo κ l Z n0 R y bytes ml ret) {s0 s1 s2 s3 s4 s6 : Slot} {x : Int32} {cst : Int} (v z : Int32) (hd : decode bytes pc = .ok (.iinc 5 cst, 3)) (hv : Int32.ofInt cst = v) (hz : x + v = z) (K : o_Go κ Q h k n (pc + 3) [s0, s1, s2, s3, s4, .val (.int z), s6] St) : o_Go κ Q h k n pc [s0, s1, s2, s3, s4, .val (.int x), s6] St := o_iinc B v hd hv rfl (hz.symm ▸ K)
theorem o_istoreN_2_0 (B : o_Bo κ l Z n0 R y bytes ml ret) {s0 s1 : Slot} {x : Int32} (hd : decode bytes pc = .ok (.istore_n 0, 1)) (ho : o_ok1 s0 = true) (K : o_Go κ Q h k n (pc + 1) [.val (.int x), s1] St) : o_Go κ Q h k n pc [s0, s1] (.int x :: St) := o_istoreN B hd rfl ho K
theorem o_istoreN_2_1 (B : o_Bo κ l Z n0 R y bytes ml ret) {s0 s1 : Slot} {x : Int32} (hd : decode bytes pc = .ok (.istore_n 1, 1)) (ho : o_ok1 s1 = true) (K : o_Go κ Q h k n (pc + 1) [s0, .val (.int x)] St) : o_Go κ Q h k n pc [s0, s1] (.int x :: St) := o_istoreN B hd rfl ho K
theorem o_istoreN_3_2 (B : o_Bo κ l Z n0 R y bytes ml ret) {s0 s1 s2 : Slot} {x : Int32} (hd : decode bytes pc = .ok (.istore_n 2, 1)) (ho : o_ok1 s2 = true) (K : o_Go κ Q h k n (pc + 1) [s0, s1, .val (.int x)] St) : o_Go κ Q h k n pc [s0, s1, s2] (.int x :: St) := o_istoreN B hd rfl ho K
theorem o_istoreN_5_3 (B : o_Bo κ l Z n0 R y bytes ml ret) {s0 s1 s2 s3 s4 : Slot} {x : Int32} (hd : decode bytes pc = .ok (.istore_n 3, 1)) (ho : o_ok1 s3 = true) (K : o_Go κ Q h k n (pc + 1) [s0, s1, s2, .val (.int x), s4] St) : o_Go κ Q h k n pc [s0, s1, s2, s3, s4] (.int x :: St) := o_istoreN B hd rfl ho K
theorem o_istoreN_7_3 (B : o_Bo κ l Z n0 R y bytes ml ret) {s0 s1 s2 s3 s4 s5 s6 : Slot} {x : Int32} (hd : decode bytes pc = .ok (.istore_n 3, 1)) (ho : o_ok1 s3 = true) (K : o_Go κ Q h k n (pc + 1) [s0, s1, s2, .val (.int x), s4, s5, s6] St) : o_Go κ Q h k n pc [s0, s1, s2, s3, s4, s5, s6] (.int x :: St) := o_istoreN B hd rfl ho K
theorem o_istore_5_4 (B : o_Bo κ l Z n0 R y bytes ml ret) {s0 s1 s2 s3 s4 : Slot} {x : Int32} (hd : decode bytes pc = .ok (.istore 4, 2)) (ho : o_ok1 s4 = true) (K : o_Go κ Q h k n (pc + 2) [s0, s1, s2, s3, .val (.int x)] St) : o_Go κ Q h k n pc [s0, s1, s2, s3, s4] (.int x :: St) := o_istore B hd rfl ho K
theorem o_istore_7_4 (B : o_Bo κ l Z n0 R y bytes ml ret) {s0 s1 s2 s3 s4 s5 s6 : Slot} {x : Int32} (hd : decode bytes pc = .ok (.istore 4, 2)) (ho : o_ok1 s4 = true) (K : o_Go κ Q h k n (pc + 2) [s0, s1, s2, s3, .val (.int x), s5, s6] St) : o_Go κ Q h k n pc [s0, s1, s2, s3, s4, s5, s6] (.int x :: St) := o_istore B hd rfl ho K
theorem o_istore_7_5 (B : o_Bo κ l Z n0 R y bytes ml ret) {s0 s1 s2 s3 s4 s5 s6 : Slot} {x : Int32} (hd : decode bytes pc = .ok (.istore 5, 2)) (ho : o_ok1 s5 = true) (K : o_Go κ Q h k n (pc + 2) [s0, s1, s2, s3, s4, .val (.int x), s6] St) : o_Go κ Q h k n pc [s0, s1, s2, s3, s4, s5, s6] (.int x :: St) := o_istore B hd rfl ho K
theorem o_istore_8_5 (B : o_Bo κ l Z n0 R y bytes ml ret) {s0 s1 s2 s3 s4 s5 s6 s7 : Slot} {x : Int32} (hd : decode bytes pc = .ok (.istore 5, 2)) (ho : o_ok1 s5 = true) (K : o_Go κ Q h k n (pc + 2) [s0, s1, s2, s3, s4, .val (.int x), s6, s7] St) : o_Go κ Q h k n pc [s0, s1, s2, s3, s4, s5, s6, s7] (.int x :: St) := o_istore B hd rfl ho K
theorem o_istore_8_7 (B : o_Bo κ l Z n0 R y bytes ml ret) {s0 s1 s2 s3 s4 s5 s6 s7 : Slot} {x : Int32} (hd : decode bytes pc = .ok (.istore 7, 2)) (ho : o_ok1 s7 = true) (K : o_Go κ Q h k n (pc + 2) [s0, s1, s2, s3, s4, s5, s6, .val (.int x)] St) : o_Go κ Q h k n pc [s0, s1, s2, s3, s4, s5, s6, s7] (.int x :: St) := o_istore B hd rfl ho K
theorem o_istore_12_8 (B : o_Bo κ l Z n0 R y bytes ml ret) {s0 s1 s2 s3 s4 s5 s6 s7 s8 s9 s10 s11 : Slot} {x : Int32} (hd : decode bytes pc = .ok (.istore 8, 2)) (ho : o_ok1 s8 = true) (K : o_Go κ Q h k n (pc + 2) [s0, s1, s2, s3, s4, s5, s6, s7, .val (.int x), s9, s10, s11] St) : o_Go κ Q h k n pc [s0, s1, s2, s3, s4, s5, s6, s7, s8, s9, s10, s11] (.int x :: St) := o_istore B hd rfl ho K
theorem o_istore_12_9 (B : o_Bo κ l Z n0 R y bytes ml ret) {s0 s1 s2 s3 s4 s5 s6 s7 s8 s9 s10 s11 : Slot} {x : Int32} (hd : decode bytes pc = .ok (.istore 9, 2)) (ho : o_ok1 s9 = true) (K : o_Go κ Q h k n (pc + 2) [s0, s1, s2, s3, s4, s5, s6, s7, s8, .val (.int x), s10, s11] St) : o_Go κ Q h k n pc [s0, s1, s2, s3, s4, s5, s6, s7, s8, s9, s10, s11] (.int x :: St) := o_istore B hd rfl ho K
theorem o_lstoreN_5_3 (B : o_Bo κ l Z n0 R y bytes ml ret) {s0 s1 s2 s3 s4 : Slot} {x : Int64} (hd : decode bytes pc = .ok (.lstore_n 3, 1)) (ho : o_okl s3 s4 = true) (K : o_Go κ Q h k n (pc + 1) [s0, s1, s2, .val (.long x), .second] St) : o_Go κ Q h k n pc [s0, s1, s2, s3, s4] (.long x :: St) := o_lstoreN B hd rfl rfl ho K
theorem o_lstoreN_7_1 (B : o_Bo κ l Z n0 R y bytes ml ret) {s0 s1 s2 s3 s4 s5 s6 : Slot} {x : Int64} (hd : decode bytes pc = .ok (.lstore_n 1, 1)) (ho : o_okl s1 s2 = true) (K : o_Go κ Q h k n (pc + 1) [s0, .val (.long x), .second, s3, s4, s5, s6] St) : o_Go κ Q h k n pc [s0, s1, s2, s3, s4, s5, s6] (.long x :: St) := o_lstoreN B hd rfl rfl ho K
theorem o_lstoreN_8_3 (B : o_Bo κ l Z n0 R y bytes ml ret) {s0 s1 s2 s3 s4 s5 s6 s7 : Slot} {x : Int64} (hd : decode bytes pc = .ok (.lstore_n 3, 1)) (ho : o_okl s3 s4 = true) (K : o_Go κ Q h k n (pc + 1) [s0, s1, s2, .val (.long x), .second, s5, s6, s7] St) : o_Go κ Q h k n pc [s0, s1, s2, s3, s4, s5, s6, s7] (.long x :: St) := o_lstoreN B hd rfl rfl ho K
theorem o_lstore_6_4 (B : o_Bo κ l Z n0 R y bytes ml ret) {s0 s1 s2 s3 s4 s5 : Slot} {x : Int64} (hd : decode bytes pc = .ok (.lstore 4, 2)) (ho : o_okl s4 s5 = true) (K : o_Go κ Q h k n (pc + 2) [s0, s1, s2, s3, .val (.long x), .second] St) : o_Go κ Q h k n pc [s0, s1, s2, s3, s4, s5] (.long x :: St) := o_lstore B hd rfl rfl ho K
theorem o_lstore_7_5 (B : o_Bo κ l Z n0 R y bytes ml ret) {s0 s1 s2 s3 s4 s5 s6 : Slot} {x : Int64} (hd : decode bytes pc = .ok (.lstore 5, 2)) (ho : o_okl s5 s6 = true) (K : o_Go κ Q h k n (pc + 2) [s0, s1, s2, s3, s4, .val (.long x), .second] St) : o_Go κ Q h k n pc [s0, s1, s2, s3, s4, s5, s6] (.long x :: St) := o_lstore B hd rfl rfl ho K
theorem o_lstore_12_5 (B : o_Bo κ l Z n0 R y bytes ml ret) {s0 s1 s2 s3 s4 s5 s6 s7 s8 s9 s10 s11 : Slot} {x : Int64} (hd : decode bytes pc = .ok (.lstore 5, 2)) (ho : o_okl s5 s6 = true) (K : o_Go κ Q h k n (pc + 2) [s0, s1, s2, s3, s4, .val (.long x), .second, s7, s8, s9, s10, s11] St) : o_Go κ Q h k n pc [s0, s1, s2, s3, s4, s5, s6, s7, s8, s9, s10, s11] (.long x :: St) := o_lstore B hd rfl rfl ho K
theorem o_lstore_12_10 (B : o_Bo κ l Z n0 R y bytes ml ret) {s0 s1 s2 s3 s4 s5 s6 s7 s8 s9 s10 s11 : Slot} {x : Int64} (hd : decode bytes pc = .ok (.lstore 10, 2)) (ho : o_okl s10 s11 = true) (K : o_Go κ Q h k n (pc + 2) [s0, s1, s2, s3, s4, s5, s6, s7, s8, s9, .val (.long x), .second] St) : o_Go κ Q h k n pc [s0, s1, s2, s3, s4, s5, s6, s7, s8, s9, s10, s11] (.long x :: St) := o_lstore B hd rfl rfl ho K
end Pats
theorem own_i32n (a : Nat) (h : a < 2 ^ 32) : (Int32.ofNat a).toBitVec.toNat = a := by
  show (BitVec.ofNat 32 a).toNat = a
  rw [BitVec.toNat_ofNat]; exact Nat.mod_eq_of_lt h
theorem own_i64n (a : Nat) (h : a < 2 ^ 64) : (Int64.ofNat a).toBitVec.toNat = a := by
  show (BitVec.ofNat 64 a).toNat = a
  rw [BitVec.toNat_ofNat]; exact Nat.mod_eq_of_lt h
theorem own_pow {j : Nat} (hj : j ≤ 30) : 2 ^ j ≤ 2 ^ 30 ∧ 0 < 2 ^ j := ⟨Nat.pow_le_pow_right (by decide) hj, Nat.two_pow_pos j⟩
theorem own_and (x : Int32) {j : Nat} (hj : j ≤ 30) : x &&& Int32.ofNat (2 ^ j - 1) = Int32.ofNat (x.toBitVec.toNat % 2 ^ j) := by
  obtain ⟨p1, p2⟩ := own_pow hj
  have m := Nat.mod_lt x.toBitVec.toNat p2
  apply Int32.toBitVec_inj.mp; apply BitVec.eq_of_toNat_eq
  rw [Int32.toBitVec_and, BitVec.toNat_and, own_i32n _ (by omega), own_i32n _ (by omega), Nat.and_two_pow_sub_one_eq_mod]
theorem own_andL (x : Int64) {j : Nat} (hj : j ≤ 30) : x &&& Int64.ofNat (2 ^ j - 1) = Int64.ofNat (x.toBitVec.toNat % 2 ^ j) := by
  obtain ⟨p1, p2⟩ := own_pow hj
  have m := Nat.mod_lt x.toBitVec.toNat p2
  apply Int64.toBitVec_inj.mp; apply BitVec.eq_of_toNat_eq
  rw [Int64.toBitVec_and, BitVec.toNat_and, own_i64n _ (by omega), own_i64n _ (by omega), Nat.and_two_pow_sub_one_eq_mod]
theorem own_sub1 {j : Nat} (hj : j ≤ 30) : Int32.ofNat (2 ^ j) - 1 = Int32.ofNat (2 ^ j - 1) := by
  obtain ⟨p1, p2⟩ := own_pow hj
  have e : 2 ^ j = (2 ^ j - 1) + 1 := by omega
  have e2 : Int32.ofNat (2 ^ j) = Int32.ofNat (2 ^ j - 1) + 1 := by
    rw [show (1 : Int32) = Int32.ofNat 1 from rfl, ← Int32.ofNat_add, ← e]
  rw [e2, Int32.add_sub_cancel]
theorem own_toInt {a : Nat} (h : a < 2 ^ 31) : (Int32.ofNat a).toInt = a := Int32.toInt_ofNat_of_lt h
theorem own_one (x : Nat) : Int32.ofNat x + 1 = Int32.ofNat (x + 1) := (Int32.ofNat_add x 1).symm
theorem own_step {x j : Nat} (hj : j ≤ 30) (hx : x < 2 ^ j) : (Int32.ofNat x + 1) &&& Int32.ofNat (2 ^ j - 1) = Int32.ofNat ((x + 1) % 2 ^ j) := by
  obtain ⟨p1, p2⟩ := own_pow hj
  rw [own_one, own_and _ hj, own_i32n _ (by omega)]
theorem own_wide {a : Nat} (h : a < 2 ^ 31) : (Int32.ofNat a).toInt64 = Int64.ofNat a := by
  apply Int64.toInt_inj.mp
  rw [Int32.toInt_toInt64, own_toInt h, Int64.toInt_ofNat_of_lt (by omega)]
theorem own_narrow {a : Nat} (h : a < 2 ^ 31) : (Int64.ofNat a).toInt32 = Int32.ofNat a := by
  apply Int32.toBitVec_inj.mp; apply BitVec.eq_of_toNat_eq
  show ((Int64.ofNat a).toBitVec.signExtend 32).toNat = _
  rw [BitVec.signExtend_eq_setWidth_of_le _ (by decide), BitVec.toNat_setWidth, own_i64n _ (by omega), own_i32n _ (by omega)]
  exact Nat.mod_eq_of_lt (by omega)
theorem own_s1 (key : Int64) {j : Nat} (hj : j ≤ 30) : (key &&& (Int32.ofNat (2 ^ j - 1)).toInt64).toInt32 = Int32.ofNat (key.toBitVec.toNat % 2 ^ j) := by
  obtain ⟨p1, p2⟩ := own_pow hj
  have m := Nat.mod_lt key.toBitVec.toNat p2
  rw [own_wide (by omega), own_andL _ hj, own_narrow (by omega)]
theorem own_s2 (key : Int64) {j : Nat} (hj : j ≤ 30) : key.toInt32 &&& Int32.ofNat (2 ^ j - 1) = Int32.ofNat (key.toBitVec.toNat % 2 ^ j) := by
  rw [own_and _ hj]
  have e : key.toInt32.toBitVec.toNat = key.toBitVec.toNat % 2 ^ 32 := by
    show (key.toBitVec.signExtend 32).toNat = _
    rw [BitVec.signExtend_eq_setWidth_of_le _ (by decide), BitVec.toNat_setWidth]
  rw [e, Nat.mod_mod_of_dvd _ (Nat.pow_dvd_pow 2 (by omega : j ≤ 32))]
theorem own_rem {a b : Nat} (ha : a < 2 ^ 31) (hb : b < 2 ^ 31) : Int32.ofNat a % Int32.ofNat b = Int32.ofNat (a % b) := by
  have hm : a % b ≤ a := Nat.mod_le a b
  apply Int32.toInt_inj.mp
  rw [Int32.toInt_mod, own_toInt ha, own_toInt hb, own_toInt (by omega)]
  exact (Int.ofNat_tmod a b).symm
theorem own_ne0 {a : Nat} (h0 : 0 < a) (ha : a < 2 ^ 31) : Int32.ofNat a ≠ 0 := fun q => by
  have := congrArg Int32.toInt q
  rw [own_toInt ha] at this
  have z : (0 : Int32).toInt = 0 := rfl
  omega
theorem own_nn {a : Nat} (ha : a < 2 ^ 31) : ¬ Int32.ofNat a < 0 := by
  rw [Int32.lt_iff_toInt_lt, own_toInt ha]
  have z : (0 : Int32).toInt = 0 := rfl
  omega
theorem own_ltn {a b : Nat} (ha : a < 2 ^ 31) (hb : b < 2 ^ 31) : Int32.ofNat a < Int32.ofNat b ↔ a < b := by
  rw [Int32.lt_iff_toInt_lt, own_toInt ha, own_toInt hb]; omega
theorem own_inj {a b : Nat} (ha : a < 2 ^ 31) (hb : b < 2 ^ 31) : Int32.ofNat a = Int32.ofNat b ↔ a = b := by
  rw [← Int32.toInt_inj, own_toInt ha, own_toInt hb]; omega
theorem own_least {p : Nat → Prop} (hd : ∀ d, p d ∨ ¬ p d) : ∀ n, (∃ d, d < n ∧ p d) → ∃ d0, d0 < n ∧ p d0 ∧ ∀ d, d < d0 → ¬ p d
  | 0, ⟨d, h, _⟩ => absurd h (Nat.not_lt_zero d)
  | n + 1, ⟨d, h, q⟩ => by
    by_cases e : ∃ d, d < n ∧ p d
    · obtain ⟨d0, h1, h2, h3⟩ := own_least hd n e
      exact ⟨d0, by omega, h2, h3⟩
    · have hdn : d = n := by
        have : ¬ d < n := fun x => e ⟨d, x, q⟩
        omega
      subst hdn
      exact ⟨d, by omega, q, fun x hx px => e ⟨x, hx, px⟩⟩
abbrev own_FS : String := "com/example/one_verdict/oneverdict/check/FingerprintSet"
abbrev own_PT (Z : State) : ClassId → Prop := fun k => OvrA Z k .long "[J"
/-- the set at o: its tables at at_ (t0, t1), its counts at ac -/
def own_Ob (Z : State) (n0 : Nat) (h : Heap) (o ta t0 t1 ac : Addr) (c0 c1 : Nat) (T0 T1 : List Int64) : Prop :=
  n0 ≤ o ∧ n0 ≤ ta ∧ n0 ≤ t0 ∧ n0 ≤ t1 ∧ n0 ≤ ac ∧ o ≠ ta ∧ o ≠ t0 ∧ o ≠ t1 ∧ o ≠ ac ∧ ta ≠ t0 ∧ ta ≠ t1 ∧ ta ≠ ac ∧ t0 ≠ t1 ∧ t0 ≠ ac ∧ t1 ≠ ac ∧
  Exa Z h o own_FS ∧ Fld Z h o own_FS "segmentBits" "I" (.int 1) ∧ Fld Z h o own_FS "tables" "[[J" (.ref ta) ∧ Fld Z h o own_FS "counts" "[I" (.ref ac) ∧
  o_RR Z h ta (.array .long) (own_PT Z) [.ref t0, .ref t1] ∧ o_IA Z h ac [Int32.ofNat c0, Int32.ofNat c1] ∧ o_LA Z h t0 T0 ∧ o_LA Z h t1 T1
section Ob
variable {Z : State} {n0 : Nat} {h h' : Heap} {o ta t0 t1 ac b : Addr} {c0 c1 i : Nat} {T0 T1 L : List Int64} {x : Int64}
theorem own_Ob.p_g0 (O : own_Ob Z n0 h o ta t0 t1 ac c0 c1 T0 T1) : n0 ≤ o := O.1
theorem own_Ob.p_ga (O : own_Ob Z n0 h o ta t0 t1 ac c0 c1 T0 T1) : n0 ≤ ta := O.2.1
theorem own_Ob.p_gt0 (O : own_Ob Z n0 h o ta t0 t1 ac c0 c1 T0 T1) : n0 ≤ t0 := O.2.2.1
theorem own_Ob.p_gt1 (O : own_Ob Z n0 h o ta t0 t1 ac c0 c1 T0 T1) : n0 ≤ t1 := O.2.2.2.1
theorem own_Ob.p_gc (O : own_Ob Z n0 h o ta t0 t1 ac c0 c1 T0 T1) : n0 ≤ ac := O.2.2.2.2.1
theorem own_Ob.p_oa (O : own_Ob Z n0 h o ta t0 t1 ac c0 c1 T0 T1) : o ≠ ta := O.2.2.2.2.2.1
theorem own_Ob.p_ot0 (O : own_Ob Z n0 h o ta t0 t1 ac c0 c1 T0 T1) : o ≠ t0 := O.2.2.2.2.2.2.1
theorem own_Ob.p_ot1 (O : own_Ob Z n0 h o ta t0 t1 ac c0 c1 T0 T1) : o ≠ t1 := O.2.2.2.2.2.2.2.1
theorem own_Ob.p_oc (O : own_Ob Z n0 h o ta t0 t1 ac c0 c1 T0 T1) : o ≠ ac := O.2.2.2.2.2.2.2.2.1
theorem own_Ob.p_at0 (O : own_Ob Z n0 h o ta t0 t1 ac c0 c1 T0 T1) : ta ≠ t0 := O.2.2.2.2.2.2.2.2.2.1
theorem own_Ob.p_at1 (O : own_Ob Z n0 h o ta t0 t1 ac c0 c1 T0 T1) : ta ≠ t1 := O.2.2.2.2.2.2.2.2.2.2.1
theorem own_Ob.p_aac (O : own_Ob Z n0 h o ta t0 t1 ac c0 c1 T0 T1) : ta ≠ ac := O.2.2.2.2.2.2.2.2.2.2.2.1
theorem own_Ob.p_tt (O : own_Ob Z n0 h o ta t0 t1 ac c0 c1 T0 T1) : t0 ≠ t1 := O.2.2.2.2.2.2.2.2.2.2.2.2.1
theorem own_Ob.p_t0c (O : own_Ob Z n0 h o ta t0 t1 ac c0 c1 T0 T1) : t0 ≠ ac := O.2.2.2.2.2.2.2.2.2.2.2.2.2.1
theorem own_Ob.p_t1c (O : own_Ob Z n0 h o ta t0 t1 ac c0 c1 T0 T1) : t1 ≠ ac := O.2.2.2.2.2.2.2.2.2.2.2.2.2.2.1
theorem own_Ob.p_E (O : own_Ob Z n0 h o ta t0 t1 ac c0 c1 T0 T1) : Exa Z h o own_FS := O.2.2.2.2.2.2.2.2.2.2.2.2.2.2.2.1
theorem own_Ob.p_F1 (O : own_Ob Z n0 h o ta t0 t1 ac c0 c1 T0 T1) : Fld Z h o own_FS "segmentBits" "I" (.int 1) := O.2.2.2.2.2.2.2.2.2.2.2.2.2.2.2.2.1
theorem own_Ob.p_F2 (O : own_Ob Z n0 h o ta t0 t1 ac c0 c1 T0 T1) : Fld Z h o own_FS "tables" "[[J" (.ref ta) := O.2.2.2.2.2.2.2.2.2.2.2.2.2.2.2.2.2.1
theorem own_Ob.p_F3 (O : own_Ob Z n0 h o ta t0 t1 ac c0 c1 T0 T1) : Fld Z h o own_FS "counts" "[I" (.ref ac) := O.2.2.2.2.2.2.2.2.2.2.2.2.2.2.2.2.2.2.1
theorem own_Ob.p_AR (O : own_Ob Z n0 h o ta t0 t1 ac c0 c1 T0 T1) : o_RR Z h ta (.array .long) (own_PT Z) [.ref t0, .ref t1] := O.2.2.2.2.2.2.2.2.2.2.2.2.2.2.2.2.2.2.2.1
theorem own_Ob.p_AC (O : own_Ob Z n0 h o ta t0 t1 ac c0 c1 T0 T1) : o_IA Z h ac [Int32.ofNat c0, Int32.ofNat c1] := O.2.2.2.2.2.2.2.2.2.2.2.2.2.2.2.2.2.2.2.2.1
theorem own_Ob.p_A0 (O : own_Ob Z n0 h o ta t0 t1 ac c0 c1 T0 T1) : o_LA Z h t0 T0 := O.2.2.2.2.2.2.2.2.2.2.2.2.2.2.2.2.2.2.2.2.2.1
theorem own_Ob.p_A1 (O : own_Ob Z n0 h o ta t0 t1 ac c0 c1 T0 T1) : o_LA Z h t1 T1 := O.2.2.2.2.2.2.2.2.2.2.2.2.2.2.2.2.2.2.2.2.2.2
theorem own_Ob.ext (O : own_Ob Z n0 h o ta t0 t1 ac c0 c1 T0 T1) (X : Ext h h') : own_Ob Z n0 h' o ta t0 t1 ac c0 c1 T0 T1 := by
  obtain ⟨g0, ga, gt0, gt1, gc, oa, ot0, ot1, oc, at0, at1, aac, tt, t0c, t1c, E, F1, F2, F3, AR, AC, A0, A1⟩ := O
  exact ⟨g0, ga, gt0, gt1, gc, oa, ot0, ot1, oc, at0, at1, aac, tt, t0c, t1c, E.ext X, F1.ext X, F2.ext X, F3.ext X, AR.ext X, AC.ext X, A0.ext X, A1.ext X⟩
theorem own_Ob.keep (O : own_Ob Z n0 h o ta t0 t1 ac c0 c1 T0 T1) (X : Keep h h' []) : own_Ob Z n0 h' o ta t0 t1 ac c0 c1 T0 T1 := by
  obtain ⟨g0, ga, gt0, gt1, gc, oa, ot0, ot1, oc, at0, at1, aac, tt, t0c, t1c, E, F1, F2, F3, AR, AC, A0, A1⟩ := O
  exact ⟨g0, ga, gt0, gt1, gc, oa, ot0, ot1, oc, at0, at1, aac, tt, t0c, t1c, E.keep X, F1.keep X nin0, F2.keep X nin0, F3.keep X nin0, AR.keep X nin0, AC.keep X nin0, A0.keep X nin0, A1.keep X nin0⟩
theorem own_Ob.w0 (O : own_Ob Z n0 h o ta t0 t1 ac c0 c1 T0 T1) (W : Wr h h' t0 i (.long x)) : own_Ob Z n0 h' o ta t0 t1 ac c0 c1 (T0.set i x) T1 := by
  obtain ⟨g0, ga, gt0, gt1, gc, oa, ot0, ot1, oc, at0, at1, aac, tt, t0c, t1c, E, F1, F2, F3, AR, AC, A0, A1⟩ := O
  exact ⟨g0, ga, gt0, gt1, gc, oa, ot0, ot1, oc, at0, at1, aac, tt, t0c, t1c, E.wr W, F1.other W (Or.inl ot0), F2.other W (Or.inl ot0), F3.other W (Or.inl ot0), AR.other W at0, AC.other W (Ne.symm t0c), o_LA.same A0 W, A1.other W (Ne.symm tt)⟩
theorem own_Ob.w1 (O : own_Ob Z n0 h o ta t0 t1 ac c0 c1 T0 T1) (W : Wr h h' t1 i (.long x)) : own_Ob Z n0 h' o ta t0 t1 ac c0 c1 T0 (T1.set i x) := by
  obtain ⟨g0, ga, gt0, gt1, gc, oa, ot0, ot1, oc, at0, at1, aac, tt, t0c, t1c, E, F1, F2, F3, AR, AC, A0, A1⟩ := O
  exact ⟨g0, ga, gt0, gt1, gc, oa, ot0, ot1, oc, at0, at1, aac, tt, t0c, t1c, E.wr W, F1.other W (Or.inl ot1), F2.other W (Or.inl ot1), F3.other W (Or.inl ot1), AR.other W at1, AC.other W (Ne.symm t1c), A0.other W tt, o_LA.same A1 W⟩
theorem own_Ob.cn0 (O : own_Ob Z n0 h o ta t0 t1 ac c0 c1 T0 T1) (W : Wr h h' ac 0 (.int (Int32.ofNat c0 + 1))) : own_Ob Z n0 h' o ta t0 t1 ac (c0 + 1) c1 T0 T1 := by
  obtain ⟨g0, ga, gt0, gt1, gc, oa, ot0, ot1, oc, at0, at1, aac, tt, t0c, t1c, E, F1, F2, F3, AR, AC, A0, A1⟩ := O
  have q := o_IA.same AC W
  have e : [Int32.ofNat c0, Int32.ofNat c1].set 0 (Int32.ofNat c0 + 1) = [Int32.ofNat (c0 + 1), Int32.ofNat c1] := by rw [own_one]; rfl
  rw [e] at q
  exact ⟨g0, ga, gt0, gt1, gc, oa, ot0, ot1, oc, at0, at1, aac, tt, t0c, t1c, E.wr W, F1.other W (Or.inl oc), F2.other W (Or.inl oc), F3.other W (Or.inl oc), AR.other W aac, q, A0.other W t0c, A1.other W t1c⟩
theorem own_Ob.r0 (O : own_Ob Z n0 h o ta t0 t1 ac c0 c1 T0 T1) (gb : n0 ≤ b) (ob : o ≠ b) (ab : ta ≠ b) (bt : b ≠ t1) (bc : b ≠ ac) (B : o_LA Z h b L) (W : Wr h h' ta 0 (.ref b)) : own_Ob Z n0 h' o ta b t1 ac c0 c1 L T1 := by
  obtain ⟨g0, ga, gt0, gt1, gc, oa, ot0, ot1, oc, at0, at1, aac, tt, t0c, t1c, E, F1, F2, F3, AR, AC, A0, A1⟩ := O
  have q : o_RR Z h' ta (.array .long) (own_PT Z) [.ref b, .ref t1] := AR.same W
  exact ⟨g0, ga, gb, gt1, gc, oa, ob, ot1, oc, ab, at1, aac, bt, bc, t1c, E.wr W, F1.other W (Or.inl oa), F2.other W (Or.inl oa), F3.other W (Or.inl oa), q, AC.other W (Ne.symm aac), B.other W (Ne.symm ab), A1.other W (Ne.symm at1)⟩
theorem own_Ob.cn1 (O : own_Ob Z n0 h o ta t0 t1 ac c0 c1 T0 T1) (W : Wr h h' ac 1 (.int (Int32.ofNat c1 + 1))) : own_Ob Z n0 h' o ta t0 t1 ac c0 (c1 + 1) T0 T1 := by
  obtain ⟨g0, ga, gt0, gt1, gc, oa, ot0, ot1, oc, at0, at1, aac, tt, t0c, t1c, E, F1, F2, F3, AR, AC, A0, A1⟩ := O
  have q := o_IA.same AC W
  have e : [Int32.ofNat c0, Int32.ofNat c1].set 1 (Int32.ofNat c1 + 1) = [Int32.ofNat c0, Int32.ofNat (c1 + 1)] := by rw [own_one]; rfl
  rw [e] at q
  exact ⟨g0, ga, gt0, gt1, gc, oa, ot0, ot1, oc, at0, at1, aac, tt, t0c, t1c, E.wr W, F1.other W (Or.inl oc), F2.other W (Or.inl oc), F3.other W (Or.inl oc), AR.other W aac, q, A0.other W t0c, A1.other W t1c⟩
theorem own_Ob.r1 (O : own_Ob Z n0 h o ta t0 t1 ac c0 c1 T0 T1) (gb : n0 ≤ b) (ob : o ≠ b) (ab : ta ≠ b) (bt : b ≠ t0) (bc : b ≠ ac) (B : o_LA Z h b L) (W : Wr h h' ta 1 (.ref b)) : own_Ob Z n0 h' o ta t0 b ac c0 c1 T0 L := by
  obtain ⟨g0, ga, gt0, gt1, gc, oa, ot0, ot1, oc, at0, at1, aac, tt, t0c, t1c, E, F1, F2, F3, AR, AC, A0, A1⟩ := O
  have q : o_RR Z h' ta (.array .long) (own_PT Z) [.ref t0, .ref b] := AR.same W
  exact ⟨g0, ga, gt0, gb, gc, oa, ot0, ob, oc, at0, ab, aac, Ne.symm bt, t0c, bc, E.wr W, F1.other W (Or.inl oa), F2.other W (Or.inl oa), F3.other W (Or.inl oa), q, AC.other W (Ne.symm aac), A0.other W (Ne.symm at0), B.other W (Ne.symm ab)⟩
end Ob
theorem own_mapL {L : List Int64} {i : Nat} {x : Int64} (q : L[i]? = some x) : (L.map Value.long)[i]? = some (.long x) := by rw [List.getElem?_map, q]; rfl
theorem own_mltL {L : List Int64} {i : Nat} (q : i < L.length) : i < (L.map Value.long).length := by rw [List.length_map]; exact q
/-- entry i of T is free or holds the key -/
def own_H (T : List Int64) (key : Int64) (i : Nat) : Prop := ∃ x, T[i]? = some x ∧ (x = 0 ∨ x = key)
theorem own_H.dec (T : List Int64) (key : Int64) (i : Nat) : own_H T key i ∨ ¬ own_H T key i := Classical.em _
theorem own_at {T : List Int64} {i n : Nat} (hT : T.length = n) (hi : i < n) : ∃ x, T[i]? = some x ∧ (T.map Value.long)[i]? = some (.long x) := by
  subst hT
  exact ⟨T[i], List.getElem?_eq_getElem hi, by rw [List.getElem?_map, List.getElem?_eq_getElem hi]; rfl⟩
def own_nz : List Int64 → Nat
  | [] => 0
  | x :: r => own_nz r + (if x = 0 then 0 else 1)
theorem own_nz_set (x : Int64) : ∀ (G : List Int64) (i : Nat), own_nz (G.set i x) ≤ own_nz G + 1
  | [], _ => by simp [own_nz]
  | y :: r, 0 => by simp only [List.set, own_nz]; split <;> split <;> omega
  | y :: r, i + 1 => by have := own_nz_set x r i; simp only [List.set, own_nz]; omega
theorem own_nz_free : ∀ G : List Int64, own_nz G < G.length → ∃ i, i < G.length ∧ G[i]? = some 0
  | [], h => by simp [own_nz] at h
  | y :: r, h => by
    by_cases e : y = 0
    · exact ⟨0, by simp, by rw [e]; rfl⟩
    · simp only [own_nz, e, if_false, List.length_cons] at h
      obtain ⟨i, h1, h2⟩ := own_nz_free r (by omega)
      exact ⟨i + 1, by simp; omega, by simpa using h2⟩
theorem own_nz_rep : ∀ n, own_nz (List.replicate n 0) = 0
  | 0 => rfl
  | n + 1 => by simp [List.replicate, own_nz, own_nz_rep n]
theorem own_find {T : List Int64} {j : Nat} (key : Int64) (hT : T.length = 2 ^ j) (hf : own_nz T < 2 ^ j) : ∃ d0, own_H T key ((key.toBitVec.toNat % 2 ^ j + d0) % 2 ^ j) ∧ ∀ d, d < d0 → ¬ own_H T key ((key.toBitVec.toNat % 2 ^ j + d) % 2 ^ j) := by
  have pp : 0 < 2 ^ j := Nat.two_pow_pos j
  obtain ⟨F, f1, f2⟩ := own_nz_free T (by omega)
  have hS := Nat.mod_lt key.toBitVec.toNat pp
  obtain ⟨d0, -, q1, q2⟩ := own_least (p := fun d => own_H T key ((key.toBitVec.toNat % 2 ^ j + d) % 2 ^ j)) (fun d => own_H.dec _ _ _) (2 ^ j) ⟨(F + 2 ^ j - key.toBitVec.toNat % 2 ^ j) % 2 ^ j, Nat.mod_lt _ pp, by
    show own_H T key ((key.toBitVec.toNat % 2 ^ j + (F + 2 ^ j - key.toBitVec.toNat % 2 ^ j) % 2 ^ j) % 2 ^ j)
    rw [Nat.add_mod_mod, show key.toBitVec.toNat % 2 ^ j + (F + 2 ^ j - key.toBitVec.toNat % 2 ^ j) = F + 2 ^ j by omega, Nat.add_mod_right, Nat.mod_eq_of_lt (by omega)]
    exact ⟨0, f2, Or.inl rfl⟩⟩
  exact ⟨d0, q1, q2⟩
theorem pn0 : plainFor Jvm.Pilot.@@N@@.x = true := by first | exact plainFor_of_name (by first | (simp [x, plainName, overriddenIn]; done) | decide +kernel) | decide +kernel
theorem d1_0 : decode prog_6_method_1_code 0 = .ok (.aload_n 0, 1) := by decide +kernel
theorem d1_1 : decode prog_6_method_1_code 1 = .ok (.invokespecial 1, 3) := by decide +kernel
theorem d1_4 : decode prog_6_method_1_code 4 = .ok (.aload_n 0, 1) := by decide +kernel
theorem d1_5 : decode prog_6_method_1_code 5 = .ok (.iconst 1, 1) := by decide +kernel
theorem d1_6 : decode prog_6_method_1_code 6 = .ok (.putfield 7, 3) := by decide +kernel
theorem d1_9 : decode prog_6_method_1_code 9 = .ok (.aload_n 0, 1) := by decide +kernel
theorem d1_10 : decode prog_6_method_1_code 10 = .ok (.iconst 2, 1) := by decide +kernel
theorem d1_11 : decode prog_6_method_1_code 11 = .ok (.anewarray 13, 3) := by decide +kernel
theorem d1_14 : decode prog_6_method_1_code 14 = .ok (.dup, 1) := by decide +kernel
theorem d1_15 : decode prog_6_method_1_code 15 = .ok (.iconst 0, 1) := by decide +kernel
theorem d1_16 : decode prog_6_method_1_code 16 = .ok (.bipush 16, 2) := by decide +kernel
theorem d1_18 : decode prog_6_method_1_code 18 = .ok (.newarray .long, 2) := by decide +kernel
theorem d1_20 : decode prog_6_method_1_code 20 = .ok (.aastore, 1) := by decide +kernel
theorem d1_21 : decode prog_6_method_1_code 21 = .ok (.dup, 1) := by decide +kernel
theorem d1_22 : decode prog_6_method_1_code 22 = .ok (.iconst 1, 1) := by decide +kernel
theorem d1_23 : decode prog_6_method_1_code 23 = .ok (.bipush 16, 2) := by decide +kernel
theorem d1_25 : decode prog_6_method_1_code 25 = .ok (.newarray .long, 2) := by decide +kernel
theorem d1_27 : decode prog_6_method_1_code 27 = .ok (.aastore, 1) := by decide +kernel
theorem d1_28 : decode prog_6_method_1_code 28 = .ok (.putfield 15, 3) := by decide +kernel
theorem d1_31 : decode prog_6_method_1_code 31 = .ok (.aload_n 0, 1) := by decide +kernel
theorem d1_32 : decode prog_6_method_1_code 32 = .ok (.aload_n 0, 1) := by decide +kernel
theorem d1_33 : decode prog_6_method_1_code 33 = .ok (.getfield 15, 3) := by decide +kernel
theorem d1_36 : decode prog_6_method_1_code 36 = .ok (.arraylength, 1) := by decide +kernel
theorem d1_37 : decode prog_6_method_1_code 37 = .ok (.newarray .int, 2) := by decide +kernel
theorem d1_39 : decode prog_6_method_1_code 39 = .ok (.putfield 19, 3) := by decide +kernel
theorem d1_42 : decode prog_6_method_1_code 42 = .ok (.aload_n 0, 1) := by decide +kernel
theorem d1_43 : decode prog_6_method_1_code 43 = .ok (.iconst 0, 1) := by decide +kernel
theorem d1_44 : decode prog_6_method_1_code 44 = .ok (.newarray .long, 2) := by decide +kernel
theorem d1_46 : decode prog_6_method_1_code 46 = .ok (.putfield 23, 3) := by decide +kernel
theorem d1_49 : decode prog_6_method_1_code 49 = .ok (.ldc2_w 26, 3) := by decide +kernel
theorem d1_52 : decode prog_6_method_1_code 52 = .ok (.lload_n 1, 1) := by decide +kernel
theorem d1_53 : decode prog_6_method_1_code 53 = .ok (.ldc2_w 30, 3) := by decide +kernel
theorem d1_56 : decode prog_6_method_1_code 56 = .ok (.ldiv, 1) := by decide +kernel
theorem d1_57 : decode prog_6_method_1_code 57 = .ok (.invokestatic 32, 3) := by decide +kernel
theorem d1_60 : decode prog_6_method_1_code 60 = .ok (.lstore_n 3, 1) := by decide +kernel
theorem d1_61 : decode prog_6_method_1_code 61 = .ok (.aload_n 0, 1) := by decide +kernel
theorem d1_62 : decode prog_6_method_1_code 62 = .ok (.bipush 20, 2) := by decide +kernel
theorem d1_64 : decode prog_6_method_1_code 64 = .ok (.bipush 63, 2) := by decide +kernel
theorem d1_66 : decode prog_6_method_1_code 66 = .ok (.lload_n 3, 1) := by decide +kernel
theorem d1_67 : decode prog_6_method_1_code 67 = .ok (.invokestatic 38, 3) := by decide +kernel
theorem d1_70 : decode prog_6_method_1_code 70 = .ok (.isub, 1) := by decide +kernel
theorem d1_71 : decode prog_6_method_1_code 71 = .ok (.invokestatic 42, 3) := by decide +kernel
theorem d1_74 : decode prog_6_method_1_code 74 = .ok (.putfield 46, 3) := by decide +kernel
theorem d1_77 : decode prog_6_method_1_code 77 = .ok (.return_, 1) := by decide +kernel
abbrev oy1 : MethodName := ⟨"com/example/one_verdict/oneverdict/check/FingerprintSet", "<init>", "(J)V"⟩
theorem pn1 : plainFor oy1 = true := by first | exact plainFor_of_name (by first | (simp [plainName, overriddenIn]; done) | decide +kernel) | decide +kernel
theorem pd1 : parseMethodDescriptor oy1.desc = some ⟨[.long], none⟩ := by decide +kernel
theorem d3_0 : decode jdk_29_method_66_code 0 = .ok (.lload_n 0, 1) := by decide +kernel
theorem d3_1 : decode jdk_29_method_66_code 1 = .ok (.lload_n 2, 1) := by decide +kernel
theorem d3_2 : decode jdk_29_method_66_code 2 = .ok (.lcmp, 1) := by decide +kernel
theorem d3_3 : decode jdk_29_method_66_code 3 = .ok (.ifCond .lt 7, 3) := by decide +kernel
theorem d3_6 : decode jdk_29_method_66_code 6 = .ok (.lload_n 0, 1) := by decide +kernel
theorem d3_7 : decode jdk_29_method_66_code 7 = .ok (.goto 4, 3) := by decide +kernel
theorem d3_10 : decode jdk_29_method_66_code 10 = .ok (.lload_n 2, 1) := by decide +kernel
theorem d3_11 : decode jdk_29_method_66_code 11 = .ok (.lreturn, 1) := by decide +kernel
abbrev oy3 : MethodName := ⟨"java/lang/Math", "max", "(JJ)J"⟩
theorem pn3 : plainFor oy3 = true := by first | exact plainFor_of_name (by first | (simp [plainName, overriddenIn]; done) | decide +kernel) | decide +kernel
theorem pd3 : parseMethodDescriptor oy3.desc = some ⟨[.long, .long], some .long⟩ := by decide +kernel
theorem d4_0 : decode jdk_35_method_48_code 0 = .ok (.lload_n 0, 1) := by decide +kernel
theorem d4_1 : decode jdk_35_method_48_code 1 = .ok (.bipush 32, 2) := by decide +kernel
theorem d4_3 : decode jdk_35_method_48_code 3 = .ok (.lushr, 1) := by decide +kernel
theorem d4_4 : decode jdk_35_method_48_code 4 = .ok (.l2i, 1) := by decide +kernel
theorem d4_5 : decode jdk_35_method_48_code 5 = .ok (.istore_n 2, 1) := by decide +kernel
theorem d4_6 : decode jdk_35_method_48_code 6 = .ok (.iload_n 2, 1) := by decide +kernel
theorem d4_7 : decode jdk_35_method_48_code 7 = .ok (.ifCond .ne 14, 3) := by decide +kernel
theorem d4_10 : decode jdk_35_method_48_code 10 = .ok (.bipush 32, 2) := by decide +kernel
theorem d4_12 : decode jdk_35_method_48_code 12 = .ok (.lload_n 0, 1) := by decide +kernel
theorem d4_13 : decode jdk_35_method_48_code 13 = .ok (.l2i, 1) := by decide +kernel
theorem d4_14 : decode jdk_35_method_48_code 14 = .ok (.invokestatic 308, 3) := by decide +kernel
theorem d4_17 : decode jdk_35_method_48_code 17 = .ok (.iadd, 1) := by decide +kernel
theorem d4_18 : decode jdk_35_method_48_code 18 = .ok (.goto 7, 3) := by decide +kernel
theorem d4_21 : decode jdk_35_method_48_code 21 = .ok (.iload_n 2, 1) := by decide +kernel
theorem d4_22 : decode jdk_35_method_48_code 22 = .ok (.invokestatic 308, 3) := by decide +kernel
theorem d4_25 : decode jdk_35_method_48_code 25 = .ok (.ireturn, 1) := by decide +kernel
abbrev oy4 : MethodName := ⟨"java/lang/Long", "numberOfLeadingZeros", "(J)I"⟩
theorem pn4 : plainFor oy4 = true := by first | exact plainFor_of_name (by first | (simp [plainName, overriddenIn]; done) | decide +kernel) | decide +kernel
theorem pd4 : parseMethodDescriptor oy4.desc = some ⟨[.long], some .int⟩ := by decide +kernel
theorem d5_0 : decode jdk_33_method_47_code 0 = .ok (.iload_n 0, 1) := by decide +kernel
theorem d5_1 : decode jdk_33_method_47_code 1 = .ok (.ifCond .gt 14, 3) := by decide +kernel
theorem d5_4 : decode jdk_33_method_47_code 4 = .ok (.iload_n 0, 1) := by decide +kernel
theorem d5_5 : decode jdk_33_method_47_code 5 = .ok (.ifCond .ne 8, 3) := by decide +kernel
theorem d5_8 : decode jdk_33_method_47_code 8 = .ok (.bipush 32, 2) := by decide +kernel
theorem d5_10 : decode jdk_33_method_47_code 10 = .ok (.goto 4, 3) := by decide +kernel
theorem d5_13 : decode jdk_33_method_47_code 13 = .ok (.iconst 0, 1) := by decide +kernel
theorem d5_14 : decode jdk_33_method_47_code 14 = .ok (.ireturn, 1) := by decide +kernel
theorem d5_15 : decode jdk_33_method_47_code 15 = .ok (.bipush 31, 2) := by decide +kernel
theorem d5_17 : decode jdk_33_method_47_code 17 = .ok (.istore_n 1, 1) := by decide +kernel
theorem d5_18 : decode jdk_33_method_47_code 18 = .ok (.iload_n 0, 1) := by decide +kernel
theorem d5_19 : decode jdk_33_method_47_code 19 = .ok (.ldc_w 264, 3) := by decide +kernel
theorem d5_22 : decode jdk_33_method_47_code 22 = .ok (.if_icmp .lt 11, 3) := by decide +kernel
theorem d5_25 : decode jdk_33_method_47_code 25 = .ok (.iinc 1 (-16), 3) := by decide +kernel
theorem d5_28 : decode jdk_33_method_47_code 28 = .ok (.iload_n 0, 1) := by decide +kernel
theorem d5_29 : decode jdk_33_method_47_code 29 = .ok (.bipush 16, 2) := by decide +kernel
theorem d5_31 : decode jdk_33_method_47_code 31 = .ok (.iushr, 1) := by decide +kernel
theorem d5_32 : decode jdk_33_method_47_code 32 = .ok (.istore_n 0, 1) := by decide +kernel
theorem d5_33 : decode jdk_33_method_47_code 33 = .ok (.iload_n 0, 1) := by decide +kernel
theorem d5_34 : decode jdk_33_method_47_code 34 = .ok (.sipush 256, 3) := by decide +kernel
theorem d5_37 : decode jdk_33_method_47_code 37 = .ok (.if_icmp .lt 11, 3) := by decide +kernel
theorem d5_40 : decode jdk_33_method_47_code 40 = .ok (.iinc 1 (-8), 3) := by decide +kernel
theorem d5_43 : decode jdk_33_method_47_code 43 = .ok (.iload_n 0, 1) := by decide +kernel
theorem d5_44 : decode jdk_33_method_47_code 44 = .ok (.bipush 8, 2) := by decide +kernel
theorem d5_46 : decode jdk_33_method_47_code 46 = .ok (.iushr, 1) := by decide +kernel
theorem d5_47 : decode jdk_33_method_47_code 47 = .ok (.istore_n 0, 1) := by decide +kernel
theorem d5_48 : decode jdk_33_method_47_code 48 = .ok (.iload_n 0, 1) := by decide +kernel
theorem d5_49 : decode jdk_33_method_47_code 49 = .ok (.bipush 16, 2) := by decide +kernel
theorem d5_51 : decode jdk_33_method_47_code 51 = .ok (.if_icmp .lt 10, 3) := by decide +kernel
theorem d5_54 : decode jdk_33_method_47_code 54 = .ok (.iinc 1 (-4), 3) := by decide +kernel
theorem d5_57 : decode jdk_33_method_47_code 57 = .ok (.iload_n 0, 1) := by decide +kernel
theorem d5_58 : decode jdk_33_method_47_code 58 = .ok (.iconst 4, 1) := by decide +kernel
theorem d5_59 : decode jdk_33_method_47_code 59 = .ok (.iushr, 1) := by decide +kernel
theorem d5_60 : decode jdk_33_method_47_code 60 = .ok (.istore_n 0, 1) := by decide +kernel
theorem d5_61 : decode jdk_33_method_47_code 61 = .ok (.iload_n 0, 1) := by decide +kernel
theorem d5_62 : decode jdk_33_method_47_code 62 = .ok (.iconst 4, 1) := by decide +kernel
theorem d5_63 : decode jdk_33_method_47_code 63 = .ok (.if_icmp .lt 10, 3) := by decide +kernel
theorem d5_66 : decode jdk_33_method_47_code 66 = .ok (.iinc 1 (-2), 3) := by decide +kernel
theorem d5_69 : decode jdk_33_method_47_code 69 = .ok (.iload_n 0, 1) := by decide +kernel
theorem d5_70 : decode jdk_33_method_47_code 70 = .ok (.iconst 2, 1) := by decide +kernel
theorem d5_71 : decode jdk_33_method_47_code 71 = .ok (.iushr, 1) := by decide +kernel
theorem d5_72 : decode jdk_33_method_47_code 72 = .ok (.istore_n 0, 1) := by decide +kernel
theorem d5_73 : decode jdk_33_method_47_code 73 = .ok (.iload_n 1, 1) := by decide +kernel
theorem d5_74 : decode jdk_33_method_47_code 74 = .ok (.iload_n 0, 1) := by decide +kernel
theorem d5_75 : decode jdk_33_method_47_code 75 = .ok (.iconst 1, 1) := by decide +kernel
theorem d5_76 : decode jdk_33_method_47_code 76 = .ok (.iushr, 1) := by decide +kernel
theorem d5_77 : decode jdk_33_method_47_code 77 = .ok (.isub, 1) := by decide +kernel
theorem d5_78 : decode jdk_33_method_47_code 78 = .ok (.ireturn, 1) := by decide +kernel
abbrev oy5 : MethodName := ⟨"java/lang/Integer", "numberOfLeadingZeros", "(I)I"⟩
theorem pn5 : plainFor oy5 = true := by first | exact plainFor_of_name (by first | (simp [plainName, overriddenIn]; done) | decide +kernel) | decide +kernel
theorem pd5 : parseMethodDescriptor oy5.desc = some ⟨[.int], some .int⟩ := by decide +kernel
theorem d6_0 : decode jdk_29_method_69_code 0 = .ok (.iload_n 0, 1) := by decide +kernel
theorem d6_1 : decode jdk_29_method_69_code 1 = .ok (.iload_n 1, 1) := by decide +kernel
theorem d6_2 : decode jdk_29_method_69_code 2 = .ok (.if_icmp .gt 7, 3) := by decide +kernel
theorem d6_5 : decode jdk_29_method_69_code 5 = .ok (.iload_n 0, 1) := by decide +kernel
theorem d6_6 : decode jdk_29_method_69_code 6 = .ok (.goto 4, 3) := by decide +kernel
theorem d6_9 : decode jdk_29_method_69_code 9 = .ok (.iload_n 1, 1) := by decide +kernel
theorem d6_10 : decode jdk_29_method_69_code 10 = .ok (.ireturn, 1) := by decide +kernel
abbrev oy6 : MethodName := ⟨"java/lang/Math", "min", "(II)I"⟩
theorem pn6 : plainFor oy6 = true := by first | exact plainFor_of_name (by first | (simp [plainName, overriddenIn]; done) | decide +kernel) | decide +kernel
theorem pd6 : parseMethodDescriptor oy6.desc = some ⟨[.int, .int], some .int⟩ := by decide +kernel
theorem d7_0 : decode method_2_code 0 = .ok (.iload_n 2, 1) := by decide +kernel
theorem d7_1 : decode method_2_code 1 = .ok (.iload_n 3, 1) := by decide +kernel
theorem d7_2 : decode method_2_code 2 = .ok (.iconst 1, 1) := by decide +kernel
theorem d7_3 : decode method_2_code 3 = .ok (.isub, 1) := by decide +kernel
theorem d7_4 : decode method_2_code 4 = .ok (.iushr, 1) := by decide +kernel
theorem d7_5 : decode method_2_code 5 = .ok (.iconst 1, 1) := by decide +kernel
theorem d7_6 : decode method_2_code 6 = .ok (.iand, 1) := by decide +kernel
theorem d7_7 : decode method_2_code 7 = .ok (.ifCond .eq 9, 3) := by decide +kernel
theorem d7_10 : decode method_2_code 10 = .ok (.ldc2_w 9, 3) := by decide +kernel
theorem d7_13 : decode method_2_code 13 = .ok (.goto 4, 3) := by decide +kernel
theorem d7_16 : decode method_2_code 16 = .ok (.lconst 0, 1) := by decide +kernel
theorem d7_17 : decode method_2_code 17 = .ok (.lstore 4, 2) := by decide +kernel
theorem d7_19 : decode method_2_code 19 = .ok (.lload 4, 2) := by decide +kernel
theorem d7_21 : decode method_2_code 21 = .ok (.lload_n 0, 1) := by decide +kernel
theorem d7_22 : decode method_2_code 22 = .ok (.lor, 1) := by decide +kernel
theorem d7_23 : decode method_2_code 23 = .ok (.iload_n 3, 1) := by decide +kernel
theorem d7_24 : decode method_2_code 24 = .ok (.i2l, 1) := by decide +kernel
theorem d7_25 : decode method_2_code 25 = .ok (.lor, 1) := by decide +kernel
theorem d7_26 : decode method_2_code 26 = .ok (.lreturn, 1) := by decide +kernel
abbrev oy7 : MethodName := ⟨"com/example/one_verdict/oneverdict/check/FingerprintSetSlotsPinLaw", "fp", "(JII)J"⟩
theorem pn7 : plainFor oy7 = true := by first | exact plainFor_of_name (by first | (simp [plainName, overriddenIn]; done) | decide +kernel) | decide +kernel
theorem pd7 : parseMethodDescriptor oy7.desc = some ⟨[.long, .int, .int], some .long⟩ := by decide +kernel
theorem d8_0 : decode prog_6_method_5_code 0 = .ok (.lload_n 1, 1) := by decide +kernel
theorem d8_1 : decode prog_6_method_5_code 1 = .ok (.invokestatic 49, 3) := by decide +kernel
theorem d8_4 : decode prog_6_method_5_code 4 = .ok (.lstore_n 3, 1) := by decide +kernel
theorem d8_5 : decode prog_6_method_5_code 5 = .ok (.lload_n 3, 1) := by decide +kernel
theorem d8_6 : decode prog_6_method_5_code 6 = .ok (.aload_n 0, 1) := by decide +kernel
theorem d8_7 : decode prog_6_method_5_code 7 = .ok (.getfield 7, 3) := by decide +kernel
theorem d8_10 : decode prog_6_method_5_code 10 = .ok (.invokestatic 53, 3) := by decide +kernel
theorem d8_13 : decode prog_6_method_5_code 13 = .ok (.istore 5, 2) := by decide +kernel
theorem d8_15 : decode prog_6_method_5_code 15 = .ok (.aload_n 0, 1) := by decide +kernel
theorem d8_16 : decode prog_6_method_5_code 16 = .ok (.getfield 15, 3) := by decide +kernel
theorem d8_19 : decode prog_6_method_5_code 19 = .ok (.iload 5, 2) := by decide +kernel
theorem d8_21 : decode prog_6_method_5_code 21 = .ok (.aaload, 1) := by decide +kernel
theorem d8_22 : decode prog_6_method_5_code 22 = .ok (.astore 6, 2) := by decide +kernel
theorem d8_24 : decode prog_6_method_5_code 24 = .ok (.aload 6, 2) := by decide +kernel
theorem d8_26 : decode prog_6_method_5_code 26 = .ok (.lload_n 3, 1) := by decide +kernel
theorem d8_27 : decode prog_6_method_5_code 27 = .ok (.invokestatic 57, 3) := by decide +kernel
theorem d8_30 : decode prog_6_method_5_code 30 = .ok (.istore 7, 2) := by decide +kernel
theorem d8_32 : decode prog_6_method_5_code 32 = .ok (.aload 6, 2) := by decide +kernel
theorem d8_34 : decode prog_6_method_5_code 34 = .ok (.iload 7, 2) := by decide +kernel
theorem d8_36 : decode prog_6_method_5_code 36 = .ok (.laload, 1) := by decide +kernel
theorem d8_37 : decode prog_6_method_5_code 37 = .ok (.lload_n 3, 1) := by decide +kernel
theorem d8_38 : decode prog_6_method_5_code 38 = .ok (.lcmp, 1) := by decide +kernel
theorem d8_39 : decode prog_6_method_5_code 39 = .ok (.ifCond .ne 5, 3) := by decide +kernel
theorem d8_42 : decode prog_6_method_5_code 42 = .ok (.iconst 0, 1) := by decide +kernel
theorem d8_43 : decode prog_6_method_5_code 43 = .ok (.ireturn, 1) := by decide +kernel
theorem d8_44 : decode prog_6_method_5_code 44 = .ok (.aload 6, 2) := by decide +kernel
theorem d8_46 : decode prog_6_method_5_code 46 = .ok (.iload 7, 2) := by decide +kernel
theorem d8_48 : decode prog_6_method_5_code 48 = .ok (.lload_n 3, 1) := by decide +kernel
theorem d8_49 : decode prog_6_method_5_code 49 = .ok (.lastore, 1) := by decide +kernel
theorem d8_50 : decode prog_6_method_5_code 50 = .ok (.aload_n 0, 1) := by decide +kernel
theorem d8_51 : decode prog_6_method_5_code 51 = .ok (.getfield 19, 3) := by decide +kernel
theorem d8_54 : decode prog_6_method_5_code 54 = .ok (.iload 5, 2) := by decide +kernel
theorem d8_56 : decode prog_6_method_5_code 56 = .ok (.dup2, 1) := by decide +kernel
theorem d8_57 : decode prog_6_method_5_code 57 = .ok (.iaload, 1) := by decide +kernel
theorem d8_58 : decode prog_6_method_5_code 58 = .ok (.iconst 1, 1) := by decide +kernel
theorem d8_59 : decode prog_6_method_5_code 59 = .ok (.iadd, 1) := by decide +kernel
theorem d8_60 : decode prog_6_method_5_code 60 = .ok (.iastore, 1) := by decide +kernel
theorem d8_61 : decode prog_6_method_5_code 61 = .ok (.aload_n 0, 1) := by decide +kernel
theorem d8_62 : decode prog_6_method_5_code 62 = .ok (.getfield 19, 3) := by decide +kernel
theorem d8_65 : decode prog_6_method_5_code 65 = .ok (.iload 5, 2) := by decide +kernel
theorem d8_67 : decode prog_6_method_5_code 67 = .ok (.iaload, 1) := by decide +kernel
theorem d8_68 : decode prog_6_method_5_code 68 = .ok (.aload 6, 2) := by decide +kernel
theorem d8_70 : decode prog_6_method_5_code 70 = .ok (.arraylength, 1) := by decide +kernel
theorem d8_71 : decode prog_6_method_5_code 71 = .ok (.invokestatic 65, 3) := by decide +kernel
theorem d8_74 : decode prog_6_method_5_code 74 = .ok (.ifCond .eq 48, 3) := by decide +kernel
theorem d8_77 : decode prog_6_method_5_code 77 = .ok (.aload 6, 2) := by decide +kernel
theorem d8_79 : decode prog_6_method_5_code 79 = .ok (.arraylength, 1) := by decide +kernel
theorem d8_80 : decode prog_6_method_5_code 80 = .ok (.ldc 69, 2) := by decide +kernel
theorem d8_82 : decode prog_6_method_5_code 82 = .ok (.if_icmp .ge 18, 3) := by decide +kernel
theorem d8_85 : decode prog_6_method_5_code 85 = .ok (.aload_n 0, 1) := by decide +kernel
theorem d8_86 : decode prog_6_method_5_code 86 = .ok (.getfield 15, 3) := by decide +kernel
theorem d8_89 : decode prog_6_method_5_code 89 = .ok (.iload 5, 2) := by decide +kernel
theorem d8_91 : decode prog_6_method_5_code 91 = .ok (.aload 6, 2) := by decide +kernel
theorem d8_93 : decode prog_6_method_5_code 93 = .ok (.invokestatic 70, 3) := by decide +kernel
theorem d8_96 : decode prog_6_method_5_code 96 = .ok (.aastore, 1) := by decide +kernel
theorem d8_97 : decode prog_6_method_5_code 97 = .ok (.goto 25, 3) := by decide +kernel
theorem d8_100 : decode prog_6_method_5_code 100 = .ok (.aload_n 0, 1) := by decide +kernel
theorem d8_101 : decode prog_6_method_5_code 101 = .ok (.getfield 7, 3) := by decide +kernel
theorem d8_104 : decode prog_6_method_5_code 104 = .ok (.aload_n 0, 1) := by decide +kernel
theorem d8_105 : decode prog_6_method_5_code 105 = .ok (.getfield 46, 3) := by decide +kernel
theorem d8_108 : decode prog_6_method_5_code 108 = .ok (.if_icmp .ge 10, 3) := by decide +kernel
theorem d8_111 : decode prog_6_method_5_code 111 = .ok (.aload_n 0, 1) := by decide +kernel
theorem d8_112 : decode prog_6_method_5_code 112 = .ok (.invokevirtual 74, 3) := by decide +kernel
theorem d8_115 : decode prog_6_method_5_code 115 = .ok (.goto 7, 3) := by decide +kernel
theorem d8_118 : decode prog_6_method_5_code 118 = .ok (.aload_n 0, 1) := by decide +kernel
theorem d8_119 : decode prog_6_method_5_code 119 = .ok (.invokevirtual 77, 3) := by decide +kernel
theorem d8_122 : decode prog_6_method_5_code 122 = .ok (.iconst 1, 1) := by decide +kernel
theorem d8_123 : decode prog_6_method_5_code 123 = .ok (.ireturn, 1) := by decide +kernel
abbrev oy8 : MethodName := ⟨"com/example/one_verdict/oneverdict/check/FingerprintSet", "add", "(J)Z"⟩
theorem pn8 : plainFor oy8 = true := by first | exact plainFor_of_name (by first | (simp [plainName, overriddenIn]; done) | decide +kernel) | decide +kernel
theorem pd8 : parseMethodDescriptor oy8.desc = some ⟨[.long], some .boolean⟩ := by decide +kernel
theorem d9_0 : decode prog_6_method_9_code 0 = .ok (.lload_n 0, 1) := by decide +kernel
theorem d9_1 : decode prog_6_method_9_code 1 = .ok (.lconst 0, 1) := by decide +kernel
theorem d9_2 : decode prog_6_method_9_code 2 = .ok (.lcmp, 1) := by decide +kernel
theorem d9_3 : decode prog_6_method_9_code 3 = .ok (.ifCond .ne 9, 3) := by decide +kernel
theorem d9_6 : decode prog_6_method_9_code 6 = .ok (.ldc2_w 108, 3) := by decide +kernel
theorem d9_9 : decode prog_6_method_9_code 9 = .ok (.goto 4, 3) := by decide +kernel
theorem d9_12 : decode prog_6_method_9_code 12 = .ok (.lload_n 0, 1) := by decide +kernel
theorem d9_13 : decode prog_6_method_9_code 13 = .ok (.lreturn, 1) := by decide +kernel
abbrev oy9 : MethodName := ⟨"com/example/one_verdict/oneverdict/check/FingerprintSet", "key", "(J)J"⟩
theorem pn9 : plainFor oy9 = true := by first | exact plainFor_of_name (by first | (simp [plainName, overriddenIn]; done) | decide +kernel) | decide +kernel
theorem pd9 : parseMethodDescriptor oy9.desc = some ⟨[.long], some .long⟩ := by decide +kernel
theorem d10_0 : decode prog_6_method_13_code 0 = .ok (.lload_n 0, 1) := by decide +kernel
theorem d10_1 : decode prog_6_method_13_code 1 = .ok (.ldc2_w 114, 3) := by decide +kernel
theorem d10_4 : decode prog_6_method_13_code 4 = .ok (.lxor, 1) := by decide +kernel
theorem d10_5 : decode prog_6_method_13_code 5 = .ok (.bipush 64, 2) := by decide +kernel
theorem d10_7 : decode prog_6_method_13_code 7 = .ok (.iload_n 2, 1) := by decide +kernel
theorem d10_8 : decode prog_6_method_13_code 8 = .ok (.isub, 1) := by decide +kernel
theorem d10_9 : decode prog_6_method_13_code 9 = .ok (.lushr, 1) := by decide +kernel
theorem d10_10 : decode prog_6_method_13_code 10 = .ok (.l2i, 1) := by decide +kernel
theorem d10_11 : decode prog_6_method_13_code 11 = .ok (.ireturn, 1) := by decide +kernel
abbrev oy10 : MethodName := ⟨"com/example/one_verdict/oneverdict/check/FingerprintSet", "segmentOf", "(JI)I"⟩
theorem pn10 : plainFor oy10 = true := by first | exact plainFor_of_name (by first | (simp [plainName, overriddenIn]; done) | decide +kernel) | decide +kernel
theorem pd10 : parseMethodDescriptor oy10.desc = some ⟨[.long, .int], some .int⟩ := by decide +kernel
theorem d11_0 : decode prog_6_method_10_code 0 = .ok (.aload_n 0, 1) := by decide +kernel
theorem d11_1 : decode prog_6_method_10_code 1 = .ok (.arraylength, 1) := by decide +kernel
theorem d11_2 : decode prog_6_method_10_code 2 = .ok (.iconst 1, 1) := by decide +kernel
theorem d11_3 : decode prog_6_method_10_code 3 = .ok (.isub, 1) := by decide +kernel
theorem d11_4 : decode prog_6_method_10_code 4 = .ok (.istore_n 3, 1) := by decide +kernel
theorem d11_5 : decode prog_6_method_10_code 5 = .ok (.lload_n 1, 1) := by decide +kernel
theorem d11_6 : decode prog_6_method_10_code 6 = .ok (.l2i, 1) := by decide +kernel
theorem d11_7 : decode prog_6_method_10_code 7 = .ok (.iload_n 3, 1) := by decide +kernel
theorem d11_8 : decode prog_6_method_10_code 8 = .ok (.iand, 1) := by decide +kernel
theorem d11_9 : decode prog_6_method_10_code 9 = .ok (.istore 4, 2) := by decide +kernel
theorem d11_11 : decode prog_6_method_10_code 11 = .ok (.aload_n 0, 1) := by decide +kernel
theorem d11_12 : decode prog_6_method_10_code 12 = .ok (.iload 4, 2) := by decide +kernel
theorem d11_14 : decode prog_6_method_10_code 14 = .ok (.laload, 1) := by decide +kernel
theorem d11_15 : decode prog_6_method_10_code 15 = .ok (.lconst 0, 1) := by decide +kernel
theorem d11_16 : decode prog_6_method_10_code 16 = .ok (.lcmp, 1) := by decide +kernel
theorem d11_17 : decode prog_6_method_10_code 17 = .ok (.ifCond .eq 23, 3) := by decide +kernel
theorem d11_20 : decode prog_6_method_10_code 20 = .ok (.aload_n 0, 1) := by decide +kernel
theorem d11_21 : decode prog_6_method_10_code 21 = .ok (.iload 4, 2) := by decide +kernel
theorem d11_23 : decode prog_6_method_10_code 23 = .ok (.laload, 1) := by decide +kernel
theorem d11_24 : decode prog_6_method_10_code 24 = .ok (.lload_n 1, 1) := by decide +kernel
theorem d11_25 : decode prog_6_method_10_code 25 = .ok (.lcmp, 1) := by decide +kernel
theorem d11_26 : decode prog_6_method_10_code 26 = .ok (.ifCond .eq 14, 3) := by decide +kernel
theorem d11_29 : decode prog_6_method_10_code 29 = .ok (.iload 4, 2) := by decide +kernel
theorem d11_31 : decode prog_6_method_10_code 31 = .ok (.iconst 1, 1) := by decide +kernel
theorem d11_32 : decode prog_6_method_10_code 32 = .ok (.iadd, 1) := by decide +kernel
theorem d11_33 : decode prog_6_method_10_code 33 = .ok (.iload_n 3, 1) := by decide +kernel
theorem d11_34 : decode prog_6_method_10_code 34 = .ok (.iand, 1) := by decide +kernel
theorem d11_35 : decode prog_6_method_10_code 35 = .ok (.istore 4, 2) := by decide +kernel
theorem d11_37 : decode prog_6_method_10_code 37 = .ok (.goto (-26), 3) := by decide +kernel
theorem d11_40 : decode prog_6_method_10_code 40 = .ok (.iload 4, 2) := by decide +kernel
theorem d11_42 : decode prog_6_method_10_code 42 = .ok (.ireturn, 1) := by decide +kernel
abbrev oy11 : MethodName := ⟨"com/example/one_verdict/oneverdict/check/FingerprintSet", "slot", "([JJ)I"⟩
theorem pn11 : plainFor oy11 = true := by first | exact plainFor_of_name (by first | (simp [plainName, overriddenIn]; done) | decide +kernel) | decide +kernel
theorem pd11 : parseMethodDescriptor oy11.desc = some ⟨[(.array .long), .long], some .int⟩ := by decide +kernel
theorem d12_0 : decode prog_6_method_11_code 0 = .ok (.ldc2_w 110, 3) := by decide +kernel
theorem d12_3 : decode prog_6_method_11_code 3 = .ok (.iload_n 0, 1) := by decide +kernel
theorem d12_4 : decode prog_6_method_11_code 4 = .ok (.i2l, 1) := by decide +kernel
theorem d12_5 : decode prog_6_method_11_code 5 = .ok (.lmul, 1) := by decide +kernel
theorem d12_6 : decode prog_6_method_11_code 6 = .ok (.ldc2_w 112, 3) := by decide +kernel
theorem d12_9 : decode prog_6_method_11_code 9 = .ok (.iload_n 1, 1) := by decide +kernel
theorem d12_10 : decode prog_6_method_11_code 10 = .ok (.i2l, 1) := by decide +kernel
theorem d12_11 : decode prog_6_method_11_code 11 = .ok (.lmul, 1) := by decide +kernel
theorem d12_12 : decode prog_6_method_11_code 12 = .ok (.lcmp, 1) := by decide +kernel
theorem d12_13 : decode prog_6_method_11_code 13 = .ok (.ifCond .le 7, 3) := by decide +kernel
theorem d12_16 : decode prog_6_method_11_code 16 = .ok (.iconst 1, 1) := by decide +kernel
theorem d12_17 : decode prog_6_method_11_code 17 = .ok (.goto 4, 3) := by decide +kernel
theorem d12_20 : decode prog_6_method_11_code 20 = .ok (.iconst 0, 1) := by decide +kernel
theorem d12_21 : decode prog_6_method_11_code 21 = .ok (.ireturn, 1) := by decide +kernel
abbrev oy12 : MethodName := ⟨"com/example/one_verdict/oneverdict/check/FingerprintSet", "isCrowded", "(II)Z"⟩
theorem pn12 : plainFor oy12 = true := by first | exact plainFor_of_name (by first | (simp [plainName, overriddenIn]; done) | decide +kernel) | decide +kernel
theorem pd12 : parseMethodDescriptor oy12.desc = some ⟨[.int, .int], some .boolean⟩ := by decide +kernel
theorem d13_0 : decode prog_6_method_14_code 0 = .ok (.iconst 2, 1) := by decide +kernel
theorem d13_1 : decode prog_6_method_14_code 1 = .ok (.aload_n 0, 1) := by decide +kernel
theorem d13_2 : decode prog_6_method_14_code 2 = .ok (.arraylength, 1) := by decide +kernel
theorem d13_3 : decode prog_6_method_14_code 3 = .ok (.imul, 1) := by decide +kernel
theorem d13_4 : decode prog_6_method_14_code 4 = .ok (.newarray .long, 2) := by decide +kernel
theorem d13_6 : decode prog_6_method_14_code 6 = .ok (.astore_n 1, 1) := by decide +kernel
theorem d13_7 : decode prog_6_method_14_code 7 = .ok (.aload_n 0, 1) := by decide +kernel
theorem d13_8 : decode prog_6_method_14_code 8 = .ok (.astore_n 2, 1) := by decide +kernel
theorem d13_9 : decode prog_6_method_14_code 9 = .ok (.aload_n 2, 1) := by decide +kernel
theorem d13_10 : decode prog_6_method_14_code 10 = .ok (.arraylength, 1) := by decide +kernel
theorem d13_11 : decode prog_6_method_14_code 11 = .ok (.istore_n 3, 1) := by decide +kernel
theorem d13_12 : decode prog_6_method_14_code 12 = .ok (.iconst 0, 1) := by decide +kernel
theorem d13_13 : decode prog_6_method_14_code 13 = .ok (.istore 4, 2) := by decide +kernel
theorem d13_15 : decode prog_6_method_14_code 15 = .ok (.iload 4, 2) := by decide +kernel
theorem d13_17 : decode prog_6_method_14_code 17 = .ok (.iload_n 3, 1) := by decide +kernel
theorem d13_18 : decode prog_6_method_14_code 18 = .ok (.if_icmp .ge 32, 3) := by decide +kernel
theorem d13_21 : decode prog_6_method_14_code 21 = .ok (.aload_n 2, 1) := by decide +kernel
theorem d13_22 : decode prog_6_method_14_code 22 = .ok (.iload 4, 2) := by decide +kernel
theorem d13_24 : decode prog_6_method_14_code 24 = .ok (.laload, 1) := by decide +kernel
theorem d13_25 : decode prog_6_method_14_code 25 = .ok (.lstore 5, 2) := by decide +kernel
theorem d13_27 : decode prog_6_method_14_code 27 = .ok (.lload 5, 2) := by decide +kernel
theorem d13_29 : decode prog_6_method_14_code 29 = .ok (.lconst 0, 1) := by decide +kernel
theorem d13_30 : decode prog_6_method_14_code 30 = .ok (.lcmp, 1) := by decide +kernel
theorem d13_31 : decode prog_6_method_14_code 31 = .ok (.ifCond .eq 13, 3) := by decide +kernel
theorem d13_34 : decode prog_6_method_14_code 34 = .ok (.aload_n 1, 1) := by decide +kernel
theorem d13_35 : decode prog_6_method_14_code 35 = .ok (.aload_n 1, 1) := by decide +kernel
theorem d13_36 : decode prog_6_method_14_code 36 = .ok (.lload 5, 2) := by decide +kernel
theorem d13_38 : decode prog_6_method_14_code 38 = .ok (.invokestatic 57, 3) := by decide +kernel
theorem d13_41 : decode prog_6_method_14_code 41 = .ok (.lload 5, 2) := by decide +kernel
theorem d13_43 : decode prog_6_method_14_code 43 = .ok (.lastore, 1) := by decide +kernel
theorem d13_44 : decode prog_6_method_14_code 44 = .ok (.iinc 4 1, 3) := by decide +kernel
theorem d13_47 : decode prog_6_method_14_code 47 = .ok (.goto (-32), 3) := by decide +kernel
theorem d13_50 : decode prog_6_method_14_code 50 = .ok (.aload_n 1, 1) := by decide +kernel
theorem d13_51 : decode prog_6_method_14_code 51 = .ok (.areturn, 1) := by decide +kernel
abbrev oy13 : MethodName := ⟨"com/example/one_verdict/oneverdict/check/FingerprintSet", "grown", "([J)[J"⟩
theorem pn13 : plainFor oy13 = true := by first | exact plainFor_of_name (by first | (simp [plainName, overriddenIn]; done) | decide +kernel) | decide +kernel
theorem pd13 : parseMethodDescriptor oy13.desc = some ⟨[(.array .long)], some (.array .long)⟩ := by decide +kernel
theorem d14_0 : decode prog_6_method_4_code 0 = .ok (.lconst 0, 1) := by decide +kernel
theorem d14_1 : decode prog_6_method_4_code 1 = .ok (.lstore_n 1, 1) := by decide +kernel
theorem d14_2 : decode prog_6_method_4_code 2 = .ok (.aload_n 0, 1) := by decide +kernel
theorem d14_3 : decode prog_6_method_4_code 3 = .ok (.getfield 15, 3) := by decide +kernel
theorem d14_6 : decode prog_6_method_4_code 6 = .ok (.astore_n 3, 1) := by decide +kernel
theorem d14_7 : decode prog_6_method_4_code 7 = .ok (.aload_n 3, 1) := by decide +kernel
theorem d14_8 : decode prog_6_method_4_code 8 = .ok (.arraylength, 1) := by decide +kernel
theorem d14_9 : decode prog_6_method_4_code 9 = .ok (.istore 4, 2) := by decide +kernel
theorem d14_11 : decode prog_6_method_4_code 11 = .ok (.iconst 0, 1) := by decide +kernel
theorem d14_12 : decode prog_6_method_4_code 12 = .ok (.istore 5, 2) := by decide +kernel
theorem d14_14 : decode prog_6_method_4_code 14 = .ok (.iload 5, 2) := by decide +kernel
theorem d14_16 : decode prog_6_method_4_code 16 = .ok (.iload 4, 2) := by decide +kernel
theorem d14_18 : decode prog_6_method_4_code 18 = .ok (.if_icmp .ge 22, 3) := by decide +kernel
theorem d14_21 : decode prog_6_method_4_code 21 = .ok (.aload_n 3, 1) := by decide +kernel
theorem d14_22 : decode prog_6_method_4_code 22 = .ok (.iload 5, 2) := by decide +kernel
theorem d14_24 : decode prog_6_method_4_code 24 = .ok (.aaload, 1) := by decide +kernel
theorem d14_25 : decode prog_6_method_4_code 25 = .ok (.astore 6, 2) := by decide +kernel
theorem d14_27 : decode prog_6_method_4_code 27 = .ok (.lload_n 1, 1) := by decide +kernel
theorem d14_28 : decode prog_6_method_4_code 28 = .ok (.aload 6, 2) := by decide +kernel
theorem d14_30 : decode prog_6_method_4_code 30 = .ok (.arraylength, 1) := by decide +kernel
theorem d14_31 : decode prog_6_method_4_code 31 = .ok (.i2l, 1) := by decide +kernel
theorem d14_32 : decode prog_6_method_4_code 32 = .ok (.ladd, 1) := by decide +kernel
theorem d14_33 : decode prog_6_method_4_code 33 = .ok (.lstore_n 1, 1) := by decide +kernel
theorem d14_34 : decode prog_6_method_4_code 34 = .ok (.iinc 5 1, 3) := by decide +kernel
theorem d14_37 : decode prog_6_method_4_code 37 = .ok (.goto (-23), 3) := by decide +kernel
theorem d14_40 : decode prog_6_method_4_code 40 = .ok (.lload_n 1, 1) := by decide +kernel
theorem d14_41 : decode prog_6_method_4_code 41 = .ok (.lreturn, 1) := by decide +kernel
abbrev oy14 : MethodName := ⟨"com/example/one_verdict/oneverdict/check/FingerprintSet", "slots", "()J"⟩
theorem pn14 : plainFor oy14 = true := by first | exact plainFor_of_name (by first | (simp [plainName, overriddenIn]; done) | decide +kernel) | decide +kernel
theorem pd14 : parseMethodDescriptor oy14.desc = some ⟨[], some .long⟩ := by decide +kernel
abbrev orm3 : Room := { frames := 0, cells := 0, slots := 0, locals := 0 }
abbrev orm5 : Room := { frames := 0, cells := 0, slots := 0, locals := 0 }
abbrev orm4 : Room := { frames := 1, cells := 0, slots := 0, locals := 20 }
abbrev orm6 : Room := { frames := 0, cells := 0, slots := 0, locals := 0 }
abbrev orm1 : Room := { frames := 2, cells := 5, slots := 36, locals := 40 }
abbrev orm7 : Room := { frames := 0, cells := 0, slots := 0, locals := 0 }
abbrev orm9 : Room := { frames := 0, cells := 0, slots := 0, locals := 0 }
abbrev orm10 : Room := { frames := 0, cells := 0, slots := 0, locals := 0 }
abbrev orm11 : Room := { frames := 0, cells := 0, slots := 0, locals := 0 }
abbrev orm12 : Room := { frames := 0, cells := 0, slots := 0, locals := 0 }
abbrev orm13 : Room := { frames := 1, cells := 1, slots := 32, locals := 20 }
abbrev orm14 : Room := { frames := 0, cells := 0, slots := 0, locals := 0 }
abbrev orm8 : Room := { frames := 1, cells := 0, slots := 0, locals := 24 }
abbrev orm8g : Room := { frames := 2, cells := 1, slots := 32, locals := 48 }
set_option maxRecDepth 65536 in
set_option maxHeartbeats 40000000 in
theorem oc3 (l : Launch) (Z : State) (a0 : Array Value) (hw : ∀ d ∈ tables_1, d.before a0 Z = true) (n0 : Nat) (h : Heap) (a b : Int64) : o_C l Z n0 oy3 jdk_29_method_66_code 4 (some .long) orm3 [(.long a), (.long b)] h (fun v h' => (∃ m : Int64, v = some (.long m)) ∧ h' = h) := by
  refine o_body (Ls := [.val (.long a), .second, .val (.long b), .second]) pn3 (by first | (simp [argsToLocals, Value.category]; done) | rfl) (fun κ B => ?_)
  refine o_lloadN (pc := 0) B d3_0 rfl ?_
  refine o_lloadN (pc := 1) B d3_1 rfl ?_
  refine o_lcmp (pc := 2) B d3_2 ?_
  refine o_lif_lt (pc := 3) (pc' := 10) B d3_3 (by decide) (by decide) (fun hc3 => ?_) (fun hc3 => ?_)
  · refine o_lloadN (pc := 10) B d3_10 rfl ?_
    exact o_lreturn (pc := 11) B d3_11 (by decide) (by decide) (⟨⟨_, rfl⟩, rfl⟩)
  refine o_lloadN (pc := 6) B d3_6 rfl ?_
  refine o_goto (pc := 7) (pc' := 11) B d3_7 (by decide) (by decide) ?_
  exact o_lreturn (pc := 11) B d3_11 (by decide) (by decide) (⟨⟨_, rfl⟩, rfl⟩)
set_option maxRecDepth 65536 in
set_option maxHeartbeats 40000000 in
theorem oc6 (l : Launch) (Z : State) (a0 : Array Value) (hw : ∀ d ∈ tables_1, d.before a0 Z = true) (n0 : Nat) (h : Heap) (a b : Int32) : o_C l Z n0 oy6 jdk_29_method_69_code 2 (some .int) orm6 [(.int a), (.int b)] h (fun v h' => (∃ m : Int32, v = some (.int m)) ∧ h' = h) := by
  refine o_body (Ls := [.val (.int a), .val (.int b)]) pn6 (by first | (simp [argsToLocals, Value.category]; done) | rfl) (fun κ B => ?_)
  refine o_iloadN (pc := 0) B d6_0 rfl ?_
  refine o_iloadN (pc := 1) B d6_1 rfl ?_
  refine o_icmp_gt (pc := 2) (pc' := 9) B d6_2 (by decide) (by decide) (fun hc2 => ?_) (fun hc2 => ?_)
  · refine o_iloadN (pc := 9) B d6_9 rfl ?_
    exact o_ireturn (pc := 10) B d6_10 (by decide) (by decide) (⟨⟨_, rfl⟩, rfl⟩)
  refine o_iloadN (pc := 5) B d6_5 rfl ?_
  refine o_goto (pc := 6) (pc' := 10) B d6_6 (by decide) (by decide) ?_
  exact o_ireturn (pc := 10) B d6_10 (by decide) (by decide) (⟨⟨_, rfl⟩, rfl⟩)
set_option maxRecDepth 65536 in
set_option maxHeartbeats 40000000 in
theorem oc5 (l : Launch) (Z : State) (a0 : Array Value) (hw : ∀ d ∈ tables_1, d.before a0 Z = true) (n0 : Nat) (h : Heap) (a : Int32) : o_C l Z n0 oy5 jdk_33_method_47_code 2 (some .int) orm5 [(.int a)] h (fun v h' => (∃ m : Int32, v = some (.int m)) ∧ h' = h) := by
  refine o_body (Ls := [.val (.int a), .unset]) pn5 (by first | (simp [argsToLocals, Value.category]; done) | rfl) (fun κ B => ?_)
  have T73 : ∀ x n : Int32, o_Go κ (fun v h' => (∃ m : Int32, v = some (.int m)) ∧ h' = h) h 0 0 73 [.val (.int x), .val (.int n)] [] := by
    intro x n
    refine o_iloadN (pc := 73) B d5_73 rfl ?_
    refine o_iloadN (pc := 74) B d5_74 rfl ?_
    refine o_iconst (pc := 75) B (1 : Int32) d5_75 (by decide) ?_
    refine o_iushr (pc := 76) B d5_76 ?_
    refine o_isub (pc := 77) B d5_77 ?_
    exact o_ireturn (pc := 78) B d5_78 (by decide) (by decide) (⟨⟨_, rfl⟩, rfl⟩)
  have T61 : ∀ x n : Int32, o_Go κ (fun v h' => (∃ m : Int32, v = some (.int m)) ∧ h' = h) h 0 0 61 [.val (.int x), .val (.int n)] [] := by
    intro x n
    refine o_iloadN (pc := 61) B d5_61 rfl ?_
    refine o_iconst (pc := 62) B (4 : Int32) d5_62 (by decide) ?_
    refine o_icmp_lt (pc := 63) (pc' := 73) B d5_63 (by decide) (by decide) (fun hc63 => ?_) (fun hc63 => ?_)
    · exact T73 _ _
    refine o_iinc_2_1 (pc := 66) B (-2 : Int32) _ d5_66 (by decide) rfl ?_
    refine o_iloadN (pc := 69) B d5_69 rfl ?_
    refine o_iconst (pc := 70) B (2 : Int32) d5_70 (by decide) ?_
    refine o_iushr (pc := 71) B d5_71 ?_
    refine o_istoreN_2_0 (pc := 72) B d5_72 rfl ?_
    exact T73 _ _
  have T48 : ∀ x n : Int32, o_Go κ (fun v h' => (∃ m : Int32, v = some (.int m)) ∧ h' = h) h 0 0 48 [.val (.int x), .val (.int n)] [] := by
    intro x n
    refine o_iloadN (pc := 48) B d5_48 rfl ?_
    refine o_bipush (pc := 49) B (16 : Int32) d5_49 (by decide) ?_
    refine o_icmp_lt (pc := 51) (pc' := 61) B d5_51 (by decide) (by decide) (fun hc51 => ?_) (fun hc51 => ?_)
    · exact T61 _ _
    refine o_iinc_2_1 (pc := 54) B (-4 : Int32) _ d5_54 (by decide) rfl ?_
    refine o_iloadN (pc := 57) B d5_57 rfl ?_
    refine o_iconst (pc := 58) B (4 : Int32) d5_58 (by decide) ?_
    refine o_iushr (pc := 59) B d5_59 ?_
    refine o_istoreN_2_0 (pc := 60) B d5_60 rfl ?_
    exact T61 _ _
  have T33 : ∀ x n : Int32, o_Go κ (fun v h' => (∃ m : Int32, v = some (.int m)) ∧ h' = h) h 0 0 33 [.val (.int x), .val (.int n)] [] := by
    intro x n
    refine o_iloadN (pc := 33) B d5_33 rfl ?_
    refine o_sipush (pc := 34) B (256 : Int32) d5_34 (by decide) ?_
    refine o_icmp_lt (pc := 37) (pc' := 48) B d5_37 (by decide) (by decide) (fun hc37 => ?_) (fun hc37 => ?_)
    · exact T48 _ _
    refine o_iinc_2_1 (pc := 40) B (-8 : Int32) _ d5_40 (by decide) rfl ?_
    refine o_iloadN (pc := 43) B d5_43 rfl ?_
    refine o_bipush (pc := 44) B (8 : Int32) d5_44 (by decide) ?_
    refine o_iushr (pc := 46) B d5_46 ?_
    refine o_istoreN_2_0 (pc := 47) B d5_47 rfl ?_
    exact T48 _ _
  have T18 : ∀ x n : Int32, o_Go κ (fun v h' => (∃ m : Int32, v = some (.int m)) ∧ h' = h) h 0 0 18 [.val (.int x), .val (.int n)] [] := by
    intro x n
    refine o_iloadN (pc := 18) B d5_18 rfl ?_
    refine o_ldc_w (pc := 19) B (x := (65536 : Int32)) d5_19 (hw _ (List.mem_of_getElem? (i := 37) rfl)) ?_
    refine o_icmp_lt (pc := 22) (pc' := 33) B d5_22 (by decide) (by decide) (fun hc22 => ?_) (fun hc22 => ?_)
    · exact T33 _ _
    refine o_iinc_2_1 (pc := 25) B (-16 : Int32) _ d5_25 (by decide) rfl ?_
    refine o_iloadN (pc := 28) B d5_28 rfl ?_
    refine o_bipush (pc := 29) B (16 : Int32) d5_29 (by decide) ?_
    refine o_iushr (pc := 31) B d5_31 ?_
    refine o_istoreN_2_0 (pc := 32) B d5_32 rfl ?_
    exact T33 _ _
  refine o_iloadN (pc := 0) B d5_0 rfl ?_
  refine o_if_gt (pc := 1) (pc' := 15) B d5_1 (by decide) (by decide) (fun hc1 => ?_) (fun hc1 => ?_)
  · refine o_bipush (pc := 15) B (31 : Int32) d5_15 (by decide) ?_
    refine o_istoreN_2_1 (pc := 17) B d5_17 rfl ?_
    exact T18 _ _
  refine o_iloadN (pc := 4) B d5_4 rfl ?_
  refine o_if_ne (pc := 5) (pc' := 13) B d5_5 (by decide) (by decide) (fun hc5 => ?_) (fun hc5 => ?_)
  · refine o_iconst (pc := 13) B (0 : Int32) d5_13 (by decide) ?_
    exact o_ireturn (pc := 14) B d5_14 (by decide) (by decide) (⟨⟨_, rfl⟩, rfl⟩)
  refine o_bipush (pc := 8) B (32 : Int32) d5_8 (by decide) ?_
  refine o_goto (pc := 10) (pc' := 14) B d5_10 (by decide) (by decide) ?_
  exact o_ireturn (pc := 14) B d5_14 (by decide) (by decide) (⟨⟨_, rfl⟩, rfl⟩)
set_option maxRecDepth 65536 in
set_option maxHeartbeats 40000000 in
theorem oc4 (l : Launch) (Z : State) (a0 : Array Value) (hw : ∀ d ∈ tables_1, d.before a0 Z = true) (n0 : Nat) (h : Heap) (a : Int64) : o_C l Z n0 oy4 jdk_35_method_48_code 3 (some .int) orm4 [(.long a)] h (fun v h' => (∃ m : Int32, v = some (.int m)) ∧ h' = h) := by
  refine o_body (Ls := [.val (.long a), .second, .unset]) pn4 (by first | (simp [argsToLocals, Value.category]; done) | rfl) (fun κ B => ?_)
  refine o_lloadN (pc := 0) B d4_0 rfl ?_
  refine o_bipush (pc := 1) B (32 : Int32) d4_1 (by decide) ?_
  refine o_lushr (pc := 3) B d4_3 ?_
  refine o_l2i (pc := 4) B d4_4 ?_
  refine o_istoreN_3_2 (pc := 5) B d4_5 rfl ?_
  refine o_iloadN (pc := 6) B d4_6 rfl ?_
  refine o_if_ne (pc := 7) (pc' := 21) B d4_7 (by decide) (by decide) (fun hc7 => ?_) (fun hc7 => ?_)
  · refine o_iloadN (pc := 21) B d4_21 rfl ?_
    refine o_callS1 (pc := 22) B 0 d4_22 (hw _ (List.mem_of_getElem? (i := 33) rfl)) (hw _ (List.mem_of_getElem? (i := 34) rfl)) (hw _ (List.mem_of_getElem? (i := 35) rfl)) (hw _ (List.mem_of_getElem? (i := 36) rfl)) (by decide) pd5 rfl (by first | exact Nat.zero_le _ | exact Nat.le_of_ble_eq_true rfl | simp [Value.category]) (by decide) (by decide) (by decide) (by decide) rfl (oc5 l Z a0 hw n0 _ _) ?_
    rintro v h' ⟨⟨m, rfl⟩, rfl⟩
    exact o_ireturn (pc := 25) B d4_25 (by decide) (by decide) (⟨⟨_, rfl⟩, rfl⟩)
  refine o_bipush (pc := 10) B (32 : Int32) d4_10 (by decide) ?_
  refine o_lloadN (pc := 12) B d4_12 rfl ?_
  refine o_l2i (pc := 13) B d4_13 ?_
  refine o_callS1 (pc := 14) B 1 d4_14 (hw _ (List.mem_of_getElem? (i := 33) rfl)) (hw _ (List.mem_of_getElem? (i := 34) rfl)) (hw _ (List.mem_of_getElem? (i := 35) rfl)) (hw _ (List.mem_of_getElem? (i := 36) rfl)) (by decide) pd5 rfl (by first | exact Nat.zero_le _ | exact Nat.le_of_ble_eq_true rfl | simp [Value.category]) (by decide) (by decide) (by decide) (by decide) rfl (oc5 l Z a0 hw n0 _ _) ?_
  rintro v h' ⟨⟨m, rfl⟩, rfl⟩
  refine o_iadd (pc := 17) B d4_17 ?_
  refine o_goto (pc := 18) (pc' := 25) B d4_18 (by decide) (by decide) ?_
  exact o_ireturn (pc := 25) B d4_25 (by decide) (by decide) (⟨⟨_, rfl⟩, rfl⟩)
set_option maxRecDepth 65536 in
set_option maxHeartbeats 40000000 in
theorem oc1 (l : Launch) (Z : State) (a0 : Array Value) (hw : ∀ d ∈ tables_1, d.before a0 Z = true) (n0 : Nat) (h : Heap) (o : Addr) (bytes : Int64) (u2 u3 u4 : Value) (u1 u5 : Value) (go : n0 ≤ o) (Z0 : n0 ≤ h.size) (E : Exa Z h o own_FS) (F1 : Fld Z h o own_FS "segmentBits" "I" u1) (F2 : Fld Z h o own_FS "tables" "[[J" u2) (F3 : Fld Z h o own_FS "counts" "[I" u3) (F4 : Fld Z h o own_FS "blockStarts" "[J" u4) (F5 : Fld Z h o own_FS "mostSegmentBits" "I" u5) : o_C l Z n0 oy1 prog_6_method_1_code 5 none orm1 [(.ref o), (.long bytes)] h (fun v h' => v = none ∧ ∃ ta t0 t1 ac, own_Ob Z n0 h' o ta t0 t1 ac 0 0 (List.replicate 16 0) (List.replicate 16 0)) := by
  refine o_body (Ls := [.val (.ref o), .val (.long bytes), .second, .unset, .unset]) pn1 (by first | (simp [argsToLocals, Value.category]; done) | rfl) (fun κ B => ?_)
  have lto := o_lt E.lt
  refine o_aloadN (pc := 0) B d1_0 rfl rfl ?_
  refine o_initO (pc := 1) B (W := 0) d1_1 (hw _ (List.mem_of_getElem? (i := 7) rfl)) (hw _ (List.mem_of_getElem? (i := 8) rfl)) (hw _ (List.mem_of_getElem? (i := 9) rfl)) (by decide) (by first | exact Nat.zero_le _ | exact Nat.le_of_ble_eq_true rfl | simp [Value.category]) (by decide) rfl ?_
  refine o_aloadN (pc := 4) B d1_4 rfl rfl ?_
  refine o_iconst (pc := 5) B (1 : Int32) d1_5 (by decide) ?_
  refine o_putF (pc := 6) (ty := .int) B d1_6 (hw _ (List.mem_of_getElem? (i := 10) rfl)) (F1) (E) (Or.inl (hw _ (List.mem_of_getElem? (i := 11) rfl))) (hw _ (List.mem_of_getElem? (i := 2) rfl)) (by decide) rfl rfl (go) ?_
  intro h1 W1
  have z1 := W1.size
  have E1 := E.wr W1
  have F1_1 := F1.same W1
  have F2_1 := F2.other W1 (Or.inr (slot_ne (C := own_FS) (Or.inl (hw _ (List.mem_of_getElem? (i := 17) rfl))) (Or.inl (hw _ (List.mem_of_getElem? (i := 11) rfl))) (by decide) (by decide : parseFieldDescriptor "[[J" = some (.array (.array .long))) (by decide : parseFieldDescriptor "I" = some .int)))
  have F3_1 := F3.other W1 (Or.inr (slot_ne (C := own_FS) (Or.inl (hw _ (List.mem_of_getElem? (i := 20) rfl))) (Or.inl (hw _ (List.mem_of_getElem? (i := 11) rfl))) (by decide) (by decide : parseFieldDescriptor "[I" = some (.array .int)) (by decide : parseFieldDescriptor "I" = some .int)))
  have F4_1 := F4.other W1 (Or.inr (slot_ne (C := own_FS) (Or.inl (hw _ (List.mem_of_getElem? (i := 22) rfl))) (Or.inl (hw _ (List.mem_of_getElem? (i := 11) rfl))) (by decide) (by decide : parseFieldDescriptor "[J" = some (.array .long)) (by decide : parseFieldDescriptor "I" = some .int)))
  have F5_1 := F5.other W1 (Or.inr (slot_ne (C := own_FS) (Or.inr (hw _ (List.mem_of_getElem? (i := 42) rfl))) (Or.inl (hw _ (List.mem_of_getElem? (i := 11) rfl))) (by decide) (by decide : parseFieldDescriptor "I" = some .int) (by decide : parseFieldDescriptor "I" = some .int)))
  refine o_aloadN (pc := 9) B d1_9 rfl rfl ?_
  refine o_iconst (pc := 10) B (2 : Int32) d1_10 (by decide) ?_
  refine o_anewA (pc := 11) B (C := "[J") (ad := "[[J") (ty := .long) (2) (2) (by decide) (by decide) d1_11 (hw _ (List.mem_of_getElem? (i := 12) rfl)) (hw _ (List.mem_of_getElem? (i := 13) rfl)) (by decide) (by decide) (by decide) (by decide) (by decide) ?_
  intro h2 X2 lt2 R2 _
  obtain ⟨ta, ga, ea⟩ : ∃ a, n0 ≤ a ∧ a = h1.size := ⟨_, (by omega), rfl⟩
  rw [← ea] at R2 ⊢
  have R2' : o_RR Z h2 ta (.array .long) (own_PT Z) [.null, .null] := R2
  have lta := o_lt R2'.lt
  refine o_dup (pc := 14) B d1_14 rfl ?_
  refine o_iconst (pc := 15) B (0 : Int32) d1_15 (by decide) ?_
  refine o_bipush (pc := 16) B (16 : Int32) d1_16 (by decide) ?_
  refine o_newarrayE (pc := 18) B (ad := "[J") (16) (16) (by decide) d1_18 (hw _ (List.mem_of_getElem? (i := 14) rfl)) (by decide) (by first | decide | omega) (by first | decide | omega) (by decide) (by decide) ?_
  intro h3 X3 lt3 A3 E3
  obtain ⟨t0, g0, e0⟩ : ∃ a, n0 ≤ a ∧ a = h2.size := ⟨_, (by omega), rfl⟩
  rw [← e0] at A3 E3 ⊢
  have A3' : o_LA Z h3 t0 (List.replicate 16 0) := A3
  have lt0 := o_lt A3'.lt
  refine o_aastore (pc := 20) B (0) rfl d1_20 (R2'.ext X3) (by decide) (by simp) (o_stoA (R2'.ext X3) E3) (ga) ?_
  intro h4 W4
  have z4 := W4.size
  have R4 : o_RR Z h4 ta (.array .long) (own_PT Z) [.ref t0, .null] := (R2'.ext X3).same W4
  refine o_dup (pc := 21) B d1_21 rfl ?_
  refine o_iconst (pc := 22) B (1 : Int32) d1_22 (by decide) ?_
  refine o_bipush (pc := 23) B (16 : Int32) d1_23 (by decide) ?_
  refine o_newarrayE (pc := 25) B (ad := "[J") (16) (16) (by decide) d1_25 (hw _ (List.mem_of_getElem? (i := 14) rfl)) (by decide) (by first | decide | omega) (by first | decide | omega) (by decide) (by decide) ?_
  intro h5 X5 lt5 A5 E5
  obtain ⟨t1, g1, e1⟩ : ∃ a, n0 ≤ a ∧ a = h4.size := ⟨_, (by omega), rfl⟩
  rw [← e1] at A5 E5 ⊢
  have A5' : o_LA Z h5 t1 (List.replicate 16 0) := A5
  have lt1 := o_lt A5'.lt
  refine o_aastore (pc := 27) B (1) rfl d1_27 (R4.ext X5) (by decide) (by simp) (o_stoA (R4.ext X5) E5) (ga) ?_
  intro h6 W6
  have z6 := W6.size
  have R6 : o_RR Z h6 ta (.array .long) (own_PT Z) [.ref t0, .ref t1] := (R4.ext X5).same W6
  have noa : o ≠ ta := o_ne (by omega)
  have cv : ∀ {nm d : String} {v : Value}, Fld Z h1 o own_FS nm d v → Fld Z h6 o own_FS nm d v := fun F => ((((F.ext X2).ext X3).other W4 (Or.inl noa)).ext X5).other W6 (Or.inl noa)
  have E6 : Exa Z h6 o own_FS := ((((E1.ext X2).ext X3).wr W4).ext X5).wr W6
  refine o_putF (pc := 28) (ty := (.array (.array .long))) B d1_28 (hw _ (List.mem_of_getElem? (i := 16) rfl)) (cv F2_1) (E6) (Or.inl (hw _ (List.mem_of_getElem? (i := 17) rfl))) (hw _ (List.mem_of_getElem? (i := 2) rfl)) (by decide) rfl rfl (go) ?_
  intro h7 W7
  have z7 := W7.size
  have F1_7 := (cv F1_1).other W7 (Or.inr (slot_ne (C := own_FS) (Or.inl (hw _ (List.mem_of_getElem? (i := 11) rfl))) (Or.inl (hw _ (List.mem_of_getElem? (i := 17) rfl))) (by decide) (by decide : parseFieldDescriptor "I" = some .int) (by decide : parseFieldDescriptor "[[J" = some (.array (.array .long)))))
  have F2_7 := (cv F2_1).same W7
  have F3_7 := (cv F3_1).other W7 (Or.inr (slot_ne (C := own_FS) (Or.inl (hw _ (List.mem_of_getElem? (i := 20) rfl))) (Or.inl (hw _ (List.mem_of_getElem? (i := 17) rfl))) (by decide) (by decide : parseFieldDescriptor "[I" = some (.array .int)) (by decide : parseFieldDescriptor "[[J" = some (.array (.array .long)))))
  have F4_7 := (cv F4_1).other W7 (Or.inr (slot_ne (C := own_FS) (Or.inl (hw _ (List.mem_of_getElem? (i := 22) rfl))) (Or.inl (hw _ (List.mem_of_getElem? (i := 17) rfl))) (by decide) (by decide : parseFieldDescriptor "[J" = some (.array .long)) (by decide : parseFieldDescriptor "[[J" = some (.array (.array .long)))))
  have F5_7 := (cv F5_1).other W7 (Or.inr (slot_ne (C := own_FS) (Or.inr (hw _ (List.mem_of_getElem? (i := 42) rfl))) (Or.inl (hw _ (List.mem_of_getElem? (i := 17) rfl))) (by decide) (by decide : parseFieldDescriptor "I" = some .int) (by decide : parseFieldDescriptor "[[J" = some (.array (.array .long)))))
  have E7 := E6.wr W7
  have R7 := R6.other W7 (Ne.symm noa)
  refine o_aloadN (pc := 31) B d1_31 rfl rfl ?_
  refine o_aloadN (pc := 32) B d1_32 rfl rfl ?_
  refine o_getF (pc := 33) B d1_33 (hw _ (List.mem_of_getElem? (i := 16) rfl)) (F2_7) ?_
  refine o_arraylen (pc := 36) B (2 : Int32) d1_36 (R7.ar) (rfl) ?_
  refine o_newarray (pc := 37) B (2) (2) d1_37 (hw _ (List.mem_of_getElem? (i := 18) rfl)) (by decide) (by first | decide | omega) (by first | decide | omega) (by decide) (by decide) ?_
  intro h8 X8 lt8 A8
  obtain ⟨ac, gc, ec⟩ : ∃ a, n0 ≤ a ∧ a = h7.size := ⟨_, (by omega), rfl⟩
  rw [← ec] at A8 ⊢
  have A8' : o_IA Z h8 ac [Int32.ofNat 0, Int32.ofNat 0] := A8
  have ltc := o_lt A8'.lt
  have noc : o ≠ ac := o_ne (by omega)
  refine o_putF (pc := 39) (ty := (.array .int)) B d1_39 (hw _ (List.mem_of_getElem? (i := 19) rfl)) (F3_7.ext X8) (E7.ext X8) (Or.inl (hw _ (List.mem_of_getElem? (i := 20) rfl))) (hw _ (List.mem_of_getElem? (i := 2) rfl)) (by decide) rfl rfl (go) ?_
  intro h9 W9
  have z9 := W9.size
  have F1_9 := (F1_7.ext X8).other W9 (Or.inr (slot_ne (C := own_FS) (Or.inl (hw _ (List.mem_of_getElem? (i := 11) rfl))) (Or.inl (hw _ (List.mem_of_getElem? (i := 20) rfl))) (by decide) (by decide : parseFieldDescriptor "I" = some .int) (by decide : parseFieldDescriptor "[I" = some (.array .int))))
  have F2_9 := (F2_7.ext X8).other W9 (Or.inr (slot_ne (C := own_FS) (Or.inl (hw _ (List.mem_of_getElem? (i := 17) rfl))) (Or.inl (hw _ (List.mem_of_getElem? (i := 20) rfl))) (by decide) (by decide : parseFieldDescriptor "[[J" = some (.array (.array .long))) (by decide : parseFieldDescriptor "[I" = some (.array .int))))
  have F3_9 := (F3_7.ext X8).same W9
  have F4_9 := (F4_7.ext X8).other W9 (Or.inr (slot_ne (C := own_FS) (Or.inl (hw _ (List.mem_of_getElem? (i := 22) rfl))) (Or.inl (hw _ (List.mem_of_getElem? (i := 20) rfl))) (by decide) (by decide : parseFieldDescriptor "[J" = some (.array .long)) (by decide : parseFieldDescriptor "[I" = some (.array .int))))
  have F5_9 := (F5_7.ext X8).other W9 (Or.inr (slot_ne (C := own_FS) (Or.inr (hw _ (List.mem_of_getElem? (i := 42) rfl))) (Or.inl (hw _ (List.mem_of_getElem? (i := 20) rfl))) (by decide) (by decide : parseFieldDescriptor "I" = some .int) (by decide : parseFieldDescriptor "[I" = some (.array .int))))
  have E9 := (E7.ext X8).wr W9
  have R9 := (R7.ext X8).other W9 (Ne.symm noa)
  have C9 := A8'.other W9 (Ne.symm noc)
  have not0 : o ≠ t0 := o_ne (by omega)
  have not1 : o ≠ t1 := o_ne (by omega)
  have ta0 : ta ≠ t0 := o_ne (by omega)
  have ta1 : ta ≠ t1 := o_ne (by omega)
  have D0 : o_LA Z h9 t0 (List.replicate 16 0) := ((((((A3'.other W4 (Ne.symm ta0)).ext X5).other W6 (Ne.symm ta0)).other W7 (Ne.symm not0)).ext X8)).other W9 (Ne.symm not0)
  have D1 : o_LA Z h9 t1 (List.replicate 16 0) := (((A5'.other W6 (Ne.symm ta1)).other W7 (Ne.symm not1)).ext X8).other W9 (Ne.symm not1)
  refine o_aloadN (pc := 42) B d1_42 rfl rfl ?_
  refine o_iconst (pc := 43) B (0 : Int32) d1_43 (by decide) ?_
  refine o_newarray (pc := 44) B (0) (0) d1_44 (hw _ (List.mem_of_getElem? (i := 14) rfl)) (by decide) (by first | decide | omega) (by first | decide | omega) (by decide) (by decide) ?_
  intro h10 X10 lt10 A10
  have nn : o ≠ h9.size := o_ne (by omega)
  refine o_putF (pc := 46) (ty := (.array .long)) B d1_46 (hw _ (List.mem_of_getElem? (i := 21) rfl)) (F4_9.ext X10) (E9.ext X10) (Or.inl (hw _ (List.mem_of_getElem? (i := 22) rfl))) (hw _ (List.mem_of_getElem? (i := 2) rfl)) (by decide) rfl rfl (go) ?_
  intro h11 W11
  have F1_b := (F1_9.ext X10).other W11 (Or.inr (slot_ne (C := own_FS) (Or.inl (hw _ (List.mem_of_getElem? (i := 11) rfl))) (Or.inl (hw _ (List.mem_of_getElem? (i := 22) rfl))) (by decide) (by decide : parseFieldDescriptor "I" = some .int) (by decide : parseFieldDescriptor "[J" = some (.array .long))))
  have F2_b := (F2_9.ext X10).other W11 (Or.inr (slot_ne (C := own_FS) (Or.inl (hw _ (List.mem_of_getElem? (i := 17) rfl))) (Or.inl (hw _ (List.mem_of_getElem? (i := 22) rfl))) (by decide) (by decide : parseFieldDescriptor "[[J" = some (.array (.array .long))) (by decide : parseFieldDescriptor "[J" = some (.array .long))))
  have F3_b := (F3_9.ext X10).other W11 (Or.inr (slot_ne (C := own_FS) (Or.inl (hw _ (List.mem_of_getElem? (i := 20) rfl))) (Or.inl (hw _ (List.mem_of_getElem? (i := 22) rfl))) (by decide) (by decide : parseFieldDescriptor "[I" = some (.array .int)) (by decide : parseFieldDescriptor "[J" = some (.array .long))))
  have F5_b := (F5_9.ext X10).other W11 (Or.inr (slot_ne (C := own_FS) (Or.inr (hw _ (List.mem_of_getElem? (i := 42) rfl))) (Or.inl (hw _ (List.mem_of_getElem? (i := 22) rfl))) (by decide) (by decide : parseFieldDescriptor "I" = some .int) (by decide : parseFieldDescriptor "[J" = some (.array .long))))
  have E_b := (E9.ext X10).wr W11
  have R_b := (R9.ext X10).other W11 (Ne.symm noa)
  have C_b := (C9.ext X10).other W11 (Ne.symm noc)
  have D0_b := (D0.ext X10).other W11 (Ne.symm not0)
  have D1_b := (D1.ext X10).other W11 (Ne.symm not1)
  refine o_ldc2_w (pc := 49) B (x := (2 : Int64)) d1_49 (hw _ (List.mem_of_getElem? (i := 23) rfl)) ?_
  refine o_lloadN (pc := 52) B d1_52 rfl ?_
  refine o_ldc2_w (pc := 53) B (x := (262144 : Int64)) d1_53 (hw _ (List.mem_of_getElem? (i := 24) rfl)) ?_
  refine o_ldiv (pc := 56) B d1_56 (by decide) ?_
  refine o_callS2 (pc := 57) B 0 d1_57 (hw _ (List.mem_of_getElem? (i := 25) rfl)) (hw _ (List.mem_of_getElem? (i := 26) rfl)) (hw _ (List.mem_of_getElem? (i := 27) rfl)) (hw _ (List.mem_of_getElem? (i := 28) rfl)) (by decide) pd3 rfl (by first | exact Nat.zero_le _ | exact Nat.le_of_ble_eq_true rfl | simp [Value.category]) (by decide) (by decide) (by decide) (by decide) rfl (oc3 l Z a0 hw n0 _ _ _) ?_
  rintro v h' ⟨⟨mx, rfl⟩, rfl⟩
  refine o_lstoreN_5_3 (pc := 60) B d1_60 rfl ?_
  refine o_aloadN (pc := 61) B d1_61 rfl rfl ?_
  refine o_bipush (pc := 62) B (20 : Int32) d1_62 (by decide) ?_
  refine o_bipush (pc := 64) B (63 : Int32) d1_64 (by decide) ?_
  refine o_lloadN (pc := 66) B d1_66 rfl ?_
  refine o_callS1 (pc := 67) B 3 d1_67 (hw _ (List.mem_of_getElem? (i := 29) rfl)) (hw _ (List.mem_of_getElem? (i := 30) rfl)) (hw _ (List.mem_of_getElem? (i := 31) rfl)) (hw _ (List.mem_of_getElem? (i := 32) rfl)) (by decide) pd4 rfl (by first | exact Nat.zero_le _ | exact Nat.le_of_ble_eq_true rfl | simp [Value.category]) (by decide) (by decide) (by decide) (by decide) rfl (oc4 l Z a0 hw n0 _ _) ?_
  rintro v h' ⟨⟨ml, rfl⟩, rfl⟩
  refine o_isub (pc := 70) B d1_70 ?_
  refine o_callS2 (pc := 71) B 1 d1_71 (hw _ (List.mem_of_getElem? (i := 38) rfl)) (hw _ (List.mem_of_getElem? (i := 39) rfl)) (hw _ (List.mem_of_getElem? (i := 27) rfl)) (hw _ (List.mem_of_getElem? (i := 40) rfl)) (by decide) pd6 rfl (by first | exact Nat.zero_le _ | exact Nat.le_of_ble_eq_true rfl | simp [Value.category]) (by decide) (by decide) (by decide) (by decide) rfl (oc6 l Z a0 hw n0 _ _ _) ?_
  rintro v h' ⟨⟨mn, rfl⟩, rfl⟩
  refine o_putF (pc := 74) (ty := .int) B d1_74 (hw _ (List.mem_of_getElem? (i := 41) rfl)) (F5_b) (E_b) (Or.inr ⟨(hw _ (List.mem_of_getElem? (i := 42) rfl)), rfl, rfl⟩) (hw _ (List.mem_of_getElem? (i := 2) rfl)) (by decide) rfl rfl (go) ?_
  intro h12 W12
  exact o_return (pc := 77) B d1_77 (by decide) (by decide) (⟨rfl, ta, t0, t1, ac, go, ga, g0, g1, gc, noa, not0, not1, noc, ta0, ta1, o_ne (by omega), o_ne (by omega), o_ne (by omega), o_ne (by omega), E_b.wr W12, F1_b.other W12 (Or.inr (slot_ne (C := own_FS) (Or.inl (hw _ (List.mem_of_getElem? (i := 11) rfl))) (Or.inr (hw _ (List.mem_of_getElem? (i := 42) rfl))) (by decide) (by decide : parseFieldDescriptor "I" = some .int) (by decide : parseFieldDescriptor "I" = some .int))), F2_b.other W12 (Or.inr (slot_ne (C := own_FS) (Or.inl (hw _ (List.mem_of_getElem? (i := 17) rfl))) (Or.inr (hw _ (List.mem_of_getElem? (i := 42) rfl))) (by decide) (by decide : parseFieldDescriptor "[[J" = some (.array (.array .long))) (by decide : parseFieldDescriptor "I" = some .int))), F3_b.other W12 (Or.inr (slot_ne (C := own_FS) (Or.inl (hw _ (List.mem_of_getElem? (i := 20) rfl))) (Or.inr (hw _ (List.mem_of_getElem? (i := 42) rfl))) (by decide) (by decide : parseFieldDescriptor "[I" = some (.array .int)) (by decide : parseFieldDescriptor "I" = some .int))), R_b.other W12 (Ne.symm noa), C_b.other W12 (Ne.symm noc), D0_b.other W12 (Ne.symm not0), D1_b.other W12 (Ne.symm not1)⟩)
set_option maxRecDepth 65536 in
set_option maxHeartbeats 40000000 in
theorem oc9 (l : Launch) (Z : State) (a0 : Array Value) (hw : ∀ d ∈ tables_1, d.before a0 Z = true) (n0 : Nat) (h : Heap) (x : Int64) (hx : x ≠ 0) : o_C l Z n0 oy9 prog_6_method_9_code 2 (some .long) orm9 [(.long x)] h (fun v h' => v = some (.long x) ∧ h' = h) := by
  refine o_body (Ls := [.val (.long x), .second]) pn9 (by first | (simp [argsToLocals, Value.category]; done) | rfl) (fun κ B => ?_)
  refine o_lloadN (pc := 0) B d9_0 rfl ?_
  refine o_lconst (pc := 1) B (0 : Int64) d9_1 (by decide) ?_
  refine o_lcmp (pc := 2) B d9_2 ?_
  refine o_lif_ne (pc := 3) (pc' := 12) B d9_3 (by decide) (by decide) (fun hc3 => ?_) (fun hc3 => False.elim (hx hc3))
  refine o_lloadN (pc := 12) B d9_12 rfl ?_
  exact o_lreturn (pc := 13) B d9_13 (by decide) (by decide) (⟨rfl, rfl⟩)
set_option maxRecDepth 65536 in
set_option maxHeartbeats 40000000 in
theorem oc10 (l : Launch) (Z : State) (a0 : Array Value) (hw : ∀ d ∈ tables_1, d.before a0 Z = true) (n0 : Nat) (h : Heap) (x : Int64) : o_C l Z n0 oy10 prog_6_method_13_code 3 (some .int) orm10 [(.long x), (.int 1)] h (fun v h' => v = some (.int (XT.ushrL (x ^^^ (-9223372036854775808)) 63).toInt32) ∧ h' = h) := by
  refine o_body (Ls := [.val (.long x), .second, .val (.int 1)]) pn10 (by first | (simp [argsToLocals, Value.category]; done) | rfl) (fun κ B => ?_)
  refine o_lloadN (pc := 0) B d10_0 rfl ?_
  refine o_ldc2_w (pc := 1) B (x := (-9223372036854775808 : Int64)) d10_1 (hw _ (List.mem_of_getElem? (i := 58) rfl)) ?_
  refine o_lxor (pc := 4) B d10_4 ?_
  refine o_bipush (pc := 5) B (64 : Int32) d10_5 (by decide) ?_
  refine o_iloadN (pc := 7) B d10_7 rfl ?_
  refine o_isub_c (pc := 8) B (63 : Int32) d10_8 (by decide) ?_
  refine o_lushr (pc := 9) B d10_9 ?_
  refine o_l2i (pc := 10) B d10_10 ?_
  exact o_ireturn (pc := 11) B d10_11 (by decide) (by decide) (⟨rfl, rfl⟩)
set_option maxRecDepth 65536 in
set_option maxHeartbeats 40000000 in
theorem own_sl (l : Launch) (Z : State) (n0 : Nat) (h : Heap) (κ : o_K) (B : o_Bo κ l Z n0 orm11 oy11 prog_6_method_10_code 5 (some .int)) (t : Addr) (T : List Int64) (key : Int64) (j S d0 : Nat) (A : o_LA Z h t T) (hj : j ≤ 5) (hT : T.length = 2 ^ j) (hH : own_H T key ((S + d0) % 2 ^ j)) (hN : ∀ d, d < d0 → ¬ own_H T key ((S + d) % 2 ^ j)) :
    ∀ m d, d + m = d0 → o_Go κ (fun v h' => v = some (.int (Int32.ofNat ((S + d0) % 2 ^ j))) ∧ h' = h) h 0 0 11 [.val (.ref t), .val (.long key), .second, .val (.int (Int32.ofNat (2 ^ j - 1))), .val (.int (Int32.ofNat ((S + d) % 2 ^ j)))] [] := by
  have pj : 2 ^ j ≤ 2 ^ 5 := Nat.pow_le_pow_right (by decide) hj
  have pp : 0 < 2 ^ j := Nat.two_pow_pos j
  intro m
  induction m with
  | zero =>
    intro d hd
    have ed : d = d0 := by omega
    subst ed
    obtain ⟨x, x1, x2⟩ := hH
    have x3 : (T.map Value.long)[(S + d) % 2 ^ j]? = some (.long x) := by rw [List.getElem?_map, x1]; rfl
    refine o_aloadN (pc := 11) B d11_11 rfl rfl ?_
    refine o_iload (pc := 12) B d11_12 rfl ?_
    refine o_laload (pc := 14) B ((S + d) % 2 ^ j) d11_14 (A) (rfl) (x3) ?_
    refine o_lconst (pc := 15) B (0 : Int64) d11_15 (by decide) ?_
    refine o_lcmp (pc := 16) B d11_16 ?_
    refine o_lif_eq (pc := 17) (pc' := 40) B d11_17 (by decide) (by decide) (fun hc17 => ?_) (fun hc17 => ?_)
    · refine o_iload (pc := 40) B d11_40 rfl ?_
      exact o_ireturn (pc := 42) B d11_42 (by decide) (by decide) (⟨rfl, rfl⟩)
    refine o_aloadN (pc := 20) B d11_20 rfl rfl ?_
    refine o_iload (pc := 21) B d11_21 rfl ?_
    refine o_laload (pc := 23) B ((S + d) % 2 ^ j) d11_23 (A) (rfl) (x3) ?_
    refine o_lloadN (pc := 24) B d11_24 rfl ?_
    refine o_lcmp (pc := 25) B d11_25 ?_
    refine o_lif_eq (pc := 26) (pc' := 40) B d11_26 (by decide) (by decide) (fun hc26 => ?_) (fun hc26 => False.elim (x2.elim hc17 hc26))
    refine o_iload (pc := 40) B d11_40 rfl ?_
    exact o_ireturn (pc := 42) B d11_42 (by decide) (by decide) (⟨rfl, rfl⟩)
  | succ m ih =>
    intro d hd
    have hm : (S + d) % 2 ^ j < 2 ^ j := Nat.mod_lt _ pp
    obtain ⟨x, x1, x3⟩ := own_at hT hm
    have nx := hN d (by omega)
    refine o_aloadN (pc := 11) B d11_11 rfl rfl ?_
    refine o_iload (pc := 12) B d11_12 rfl ?_
    refine o_laload (pc := 14) B ((S + d) % 2 ^ j) d11_14 (A) (rfl) (x3) ?_
    refine o_lconst (pc := 15) B (0 : Int64) d11_15 (by decide) ?_
    refine o_lcmp (pc := 16) B d11_16 ?_
    refine o_lif_eq (pc := 17) (pc' := 40) B d11_17 (by decide) (by decide) (fun hc17 => False.elim (nx ⟨x, x1, Or.inl hc17⟩)) (fun hc17 => ?_)
    refine o_aloadN (pc := 20) B d11_20 rfl rfl ?_
    refine o_iload (pc := 21) B d11_21 rfl ?_
    refine o_laload (pc := 23) B ((S + d) % 2 ^ j) d11_23 (A) (rfl) (x3) ?_
    refine o_lloadN (pc := 24) B d11_24 rfl ?_
    refine o_lcmp (pc := 25) B d11_25 ?_
    refine o_lif_eq (pc := 26) (pc' := 40) B d11_26 (by decide) (by decide) (fun hc26 => False.elim (nx ⟨x, x1, Or.inr hc26⟩)) (fun hc26 => ?_)
    refine o_iload (pc := 29) B d11_29 rfl ?_
    refine o_iconst (pc := 31) B (1 : Int32) d11_31 (by decide) ?_
    refine o_iadd (pc := 32) B d11_32 ?_
    refine o_iloadN (pc := 33) B d11_33 rfl ?_
    refine o_iand (pc := 34) B d11_34 ?_
    rw [own_step (by omega) hm, Nat.mod_add_mod, Nat.add_assoc]
    refine o_istore_5_4 (pc := 35) B d11_35 rfl ?_
    refine o_goto (pc := 37) (pc' := 11) B d11_37 (by decide) (by decide) ?_
    exact ih (d + 1) (by omega)
set_option maxRecDepth 65536 in
set_option maxHeartbeats 40000000 in
theorem oc11 (l : Launch) (Z : State) (a0 : Array Value) (hw : ∀ d ∈ tables_1, d.before a0 Z = true) (n0 : Nat) (h : Heap) (t : Addr) (T : List Int64) (key : Int64) (j d0 : Nat) (A : o_LA Z h t T) (hj : j ≤ 5) (hT : T.length = 2 ^ j) (hH : own_H T key ((key.toBitVec.toNat % 2 ^ j + d0) % 2 ^ j)) (hN : ∀ d, d < d0 → ¬ own_H T key ((key.toBitVec.toNat % 2 ^ j + d) % 2 ^ j)) : o_C l Z n0 oy11 prog_6_method_10_code 5 (some .int) orm11 [(.ref t), (.long key)] h (fun v h' => v = some (.int (Int32.ofNat ((key.toBitVec.toNat % 2 ^ j + d0) % 2 ^ j))) ∧ h' = h) := by
  refine o_body (Ls := [.val (.ref t), .val (.long key), .second, .unset, .unset]) pn11 (by first | (simp [argsToLocals, Value.category]; done) | rfl) (fun κ B => ?_)
  refine o_aloadN (pc := 0) B d11_0 rfl rfl ?_
  refine o_arraylen (pc := 1) B (Int32.ofNat (2 ^ j)) d11_1 (A) (by rw [List.length_map, hT]) ?_
  refine o_iconst (pc := 2) B (1 : Int32) d11_2 (by decide) ?_
  refine o_isub (pc := 3) B d11_3 ?_
  rw [own_sub1 (by omega)]
  refine o_istoreN_5_3 (pc := 4) B d11_4 rfl ?_
  refine o_lloadN (pc := 5) B d11_5 rfl ?_
  refine o_l2i (pc := 6) B d11_6 ?_
  refine o_iloadN (pc := 7) B d11_7 rfl ?_
  refine o_iand (pc := 8) B d11_8 ?_
  rw [own_s2 key (by omega)]
  refine o_istore_5_4 (pc := 9) B d11_9 rfl ?_
  have e := own_sl l Z n0 h κ B t T key j (key.toBitVec.toNat % 2 ^ j) d0 A hj hT hH hN d0 0 (by omega)
  rw [show (key.toBitVec.toNat % 2 ^ j + 0) % 2 ^ j = key.toBitVec.toNat % 2 ^ j by rw [Nat.add_zero, Nat.mod_mod]] at e
  exact e
set_option maxRecDepth 65536 in
set_option maxHeartbeats 40000000 in
theorem oc12a (l : Launch) (Z : State) (a0 : Array Value) (hw : ∀ d ∈ tables_1, d.before a0 Z = true) (n0 : Nat) (h : Heap) (c : Nat) (hc : c ≤ 12) : o_C l Z n0 oy12 prog_6_method_11_code 2 (some .boolean) orm12 [(.int (Int32.ofNat c)), (.int 16)] h (fun v h' => v = some (.int 0) ∧ h' = h) := by
  refine o_body (Ls := [.val (.int (Int32.ofNat c)), .val (.int 16)]) pn12 (by first | (simp [argsToLocals, Value.category]; done) | rfl) (fun κ B => ?_)
  refine o_ldc2_w (pc := 0) B (x := (4 : Int64)) d12_0 (hw _ (List.mem_of_getElem? (i := 65) rfl)) ?_
  refine o_iloadN (pc := 3) B d12_3 rfl ?_
  refine o_i2l (pc := 4) B d12_4 ?_
  refine o_lmul (pc := 5) B d12_5 ?_
  refine o_ldc2_w (pc := 6) B (x := (3 : Int64)) d12_6 (hw _ (List.mem_of_getElem? (i := 66) rfl)) ?_
  refine o_iloadN (pc := 9) B d12_9 rfl ?_
  refine o_i2l (pc := 10) B d12_10 ?_
  refine o_lmul (pc := 11) B d12_11 ?_
  refine o_lcmp (pc := 12) B d12_12 ?_
  refine o_lif_le (pc := 13) (pc' := 20) B d12_13 (by decide) (by decide) (fun hc13 => ?_) (fun hc13 => False.elim ((by rw [own_wide (by omega), show (4 : Int64) * Int64.ofNat c = Int64.ofNat (4 * c) by rw [Int64.ofNat_mul]; rfl, Int64.lt_iff_toInt_lt, Int64.toInt_ofNat_of_lt (by omega), show ((3 : Int64) * (16 : Int32).toInt64).toInt = 48 by decide] at hc13; omega)))
  refine o_iconst (pc := 20) B (0 : Int32) d12_20 (by decide) ?_
  exact o_zreturn (pc := 21) B d12_21 (by decide) (by decide) (⟨rfl, rfl⟩)
set_option maxRecDepth 65536 in
set_option maxHeartbeats 40000000 in
theorem oc12b (l : Launch) (Z : State) (a0 : Array Value) (hw : ∀ d ∈ tables_1, d.before a0 Z = true) (n0 : Nat) (h : Heap)  : o_C l Z n0 oy12 prog_6_method_11_code 2 (some .boolean) orm12 [(.int (Int32.ofNat 13)), (.int 16)] h (fun v h' => v = some (.int 1) ∧ h' = h) := by
  refine o_body (Ls := [.val (.int (Int32.ofNat 13)), .val (.int 16)]) pn12 (by first | (simp [argsToLocals, Value.category]; done) | rfl) (fun κ B => ?_)
  refine o_ldc2_w (pc := 0) B (x := (4 : Int64)) d12_0 (hw _ (List.mem_of_getElem? (i := 65) rfl)) ?_
  refine o_iloadN (pc := 3) B d12_3 rfl ?_
  refine o_i2l (pc := 4) B d12_4 ?_
  refine o_lmul (pc := 5) B d12_5 ?_
  refine o_ldc2_w (pc := 6) B (x := (3 : Int64)) d12_6 (hw _ (List.mem_of_getElem? (i := 66) rfl)) ?_
  refine o_iloadN (pc := 9) B d12_9 rfl ?_
  refine o_i2l (pc := 10) B d12_10 ?_
  refine o_lmul (pc := 11) B d12_11 ?_
  refine o_lcmp (pc := 12) B d12_12 ?_
  refine o_lif_le (pc := 13) (pc' := 20) B d12_13 (by decide) (by decide) (fun hc13 => False.elim (by revert hc13; decide)) (fun hc13 => ?_)
  refine o_iconst (pc := 16) B (1 : Int32) d12_16 (by decide) ?_
  refine o_goto (pc := 17) (pc' := 21) B d12_17 (by decide) (by decide) ?_
  exact o_zreturn (pc := 21) B d12_21 (by decide) (by decide) (⟨rfl, rfl⟩)
set_option maxRecDepth 65536 in
set_option maxHeartbeats 40000000 in
theorem own_gl (l : Launch) (Z : State) (a0 : Array Value) (hw : ∀ d ∈ tables_1, d.before a0 Z = true) (n0 : Nat) (h0 : Heap) (κ : o_K) (B : o_Bo κ l Z n0 orm13 oy13 prog_6_method_14_code 7 (some (.array .long))) (t g : Addr) (T : List Int64) (hT : T.length = 16) (gg : n0 ≤ g) (tg : t ≠ g) :
    ∀ (m p : Nat) (h : Heap) (G : List Int64) (s5 s6 : Slot), o_okl s5 s6 = true → p + m = 16 → o_LA Z h t T → o_LA Z h g G → G.length = 32 → own_nz G ≤ p → Keep h0 h [g] →
      o_Go κ (fun v h' => v = some (.ref g) ∧ (∃ G', o_LA Z h' g G' ∧ G'.length = 32) ∧ Keep h0 h' [g]) h 1 32 15 [.val (.ref t), .val (.ref g), .val (.ref t), .val (.int 16), .val (.int (Int32.ofNat p)), s5, s6] [] := by
  intro m
  induction m with
  | zero =>
    intro p h G s5 s6 hs hp A AG hG hz K
    have ep : p = 16 := by omega
    subst ep
    refine o_iload (pc := 15) B d13_15 rfl ?_
    refine o_iloadN (pc := 17) B d13_17 rfl ?_
    refine o_icmp_ge (pc := 18) (pc' := 50) B d13_18 (by decide) (by decide) (fun hc18 => ?_) (fun hc18 => False.elim (by revert hc18; decide))
    refine o_aloadN (pc := 50) B d13_50 rfl rfl ?_
    exact o_areturn (pc := 51) B rfl rfl rfl d13_51 (by decide) (by decide) (⟨rfl, ⟨G, AG, hG⟩, K⟩)
  | succ m ih =>
    intro p h G s5 s6 hs hp A AG hG hz K
    obtain ⟨x, x1, x2⟩ := own_at hT (show p < 16 by omega)
    refine o_iload (pc := 15) B d13_15 rfl ?_
    refine o_iloadN (pc := 17) B d13_17 rfl ?_
    refine o_icmp_ge (pc := 18) (pc' := 50) B d13_18 (by decide) (by decide) (fun hc18 => False.elim ((hc18 ((own_ltn (b := 16) (by omega) (by decide)).mpr (by omega))))) (fun hc18 => ?_)
    refine o_aloadN (pc := 21) B d13_21 rfl rfl ?_
    refine o_iload (pc := 22) B d13_22 rfl ?_
    refine o_laload (pc := 24) B (p) d13_24 (A) (rfl) (x2) ?_
    refine o_lstore_7_5 (pc := 25) B d13_25 hs ?_
    refine o_lload (pc := 27) B d13_27 rfl ?_
    refine o_lconst (pc := 29) B (0 : Int64) d13_29 (by decide) ?_
    refine o_lcmp (pc := 30) B d13_30 ?_
    refine o_lif_eq (pc := 31) (pc' := 44) B d13_31 (by decide) (by decide) (fun hc31 => ?_) (fun hc31 => ?_)
    · refine o_iinc_7_4 (pc := 44) B (1 : Int32) _ d13_44 (by decide) rfl ?_
      rw [own_one]
      refine o_goto (pc := 47) (pc' := 15) B d13_47 (by decide) (by decide) ?_
      exact ih (p + 1) h G _ _ rfl (by omega) A AG hG (by omega) K
    refine o_aloadN (pc := 34) B d13_34 rfl rfl ?_
    refine o_aloadN (pc := 35) B d13_35 rfl rfl ?_
    refine o_lload (pc := 36) B d13_36 rfl ?_
    obtain ⟨d0, q1, q2⟩ := own_find (j := 5) x hG (by omega)
    have hm : (x.toBitVec.toNat % 2 ^ 5 + d0) % 2 ^ 5 < 2 ^ 5 := Nat.mod_lt _ (by decide)
    refine o_callS2 (pc := 38) B 1 d13_38 (hw _ (List.mem_of_getElem? (i := 59) rfl)) (hw _ (List.mem_of_getElem? (i := 60) rfl)) (hw _ (List.mem_of_getElem? (i := 3) rfl)) (hw _ (List.mem_of_getElem? (i := 61) rfl)) (by decide) pd11 rfl (by first | exact Nat.zero_le _ | exact Nat.le_of_ble_eq_true rfl | simp [Value.category]) (by decide) (by decide) (by decide) (by decide) rfl (oc11 l Z a0 hw n0 _ g G x 5 d0 AG (by decide) hG q1 q2) ?_
    rintro v h' ⟨rfl, rfl⟩
    refine o_lload (pc := 41) B d13_41 rfl ?_
    refine o_lastore (pc := 43) B ((x.toBitVec.toNat % 2 ^ 5 + d0) % 2 ^ 5) d13_43 (AG) (rfl) (own_mltL (by omega)) (gg) ?_
    intro h1 W1
    refine o_iinc_7_4 (pc := 44) B (1 : Int32) _ d13_44 (by decide) rfl ?_
    rw [own_one]
    refine o_goto (pc := 47) (pc' := 15) B d13_47 (by decide) (by decide) ?_
    have nz := own_nz_set x G ((x.toBitVec.toNat % 2 ^ 5 + d0) % 2 ^ 5)
    exact ih (p + 1) h1 _ _ _ rfl (by omega) (A.other W1 tg) (o_LA.same AG W1) (by rw [List.length_set]; exact hG) (by omega) (K.wr W1 (Or.inl (List.mem_cons_self ..)))
set_option maxRecDepth 65536 in
set_option maxHeartbeats 40000000 in
theorem oc13 (l : Launch) (Z : State) (a0 : Array Value) (hw : ∀ d ∈ tables_1, d.before a0 Z = true) (n0 : Nat) (h : Heap) (t : Addr) (T : List Int64) (hT : T.length = 16) (Z0 : n0 ≤ h.size) (A : o_LA Z h t T) : o_C l Z n0 oy13 prog_6_method_14_code 7 (some (.array .long)) orm13 [(.ref t)] h (fun v h' => ∃ g, v = some (.ref g) ∧ g = h.size ∧ (∃ G', o_LA Z h' g G' ∧ G'.length = 32) ∧ Exa Z h' g "[J" ∧ Keep h h' []) := by
  refine o_body (Ls := [.val (.ref t), .unset, .unset, .unset, .unset, .unset, .unset]) pn13 (by first | (simp [argsToLocals, Value.category]; done) | rfl) (fun κ B => ?_)
  refine o_iconst (pc := 0) B (2 : Int32) d13_0 (by decide) ?_
  refine o_aloadN (pc := 1) B d13_1 rfl rfl ?_
  refine o_arraylen (pc := 2) B (16 : Int32) d13_2 (A) (by rw [List.length_map, hT]; rfl) ?_
  refine o_imul_c (pc := 3) B (32 : Int32) d13_3 (by decide) ?_
  refine o_newarrayE (pc := 4) B (ad := "[J") (32) (32) (by decide) d13_4 (hw _ (List.mem_of_getElem? (i := 14) rfl)) (by decide) (by first | decide | omega) (by first | decide | omega) (by decide) (by decide) ?_
  intro h1 X1 lt1 A1 E1
  obtain ⟨g, gg, eg⟩ : ∃ a, n0 ≤ a ∧ a = h.size := ⟨_, Z0, rfl⟩
  rw [← eg] at A1 E1 ⊢
  have A1' : o_LA Z h1 g (List.replicate 32 0) := A1
  have tg : t ≠ g := o_ne (by have := o_lt A.lt; omega)
  refine o_astoreN_7_1 (pc := 6) B d13_6 rfl rfl ?_
  refine o_aloadN (pc := 7) B d13_7 rfl rfl ?_
  refine o_astoreN_7_2 (pc := 8) B d13_8 rfl rfl ?_
  refine o_aloadN (pc := 9) B d13_9 rfl rfl ?_
  refine o_arraylen (pc := 10) B (16 : Int32) d13_10 (A.ext X1) (by rw [List.length_map, hT]; rfl) ?_
  refine o_istoreN_7_3 (pc := 11) B d13_11 rfl ?_
  refine o_iconst (pc := 12) B (0 : Int32) d13_12 (by decide) ?_
  refine o_istore_7_4 (pc := 13) B d13_13 rfl ?_
  refine o_imp ?_ (own_gl l Z a0 hw n0 h1 κ B t g T hT gg tg 16 0 h1 (List.replicate 32 0) .unset .unset rfl rfl (A.ext X1) A1' (by simp) (by rw [own_nz_rep]; exact Nat.le_refl _) (Keep.refl _ _))
  rintro v h' ⟨rfl, G', K'⟩
  exact ⟨g, rfl, rfl, G', E1.keep K', ((Keep.refl h []).ext X1).trans K' (fun x hx => Or.inr (by rw [List.mem_singleton.mp hx, eg]; exact Nat.le_refl _))⟩
def own_case (d0 d1 : Nat) : Prop := (d0 = 1 ∧ d1 = 0) ∨ (d0 = 0 ∧ d1 = 1)
set_option maxRecDepth 65536 in
set_option maxHeartbeats 40000000 in
theorem oc8 (l : Launch) (Z : State) (a0 : Array Value) (hw : ∀ d ∈ tables_1, d.before a0 Z = true) (n0 : Nat) (h : Heap) (o ta t0 t1 ac : Addr) (c0 c1 i d0 d1 : Nat) (T0 T1 : List Int64) (key : Int64) (O : own_Ob Z n0 h o ta t0 t1 ac c0 c1 T0 T1) (hi : 1 ≤ i) (hi2 : i ≤ 13) (h0 : T0.length = 16) (h1 : T1.length = 16) (I0 : ∀ j, i ≤ j → j < 16 → T0[j]? = some 0) (I1 : ∀ j, i ≤ j → j < 16 → T1[j]? = some 0) (hx : key ≠ 0) (hk : key.toBitVec.toNat % 2 ^ 4 = i) (hs : (XT.ushrL (key ^^^ (-9223372036854775808)) 63).toInt32 = Int32.ofNat d1) (hd : own_case d0 d1) (hc : c0 + c1 < 12) : o_C l Z n0 oy8 prog_6_method_5_code 8 (some .boolean) orm8 [(.ref o), (.long key)] h (fun v h' => v = some (.int 1) ∧ ∃ T0' T1', own_Ob Z n0 h' o ta t0 t1 ac (c0 + d0) (c1 + d1) T0' T1' ∧ T0'.length = 16 ∧ T1'.length = 16 ∧ (∀ j, i + 1 ≤ j → j < 16 → T0'[j]? = some 0) ∧ (∀ j, i + 1 ≤ j → j < 16 → T1'[j]? = some 0)) := by
  refine o_body (Ls := [.val (.ref o), .val (.long key), .second, .unset, .unset, .unset, .unset, .unset]) pn8 (by first | (simp [argsToLocals, Value.category]; done) | rfl) (fun κ B => ?_)
  rcases hd with hd | hd
  · obtain ⟨rfl, rfl⟩ := hd
    have hd : True ∧ (0 : Nat) = 0 := ⟨trivial, rfl⟩
    have f0 := I0 i (Nat.le_refl _) (by omega)
    have H0 : own_H T0 key ((key.toBitVec.toNat % 2 ^ 4 + 0) % 2 ^ 4) := ⟨0, by rw [Nat.add_zero, Nat.mod_mod, hk]; exact f0, Or.inl rfl⟩
    refine o_lloadN (pc := 0) B d8_0 rfl ?_
    refine o_callS1 (pc := 1) B 0 d8_1 (hw _ (List.mem_of_getElem? (i := 52) rfl)) (hw _ (List.mem_of_getElem? (i := 53) rfl)) (hw _ (List.mem_of_getElem? (i := 3) rfl)) (hw _ (List.mem_of_getElem? (i := 54) rfl)) (by decide) pd9 rfl (by first | exact Nat.zero_le _ | exact Nat.le_of_ble_eq_true rfl | simp [Value.category]) (by decide) (by decide) (by decide) (by decide) rfl (oc9 l Z a0 hw n0 _ key hx) ?_
    rintro v h' ⟨rfl, rfl⟩
    refine o_lstoreN_8_3 (pc := 4) B d8_4 rfl ?_
    refine o_lloadN (pc := 5) B d8_5 rfl ?_
    refine o_aloadN (pc := 6) B d8_6 rfl rfl ?_
    refine o_getF (pc := 7) B d8_7 (hw _ (List.mem_of_getElem? (i := 10) rfl)) (O.p_F1) ?_
    refine o_callS2 (pc := 10) B 0 d8_10 (hw _ (List.mem_of_getElem? (i := 55) rfl)) (hw _ (List.mem_of_getElem? (i := 56) rfl)) (hw _ (List.mem_of_getElem? (i := 3) rfl)) (hw _ (List.mem_of_getElem? (i := 57) rfl)) (by decide) pd10 rfl (by first | exact Nat.zero_le _ | exact Nat.le_of_ble_eq_true rfl | simp [Value.category]) (by decide) (by decide) (by decide) (by decide) rfl (oc10 l Z a0 hw n0 _ key) ?_
    rintro v h' ⟨rfl, rfl⟩
    rw [hs]
    rw [show Int32.ofNat 0 = 0 from rfl]
    refine o_istore_8_5 (pc := 13) B d8_13 rfl ?_
    refine o_aloadN (pc := 15) B d8_15 rfl rfl ?_
    refine o_getF (pc := 16) B d8_16 (hw _ (List.mem_of_getElem? (i := 16) rfl)) (O.p_F2) ?_
    refine o_iload (pc := 19) B d8_19 rfl ?_
    refine o_aaload (pc := 21) B (0) rfl d8_21 (O.p_AR.ar) (by decide) (rfl) ?_
    refine o_astore_8_6 (pc := 22) B d8_22 rfl rfl ?_
    refine o_aload (pc := 24) B d8_24 rfl rfl ?_
    refine o_lloadN (pc := 26) B d8_26 rfl ?_
    refine o_callS2 (pc := 27) B 0 d8_27 (hw _ (List.mem_of_getElem? (i := 59) rfl)) (hw _ (List.mem_of_getElem? (i := 60) rfl)) (hw _ (List.mem_of_getElem? (i := 3) rfl)) (hw _ (List.mem_of_getElem? (i := 61) rfl)) (by decide) pd11 rfl (by first | exact Nat.zero_le _ | exact Nat.le_of_ble_eq_true rfl | simp [Value.category]) (by decide) (by decide) (by decide) (by decide) rfl (oc11 l Z a0 hw n0 _ t0 T0 key 4 0 O.p_A0 (by decide) h0 H0 (fun d q => absurd q (Nat.not_lt_zero d))) ?_
    rintro v h' ⟨rfl, rfl⟩
    rw [show (key.toBitVec.toNat % 2 ^ 4 + 0) % 2 ^ 4 = i by rw [Nat.add_zero, Nat.mod_mod, hk]]
    refine o_istore_8_7 (pc := 30) B d8_30 rfl ?_
    refine o_aload (pc := 32) B d8_32 rfl rfl ?_
    refine o_iload (pc := 34) B d8_34 rfl ?_
    refine o_laload (pc := 36) B (i) d8_36 (O.p_A0) (rfl) (own_mapL f0) ?_
    refine o_lloadN (pc := 37) B d8_37 rfl ?_
    refine o_lcmp (pc := 38) B d8_38 ?_
    refine o_lif_ne (pc := 39) (pc' := 44) B d8_39 (by decide) (by decide) (fun hc39 => ?_) (fun hc39 => False.elim ((hx hc39.symm)))
    refine o_aload (pc := 44) B d8_44 rfl rfl ?_
    refine o_iload (pc := 46) B d8_46 rfl ?_
    refine o_lloadN (pc := 48) B d8_48 rfl ?_
    refine o_lastore (pc := 49) B (i) d8_49 (O.p_A0) (rfl) (own_mltL (by omega)) (O.p_gt0) ?_
    intro ha Wa
    have Oa := O.w0 Wa
    refine o_aloadN (pc := 50) B d8_50 rfl rfl ?_
    refine o_getF (pc := 51) B d8_51 (hw _ (List.mem_of_getElem? (i := 19) rfl)) (Oa.p_F3) ?_
    refine o_iload (pc := 54) B d8_54 rfl ?_
    refine o_dup2 (pc := 56) B d8_56 rfl rfl ?_
    refine o_iaload (pc := 57) B (0) d8_57 (Oa.p_AC) (by decide) (rfl) ?_
    refine o_iconst (pc := 58) B (1 : Int32) d8_58 (by decide) ?_
    refine o_iadd (pc := 59) B d8_59 ?_
    refine o_iastore (pc := 60) B (0) d8_60 (Oa.p_AC) (by decide) (by simp) (Oa.p_gc) ?_
    intro hb_ Wb
    have Ob := Oa.cn0 Wb
    refine o_aloadN (pc := 61) B d8_61 rfl rfl ?_
    refine o_getF (pc := 62) B d8_62 (hw _ (List.mem_of_getElem? (i := 19) rfl)) (Ob.p_F3) ?_
    refine o_iload (pc := 65) B d8_65 rfl ?_
    refine o_iaload (pc := 67) B (0) d8_67 (Ob.p_AC) (by decide) (rfl) ?_
    refine o_aload (pc := 68) B d8_68 rfl rfl ?_
    refine o_arraylen (pc := 70) B (16 : Int32) d8_70 (Ob.p_A0) (by rw [List.length_map, List.length_set, h0]; rfl) ?_
    refine o_callS2 (pc := 71) B 0 d8_71 (hw _ (List.mem_of_getElem? (i := 62) rfl)) (hw _ (List.mem_of_getElem? (i := 63) rfl)) (hw _ (List.mem_of_getElem? (i := 3) rfl)) (hw _ (List.mem_of_getElem? (i := 64) rfl)) (by decide) pd12 rfl (by first | exact Nat.zero_le _ | exact Nat.le_of_ble_eq_true rfl | simp [Value.category]) (by decide) (by decide) (by decide) (by decide) rfl (oc12a l Z a0 hw n0 _ (c0 + 1) (by omega)) ?_
    rintro v h' ⟨rfl, rfl⟩
    refine o_if_eq (pc := 74) (pc' := 122) B d8_74 (by decide) (by decide) (fun hc74 => ?_) (fun hc74 => False.elim (by revert hc74; decide))
    refine o_iconst (pc := 122) B (1 : Int32) d8_122 (by decide) ?_
    exact o_zreturn (pc := 123) B d8_123 (by decide) (by decide) (⟨rfl, _, _, Ob, by rw [List.length_set]; exact h0, h1, fun j q1 q2 => by rw [List.getElem?_set_ne (by omega)]; exact I0 j (by omega) q2, fun j q1 q2 => I1 j (by omega) q2⟩)
  · obtain ⟨rfl, rfl⟩ := hd
    have hd : True ∧ (1 : Nat) = 1 := ⟨trivial, rfl⟩
    have f0 := I1 i (Nat.le_refl _) (by omega)
    have H0 : own_H T1 key ((key.toBitVec.toNat % 2 ^ 4 + 0) % 2 ^ 4) := ⟨0, by rw [Nat.add_zero, Nat.mod_mod, hk]; exact f0, Or.inl rfl⟩
    refine o_lloadN (pc := 0) B d8_0 rfl ?_
    refine o_callS1 (pc := 1) B 0 d8_1 (hw _ (List.mem_of_getElem? (i := 52) rfl)) (hw _ (List.mem_of_getElem? (i := 53) rfl)) (hw _ (List.mem_of_getElem? (i := 3) rfl)) (hw _ (List.mem_of_getElem? (i := 54) rfl)) (by decide) pd9 rfl (by first | exact Nat.zero_le _ | exact Nat.le_of_ble_eq_true rfl | simp [Value.category]) (by decide) (by decide) (by decide) (by decide) rfl (oc9 l Z a0 hw n0 _ key hx) ?_
    rintro v h' ⟨rfl, rfl⟩
    refine o_lstoreN_8_3 (pc := 4) B d8_4 rfl ?_
    refine o_lloadN (pc := 5) B d8_5 rfl ?_
    refine o_aloadN (pc := 6) B d8_6 rfl rfl ?_
    refine o_getF (pc := 7) B d8_7 (hw _ (List.mem_of_getElem? (i := 10) rfl)) (O.p_F1) ?_
    refine o_callS2 (pc := 10) B 0 d8_10 (hw _ (List.mem_of_getElem? (i := 55) rfl)) (hw _ (List.mem_of_getElem? (i := 56) rfl)) (hw _ (List.mem_of_getElem? (i := 3) rfl)) (hw _ (List.mem_of_getElem? (i := 57) rfl)) (by decide) pd10 rfl (by first | exact Nat.zero_le _ | exact Nat.le_of_ble_eq_true rfl | simp [Value.category]) (by decide) (by decide) (by decide) (by decide) rfl (oc10 l Z a0 hw n0 _ key) ?_
    rintro v h' ⟨rfl, rfl⟩
    rw [hs]
    rw [show Int32.ofNat 1 = 1 from rfl]
    refine o_istore_8_5 (pc := 13) B d8_13 rfl ?_
    refine o_aloadN (pc := 15) B d8_15 rfl rfl ?_
    refine o_getF (pc := 16) B d8_16 (hw _ (List.mem_of_getElem? (i := 16) rfl)) (O.p_F2) ?_
    refine o_iload (pc := 19) B d8_19 rfl ?_
    refine o_aaload (pc := 21) B (1) rfl d8_21 (O.p_AR.ar) (by decide) (rfl) ?_
    refine o_astore_8_6 (pc := 22) B d8_22 rfl rfl ?_
    refine o_aload (pc := 24) B d8_24 rfl rfl ?_
    refine o_lloadN (pc := 26) B d8_26 rfl ?_
    refine o_callS2 (pc := 27) B 0 d8_27 (hw _ (List.mem_of_getElem? (i := 59) rfl)) (hw _ (List.mem_of_getElem? (i := 60) rfl)) (hw _ (List.mem_of_getElem? (i := 3) rfl)) (hw _ (List.mem_of_getElem? (i := 61) rfl)) (by decide) pd11 rfl (by first | exact Nat.zero_le _ | exact Nat.le_of_ble_eq_true rfl | simp [Value.category]) (by decide) (by decide) (by decide) (by decide) rfl (oc11 l Z a0 hw n0 _ t1 T1 key 4 0 O.p_A1 (by decide) h1 H0 (fun d q => absurd q (Nat.not_lt_zero d))) ?_
    rintro v h' ⟨rfl, rfl⟩
    rw [show (key.toBitVec.toNat % 2 ^ 4 + 0) % 2 ^ 4 = i by rw [Nat.add_zero, Nat.mod_mod, hk]]
    refine o_istore_8_7 (pc := 30) B d8_30 rfl ?_
    refine o_aload (pc := 32) B d8_32 rfl rfl ?_
    refine o_iload (pc := 34) B d8_34 rfl ?_
    refine o_laload (pc := 36) B (i) d8_36 (O.p_A1) (rfl) (own_mapL f0) ?_
    refine o_lloadN (pc := 37) B d8_37 rfl ?_
    refine o_lcmp (pc := 38) B d8_38 ?_
    refine o_lif_ne (pc := 39) (pc' := 44) B d8_39 (by decide) (by decide) (fun hc39 => ?_) (fun hc39 => False.elim ((hx hc39.symm)))
    refine o_aload (pc := 44) B d8_44 rfl rfl ?_
    refine o_iload (pc := 46) B d8_46 rfl ?_
    refine o_lloadN (pc := 48) B d8_48 rfl ?_
    refine o_lastore (pc := 49) B (i) d8_49 (O.p_A1) (rfl) (own_mltL (by omega)) (O.p_gt1) ?_
    intro ha Wa
    have Oa := O.w1 Wa
    refine o_aloadN (pc := 50) B d8_50 rfl rfl ?_
    refine o_getF (pc := 51) B d8_51 (hw _ (List.mem_of_getElem? (i := 19) rfl)) (Oa.p_F3) ?_
    refine o_iload (pc := 54) B d8_54 rfl ?_
    refine o_dup2 (pc := 56) B d8_56 rfl rfl ?_
    refine o_iaload (pc := 57) B (1) d8_57 (Oa.p_AC) (by decide) (rfl) ?_
    refine o_iconst (pc := 58) B (1 : Int32) d8_58 (by decide) ?_
    refine o_iadd (pc := 59) B d8_59 ?_
    refine o_iastore (pc := 60) B (1) d8_60 (Oa.p_AC) (by decide) (by simp) (Oa.p_gc) ?_
    intro hb_ Wb
    have Ob := Oa.cn1 Wb
    refine o_aloadN (pc := 61) B d8_61 rfl rfl ?_
    refine o_getF (pc := 62) B d8_62 (hw _ (List.mem_of_getElem? (i := 19) rfl)) (Ob.p_F3) ?_
    refine o_iload (pc := 65) B d8_65 rfl ?_
    refine o_iaload (pc := 67) B (1) d8_67 (Ob.p_AC) (by decide) (rfl) ?_
    refine o_aload (pc := 68) B d8_68 rfl rfl ?_
    refine o_arraylen (pc := 70) B (16 : Int32) d8_70 (Ob.p_A1) (by rw [List.length_map, List.length_set, h1]; rfl) ?_
    refine o_callS2 (pc := 71) B 0 d8_71 (hw _ (List.mem_of_getElem? (i := 62) rfl)) (hw _ (List.mem_of_getElem? (i := 63) rfl)) (hw _ (List.mem_of_getElem? (i := 3) rfl)) (hw _ (List.mem_of_getElem? (i := 64) rfl)) (by decide) pd12 rfl (by first | exact Nat.zero_le _ | exact Nat.le_of_ble_eq_true rfl | simp [Value.category]) (by decide) (by decide) (by decide) (by decide) rfl (oc12a l Z a0 hw n0 _ (c1 + 1) (by omega)) ?_
    rintro v h' ⟨rfl, rfl⟩
    refine o_if_eq (pc := 74) (pc' := 122) B d8_74 (by decide) (by decide) (fun hc74 => ?_) (fun hc74 => False.elim (by revert hc74; decide))
    refine o_iconst (pc := 122) B (1 : Int32) d8_122 (by decide) ?_
    exact o_zreturn (pc := 123) B d8_123 (by decide) (by decide) (⟨rfl, _, _, Ob, h0, by rw [List.length_set]; exact h1, fun j q1 q2 => I0 j (by omega) q2, fun j q1 q2 => by rw [List.getElem?_set_ne (by omega)]; exact I1 j (by omega) q2⟩)
set_option maxRecDepth 65536 in
set_option maxHeartbeats 40000000 in
theorem oc8g (l : Launch) (Z : State) (a0 : Array Value) (hw : ∀ d ∈ tables_1, d.before a0 Z = true) (n0 : Nat) (h : Heap) (o ta t0 t1 ac : Addr) (c0 c1 i d0 d1 : Nat) (T0 T1 : List Int64) (key : Int64) (Z0 : n0 ≤ h.size) (O : own_Ob Z n0 h o ta t0 t1 ac c0 c1 T0 T1) (hi : 1 ≤ i) (hi2 : i ≤ 13) (h0 : T0.length = 16) (h1 : T1.length = 16) (I0 : ∀ j, i ≤ j → j < 16 → T0[j]? = some 0) (I1 : ∀ j, i ≤ j → j < 16 → T1[j]? = some 0) (hx : key ≠ 0) (hk : key.toBitVec.toNat % 2 ^ 4 = i) (hs : (XT.ushrL (key ^^^ (-9223372036854775808)) 63).toInt32 = Int32.ofNat d1) (hd : own_case d0 d1) (hc : c0 + c1 = 12) : o_C l Z n0 oy8 prog_6_method_5_code 8 (some .boolean) orm8g [(.ref o), (.long key)] h (fun v h' => v = some (.int 1) ∧ ∃ t0' t1' T0' T1', own_Ob Z n0 h' o ta t0' t1' ac (c0 + d0) (c1 + d1) T0' T1' ∧ T0'.length + T1'.length = (if c0 + d0 = 13 ∨ c1 + d1 = 13 then 48 else 32) ∧ (T0'.length = 16 ∨ T0'.length = 32) ∧ (T1'.length = 16 ∨ T1'.length = 32)) := by
  refine o_body (Ls := [.val (.ref o), .val (.long key), .second, .unset, .unset, .unset, .unset, .unset]) pn8 (by first | (simp [argsToLocals, Value.category]; done) | rfl) (fun κ B => ?_)
  rcases hd with hd | hd
  · obtain ⟨rfl, rfl⟩ := hd
    have hd : True ∧ (0 : Nat) = 0 := ⟨trivial, rfl⟩
    have f0 := I0 i (Nat.le_refl _) (by omega)
    have H0 : own_H T0 key ((key.toBitVec.toNat % 2 ^ 4 + 0) % 2 ^ 4) := ⟨0, by rw [Nat.add_zero, Nat.mod_mod, hk]; exact f0, Or.inl rfl⟩
    refine o_lloadN (pc := 0) B d8_0 rfl ?_
    refine o_callS1 (pc := 1) B 0 d8_1 (hw _ (List.mem_of_getElem? (i := 52) rfl)) (hw _ (List.mem_of_getElem? (i := 53) rfl)) (hw _ (List.mem_of_getElem? (i := 3) rfl)) (hw _ (List.mem_of_getElem? (i := 54) rfl)) (by decide) pd9 rfl (by first | exact Nat.zero_le _ | exact Nat.le_of_ble_eq_true rfl | simp [Value.category]) (by decide) (by decide) (by decide) (by decide) rfl (oc9 l Z a0 hw n0 _ key hx) ?_
    rintro v h' ⟨rfl, rfl⟩
    refine o_lstoreN_8_3 (pc := 4) B d8_4 rfl ?_
    refine o_lloadN (pc := 5) B d8_5 rfl ?_
    refine o_aloadN (pc := 6) B d8_6 rfl rfl ?_
    refine o_getF (pc := 7) B d8_7 (hw _ (List.mem_of_getElem? (i := 10) rfl)) (O.p_F1) ?_
    refine o_callS2 (pc := 10) B 0 d8_10 (hw _ (List.mem_of_getElem? (i := 55) rfl)) (hw _ (List.mem_of_getElem? (i := 56) rfl)) (hw _ (List.mem_of_getElem? (i := 3) rfl)) (hw _ (List.mem_of_getElem? (i := 57) rfl)) (by decide) pd10 rfl (by first | exact Nat.zero_le _ | exact Nat.le_of_ble_eq_true rfl | simp [Value.category]) (by decide) (by decide) (by decide) (by decide) rfl (oc10 l Z a0 hw n0 _ key) ?_
    rintro v h' ⟨rfl, rfl⟩
    rw [hs]
    rw [show Int32.ofNat 0 = 0 from rfl]
    refine o_istore_8_5 (pc := 13) B d8_13 rfl ?_
    refine o_aloadN (pc := 15) B d8_15 rfl rfl ?_
    refine o_getF (pc := 16) B d8_16 (hw _ (List.mem_of_getElem? (i := 16) rfl)) (O.p_F2) ?_
    refine o_iload (pc := 19) B d8_19 rfl ?_
    refine o_aaload (pc := 21) B (0) rfl d8_21 (O.p_AR.ar) (by decide) (rfl) ?_
    refine o_astore_8_6 (pc := 22) B d8_22 rfl rfl ?_
    refine o_aload (pc := 24) B d8_24 rfl rfl ?_
    refine o_lloadN (pc := 26) B d8_26 rfl ?_
    refine o_callS2 (pc := 27) B 0 d8_27 (hw _ (List.mem_of_getElem? (i := 59) rfl)) (hw _ (List.mem_of_getElem? (i := 60) rfl)) (hw _ (List.mem_of_getElem? (i := 3) rfl)) (hw _ (List.mem_of_getElem? (i := 61) rfl)) (by decide) pd11 rfl (by first | exact Nat.zero_le _ | exact Nat.le_of_ble_eq_true rfl | simp [Value.category]) (by decide) (by decide) (by decide) (by decide) rfl (oc11 l Z a0 hw n0 _ t0 T0 key 4 0 O.p_A0 (by decide) h0 H0 (fun d q => absurd q (Nat.not_lt_zero d))) ?_
    rintro v h' ⟨rfl, rfl⟩
    rw [show (key.toBitVec.toNat % 2 ^ 4 + 0) % 2 ^ 4 = i by rw [Nat.add_zero, Nat.mod_mod, hk]]
    refine o_istore_8_7 (pc := 30) B d8_30 rfl ?_
    refine o_aload (pc := 32) B d8_32 rfl rfl ?_
    refine o_iload (pc := 34) B d8_34 rfl ?_
    refine o_laload (pc := 36) B (i) d8_36 (O.p_A0) (rfl) (own_mapL f0) ?_
    refine o_lloadN (pc := 37) B d8_37 rfl ?_
    refine o_lcmp (pc := 38) B d8_38 ?_
    refine o_lif_ne (pc := 39) (pc' := 44) B d8_39 (by decide) (by decide) (fun hc39 => ?_) (fun hc39 => False.elim ((hx hc39.symm)))
    refine o_aload (pc := 44) B d8_44 rfl rfl ?_
    refine o_iload (pc := 46) B d8_46 rfl ?_
    refine o_lloadN (pc := 48) B d8_48 rfl ?_
    refine o_lastore (pc := 49) B (i) d8_49 (O.p_A0) (rfl) (own_mltL (by omega)) (O.p_gt0) ?_
    intro ha Wa
    have Oa := O.w0 Wa
    refine o_aloadN (pc := 50) B d8_50 rfl rfl ?_
    refine o_getF (pc := 51) B d8_51 (hw _ (List.mem_of_getElem? (i := 19) rfl)) (Oa.p_F3) ?_
    refine o_iload (pc := 54) B d8_54 rfl ?_
    refine o_dup2 (pc := 56) B d8_56 rfl rfl ?_
    refine o_iaload (pc := 57) B (0) d8_57 (Oa.p_AC) (by decide) (rfl) ?_
    refine o_iconst (pc := 58) B (1 : Int32) d8_58 (by decide) ?_
    refine o_iadd (pc := 59) B d8_59 ?_
    refine o_iastore (pc := 60) B (0) d8_60 (Oa.p_AC) (by decide) (by simp) (Oa.p_gc) ?_
    intro hb_ Wb
    have Ob := Oa.cn0 Wb
    refine o_aloadN (pc := 61) B d8_61 rfl rfl ?_
    refine o_getF (pc := 62) B d8_62 (hw _ (List.mem_of_getElem? (i := 19) rfl)) (Ob.p_F3) ?_
    refine o_iload (pc := 65) B d8_65 rfl ?_
    refine o_iaload (pc := 67) B (0) d8_67 (Ob.p_AC) (by decide) (rfl) ?_
    refine o_aload (pc := 68) B d8_68 rfl rfl ?_
    refine o_arraylen (pc := 70) B (16 : Int32) d8_70 (Ob.p_A0) (by rw [List.length_map, List.length_set, h0]; rfl) ?_
    by_cases ec : c0 = 12
    · subst ec
      refine o_callS2 (pc := 71) B 0 d8_71 (hw _ (List.mem_of_getElem? (i := 62) rfl)) (hw _ (List.mem_of_getElem? (i := 63) rfl)) (hw _ (List.mem_of_getElem? (i := 3) rfl)) (hw _ (List.mem_of_getElem? (i := 64) rfl)) (by decide) pd12 rfl (by first | exact Nat.zero_le _ | exact Nat.le_of_ble_eq_true rfl | simp [Value.category]) (by decide) (by decide) (by decide) (by decide) rfl (oc12b l Z a0 hw n0 _) ?_
      rintro v h' ⟨rfl, rfl⟩
      refine o_if_eq (pc := 74) (pc' := 122) B d8_74 (by decide) (by decide) (fun hc74 => False.elim (by revert hc74; decide)) (fun hc74 => ?_)
      refine o_aload (pc := 77) B d8_77 rfl rfl ?_
      refine o_arraylen (pc := 79) B (16 : Int32) d8_79 (Ob.p_A0) (by rw [List.length_map, List.length_set, h0]; rfl) ?_
      refine o_ldc (pc := 80) B (x := (32768 : Int32)) d8_80 (hw _ (List.mem_of_getElem? (i := 67) rfl)) ?_
      refine o_icmp_ge (pc := 82) (pc' := 100) B d8_82 (by decide) (by decide) (fun hc82 => False.elim (by revert hc82; decide)) (fun hc82 => ?_)
      refine o_aloadN (pc := 85) B d8_85 rfl rfl ?_
      refine o_getF (pc := 86) B d8_86 (hw _ (List.mem_of_getElem? (i := 16) rfl)) (Ob.p_F2) ?_
      refine o_iload (pc := 89) B d8_89 rfl ?_
      refine o_aload (pc := 91) B d8_91 rfl rfl ?_
      have Zb : n0 ≤ Array.size (α := Cell) _ := Nat.le_trans (o_le Ob.p_g0) (Nat.le_of_lt (o_lt Ob.p_E.lt))
      have l1 := o_lt Ob.p_E.lt
      have l2 := o_lt Ob.p_AR.lt
      have l3 := o_lt Ob.p_A1.lt
      have l4 := o_lt Ob.p_AC.lt
      refine o_callS1 (pc := 93) B 2 d8_93 (hw _ (List.mem_of_getElem? (i := 68) rfl)) (hw _ (List.mem_of_getElem? (i := 69) rfl)) (hw _ (List.mem_of_getElem? (i := 3) rfl)) (hw _ (List.mem_of_getElem? (i := 70) rfl)) (by decide) pd13 rfl (by first | exact Nat.zero_le _ | exact Nat.le_of_ble_eq_true rfl | simp [Value.category]) (by decide) (by decide) (by decide) (by decide) rfl (oc13 l Z a0 hw n0 _ t0 _ (by rw [List.length_set]; exact h0) Zb Ob.p_A0) ?_
      rintro v hg ⟨g, rfl, eg', ⟨G, AG, hG⟩, EG, KG⟩
      have eg := o_eq eg'
      have Og := Ob.keep KG
      refine o_aastore (pc := 96) B (0) rfl d8_96 (Og.p_AR) (by decide) (by simp) (o_stoA Og.p_AR EG) (Og.p_ga) ?_
      intro hz Wz
      have Oz := Og.r0 (by omega) (o_ne (by omega)) (o_ne (by omega)) (o_ne (by omega)) (o_ne (by omega)) AG Wz
      refine o_goto (pc := 97) (pc' := 122) B d8_97 (by decide) (by decide) ?_
      refine o_iconst (pc := 122) B (1 : Int32) d8_122 (by decide) ?_
      exact o_zreturn (pc := 123) B d8_123 (by decide) (by decide) (⟨rfl, _, _, _, _, Oz, by rw [hG, h1, if_pos (Or.inl rfl)], Or.inr hG, Or.inl h1⟩)
    refine o_callS2 (pc := 71) B 0 d8_71 (hw _ (List.mem_of_getElem? (i := 62) rfl)) (hw _ (List.mem_of_getElem? (i := 63) rfl)) (hw _ (List.mem_of_getElem? (i := 3) rfl)) (hw _ (List.mem_of_getElem? (i := 64) rfl)) (by decide) pd12 rfl (by first | exact Nat.zero_le _ | exact Nat.le_of_ble_eq_true rfl | simp [Value.category]) (by decide) (by decide) (by decide) (by decide) rfl (oc12a l Z a0 hw n0 _ (c0 + 1) (by omega)) ?_
    rintro v h' ⟨rfl, rfl⟩
    refine o_if_eq (pc := 74) (pc' := 122) B d8_74 (by decide) (by decide) (fun hc74 => ?_) (fun hc74 => False.elim (by revert hc74; decide))
    refine o_iconst (pc := 122) B (1 : Int32) d8_122 (by decide) ?_
    exact o_zreturn (pc := 123) B d8_123 (by decide) (by decide) (⟨rfl, _, _, _, _, Ob, by rw [List.length_set, h0, h1, if_neg (by omega : ¬ (c0 + 1 = 13 ∨ c1 + 0 = 13))], Or.inl (by rw [List.length_set]; exact h0), Or.inl h1⟩)
  · obtain ⟨rfl, rfl⟩ := hd
    have hd : True ∧ (1 : Nat) = 1 := ⟨trivial, rfl⟩
    have f0 := I1 i (Nat.le_refl _) (by omega)
    have H0 : own_H T1 key ((key.toBitVec.toNat % 2 ^ 4 + 0) % 2 ^ 4) := ⟨0, by rw [Nat.add_zero, Nat.mod_mod, hk]; exact f0, Or.inl rfl⟩
    refine o_lloadN (pc := 0) B d8_0 rfl ?_
    refine o_callS1 (pc := 1) B 0 d8_1 (hw _ (List.mem_of_getElem? (i := 52) rfl)) (hw _ (List.mem_of_getElem? (i := 53) rfl)) (hw _ (List.mem_of_getElem? (i := 3) rfl)) (hw _ (List.mem_of_getElem? (i := 54) rfl)) (by decide) pd9 rfl (by first | exact Nat.zero_le _ | exact Nat.le_of_ble_eq_true rfl | simp [Value.category]) (by decide) (by decide) (by decide) (by decide) rfl (oc9 l Z a0 hw n0 _ key hx) ?_
    rintro v h' ⟨rfl, rfl⟩
    refine o_lstoreN_8_3 (pc := 4) B d8_4 rfl ?_
    refine o_lloadN (pc := 5) B d8_5 rfl ?_
    refine o_aloadN (pc := 6) B d8_6 rfl rfl ?_
    refine o_getF (pc := 7) B d8_7 (hw _ (List.mem_of_getElem? (i := 10) rfl)) (O.p_F1) ?_
    refine o_callS2 (pc := 10) B 0 d8_10 (hw _ (List.mem_of_getElem? (i := 55) rfl)) (hw _ (List.mem_of_getElem? (i := 56) rfl)) (hw _ (List.mem_of_getElem? (i := 3) rfl)) (hw _ (List.mem_of_getElem? (i := 57) rfl)) (by decide) pd10 rfl (by first | exact Nat.zero_le _ | exact Nat.le_of_ble_eq_true rfl | simp [Value.category]) (by decide) (by decide) (by decide) (by decide) rfl (oc10 l Z a0 hw n0 _ key) ?_
    rintro v h' ⟨rfl, rfl⟩
    rw [hs]
    rw [show Int32.ofNat 1 = 1 from rfl]
    refine o_istore_8_5 (pc := 13) B d8_13 rfl ?_
    refine o_aloadN (pc := 15) B d8_15 rfl rfl ?_
    refine o_getF (pc := 16) B d8_16 (hw _ (List.mem_of_getElem? (i := 16) rfl)) (O.p_F2) ?_
    refine o_iload (pc := 19) B d8_19 rfl ?_
    refine o_aaload (pc := 21) B (1) rfl d8_21 (O.p_AR.ar) (by decide) (rfl) ?_
    refine o_astore_8_6 (pc := 22) B d8_22 rfl rfl ?_
    refine o_aload (pc := 24) B d8_24 rfl rfl ?_
    refine o_lloadN (pc := 26) B d8_26 rfl ?_
    refine o_callS2 (pc := 27) B 0 d8_27 (hw _ (List.mem_of_getElem? (i := 59) rfl)) (hw _ (List.mem_of_getElem? (i := 60) rfl)) (hw _ (List.mem_of_getElem? (i := 3) rfl)) (hw _ (List.mem_of_getElem? (i := 61) rfl)) (by decide) pd11 rfl (by first | exact Nat.zero_le _ | exact Nat.le_of_ble_eq_true rfl | simp [Value.category]) (by decide) (by decide) (by decide) (by decide) rfl (oc11 l Z a0 hw n0 _ t1 T1 key 4 0 O.p_A1 (by decide) h1 H0 (fun d q => absurd q (Nat.not_lt_zero d))) ?_
    rintro v h' ⟨rfl, rfl⟩
    rw [show (key.toBitVec.toNat % 2 ^ 4 + 0) % 2 ^ 4 = i by rw [Nat.add_zero, Nat.mod_mod, hk]]
    refine o_istore_8_7 (pc := 30) B d8_30 rfl ?_
    refine o_aload (pc := 32) B d8_32 rfl rfl ?_
    refine o_iload (pc := 34) B d8_34 rfl ?_
    refine o_laload (pc := 36) B (i) d8_36 (O.p_A1) (rfl) (own_mapL f0) ?_
    refine o_lloadN (pc := 37) B d8_37 rfl ?_
    refine o_lcmp (pc := 38) B d8_38 ?_
    refine o_lif_ne (pc := 39) (pc' := 44) B d8_39 (by decide) (by decide) (fun hc39 => ?_) (fun hc39 => False.elim ((hx hc39.symm)))
    refine o_aload (pc := 44) B d8_44 rfl rfl ?_
    refine o_iload (pc := 46) B d8_46 rfl ?_
    refine o_lloadN (pc := 48) B d8_48 rfl ?_
    refine o_lastore (pc := 49) B (i) d8_49 (O.p_A1) (rfl) (own_mltL (by omega)) (O.p_gt1) ?_
    intro ha Wa
    have Oa := O.w1 Wa
    refine o_aloadN (pc := 50) B d8_50 rfl rfl ?_
    refine o_getF (pc := 51) B d8_51 (hw _ (List.mem_of_getElem? (i := 19) rfl)) (Oa.p_F3) ?_
    refine o_iload (pc := 54) B d8_54 rfl ?_
    refine o_dup2 (pc := 56) B d8_56 rfl rfl ?_
    refine o_iaload (pc := 57) B (1) d8_57 (Oa.p_AC) (by decide) (rfl) ?_
    refine o_iconst (pc := 58) B (1 : Int32) d8_58 (by decide) ?_
    refine o_iadd (pc := 59) B d8_59 ?_
    refine o_iastore (pc := 60) B (1) d8_60 (Oa.p_AC) (by decide) (by simp) (Oa.p_gc) ?_
    intro hb_ Wb
    have Ob := Oa.cn1 Wb
    refine o_aloadN (pc := 61) B d8_61 rfl rfl ?_
    refine o_getF (pc := 62) B d8_62 (hw _ (List.mem_of_getElem? (i := 19) rfl)) (Ob.p_F3) ?_
    refine o_iload (pc := 65) B d8_65 rfl ?_
    refine o_iaload (pc := 67) B (1) d8_67 (Ob.p_AC) (by decide) (rfl) ?_
    refine o_aload (pc := 68) B d8_68 rfl rfl ?_
    refine o_arraylen (pc := 70) B (16 : Int32) d8_70 (Ob.p_A1) (by rw [List.length_map, List.length_set, h1]; rfl) ?_
    by_cases ec : c1 = 12
    · subst ec
      refine o_callS2 (pc := 71) B 0 d8_71 (hw _ (List.mem_of_getElem? (i := 62) rfl)) (hw _ (List.mem_of_getElem? (i := 63) rfl)) (hw _ (List.mem_of_getElem? (i := 3) rfl)) (hw _ (List.mem_of_getElem? (i := 64) rfl)) (by decide) pd12 rfl (by first | exact Nat.zero_le _ | exact Nat.le_of_ble_eq_true rfl | simp [Value.category]) (by decide) (by decide) (by decide) (by decide) rfl (oc12b l Z a0 hw n0 _) ?_
      rintro v h' ⟨rfl, rfl⟩
      refine o_if_eq (pc := 74) (pc' := 122) B d8_74 (by decide) (by decide) (fun hc74 => False.elim (by revert hc74; decide)) (fun hc74 => ?_)
      refine o_aload (pc := 77) B d8_77 rfl rfl ?_
      refine o_arraylen (pc := 79) B (16 : Int32) d8_79 (Ob.p_A1) (by rw [List.length_map, List.length_set, h1]; rfl) ?_
      refine o_ldc (pc := 80) B (x := (32768 : Int32)) d8_80 (hw _ (List.mem_of_getElem? (i := 67) rfl)) ?_
      refine o_icmp_ge (pc := 82) (pc' := 100) B d8_82 (by decide) (by decide) (fun hc82 => False.elim (by revert hc82; decide)) (fun hc82 => ?_)
      refine o_aloadN (pc := 85) B d8_85 rfl rfl ?_
      refine o_getF (pc := 86) B d8_86 (hw _ (List.mem_of_getElem? (i := 16) rfl)) (Ob.p_F2) ?_
      refine o_iload (pc := 89) B d8_89 rfl ?_
      refine o_aload (pc := 91) B d8_91 rfl rfl ?_
      have Zb : n0 ≤ Array.size (α := Cell) _ := Nat.le_trans (o_le Ob.p_g0) (Nat.le_of_lt (o_lt Ob.p_E.lt))
      have l1 := o_lt Ob.p_E.lt
      have l2 := o_lt Ob.p_AR.lt
      have l3 := o_lt Ob.p_A0.lt
      have l4 := o_lt Ob.p_AC.lt
      refine o_callS1 (pc := 93) B 2 d8_93 (hw _ (List.mem_of_getElem? (i := 68) rfl)) (hw _ (List.mem_of_getElem? (i := 69) rfl)) (hw _ (List.mem_of_getElem? (i := 3) rfl)) (hw _ (List.mem_of_getElem? (i := 70) rfl)) (by decide) pd13 rfl (by first | exact Nat.zero_le _ | exact Nat.le_of_ble_eq_true rfl | simp [Value.category]) (by decide) (by decide) (by decide) (by decide) rfl (oc13 l Z a0 hw n0 _ t1 _ (by rw [List.length_set]; exact h1) Zb Ob.p_A1) ?_
      rintro v hg ⟨g, rfl, eg', ⟨G, AG, hG⟩, EG, KG⟩
      have eg := o_eq eg'
      have Og := Ob.keep KG
      refine o_aastore (pc := 96) B (1) rfl d8_96 (Og.p_AR) (by decide) (by simp) (o_stoA Og.p_AR EG) (Og.p_ga) ?_
      intro hz Wz
      have Oz := Og.r1 (by omega) (o_ne (by omega)) (o_ne (by omega)) (o_ne (by omega)) (o_ne (by omega)) AG Wz
      refine o_goto (pc := 97) (pc' := 122) B d8_97 (by decide) (by decide) ?_
      refine o_iconst (pc := 122) B (1 : Int32) d8_122 (by decide) ?_
      exact o_zreturn (pc := 123) B d8_123 (by decide) (by decide) (⟨rfl, _, _, _, _, Oz, by rw [hG, h0, if_pos (Or.inr rfl)], Or.inl h0, Or.inr hG⟩)
    refine o_callS2 (pc := 71) B 0 d8_71 (hw _ (List.mem_of_getElem? (i := 62) rfl)) (hw _ (List.mem_of_getElem? (i := 63) rfl)) (hw _ (List.mem_of_getElem? (i := 3) rfl)) (hw _ (List.mem_of_getElem? (i := 64) rfl)) (by decide) pd12 rfl (by first | exact Nat.zero_le _ | exact Nat.le_of_ble_eq_true rfl | simp [Value.category]) (by decide) (by decide) (by decide) (by decide) rfl (oc12a l Z a0 hw n0 _ (c1 + 1) (by omega)) ?_
    rintro v h' ⟨rfl, rfl⟩
    refine o_if_eq (pc := 74) (pc' := 122) B d8_74 (by decide) (by decide) (fun hc74 => ?_) (fun hc74 => False.elim (by revert hc74; decide))
    refine o_iconst (pc := 122) B (1 : Int32) d8_122 (by decide) ?_
    exact o_zreturn (pc := 123) B d8_123 (by decide) (by decide) (⟨rfl, _, _, _, _, Ob, by rw [List.length_set, h0, h1, if_neg (by omega : ¬ (c0 + 0 = 13 ∨ c1 + 1 = 13))], Or.inl h0, Or.inl (by rw [List.length_set]; exact h1)⟩)
set_option maxRecDepth 65536 in
set_option maxHeartbeats 40000000 in
theorem oc14 (l : Launch) (Z : State) (a0 : Array Value) (hw : ∀ d ∈ tables_1, d.before a0 Z = true) (n0 : Nat) (h : Heap) (o ta t0 t1 ac : Addr) (c0 c1 : Nat) (T0 T1 : List Int64) (O : own_Ob Z n0 h o ta t0 t1 ac c0 c1 T0 T1) (h0 : T0.length = 16 ∨ T0.length = 32) (h1 : T1.length = 16 ∨ T1.length = 32) : o_C l Z n0 oy14 prog_6_method_4_code 7 (some .long) orm14 [(.ref o)] h (fun v h' => v = some (.long (Int64.ofNat (T0.length + T1.length))) ∧ h' = h) := by
  refine o_body (Ls := [.val (.ref o), .unset, .unset, .unset, .unset, .unset, .unset]) pn14 (by first | (simp [argsToLocals, Value.category]; done) | rfl) (fun κ B => ?_)
  refine o_lconst (pc := 0) B (0 : Int64) d14_0 (by decide) ?_
  refine o_lstoreN_7_1 (pc := 1) B d14_1 rfl ?_
  refine o_aloadN (pc := 2) B d14_2 rfl rfl ?_
  refine o_getF (pc := 3) B d14_3 (hw _ (List.mem_of_getElem? (i := 16) rfl)) (O.p_F2) ?_
  refine o_astoreN_7_3 (pc := 6) B d14_6 rfl rfl ?_
  refine o_aloadN (pc := 7) B d14_7 rfl rfl ?_
  refine o_arraylen (pc := 8) B (2 : Int32) d14_8 (O.p_AR.ar) (rfl) ?_
  refine o_istore_7_4 (pc := 9) B d14_9 rfl ?_
  refine o_iconst (pc := 11) B (0 : Int32) d14_11 (by decide) ?_
  refine o_istore_7_5 (pc := 12) B d14_12 rfl ?_
  refine o_iload (pc := 14) B d14_14 rfl ?_
  refine o_iload (pc := 16) B d14_16 rfl ?_
  refine o_icmp_ge (pc := 18) (pc' := 40) B d14_18 (by decide) (by decide) (fun hc18 => False.elim (by revert hc18; decide)) (fun hc18 => ?_)
  refine o_aloadN (pc := 21) B d14_21 rfl rfl ?_
  refine o_iload (pc := 22) B d14_22 rfl ?_
  refine o_aaload (pc := 24) B (0) rfl d14_24 (O.p_AR.ar) (by decide) (rfl) ?_
  refine o_astore_7_6 (pc := 25) B d14_25 rfl rfl ?_
  refine o_lloadN (pc := 27) B d14_27 rfl ?_
  refine o_aload (pc := 28) B d14_28 rfl rfl ?_
  refine o_arraylen (pc := 30) B (Int32.ofNat T0.length) d14_30 (O.p_A0) (by rw [List.length_map]) ?_
  refine o_i2l (pc := 31) B d14_31 ?_
  refine o_ladd (pc := 32) B d14_32 ?_
  refine o_lstoreN_7_1 (pc := 33) B d14_33 rfl ?_
  refine o_iinc_7_5 (pc := 34) B (1 : Int32) (1 : Int32) d14_34 (by decide) (by decide) ?_
  refine o_goto (pc := 37) (pc' := 14) B d14_37 (by decide) (by decide) ?_
  refine o_iload (pc := 14) B d14_14 rfl ?_
  refine o_iload (pc := 16) B d14_16 rfl ?_
  refine o_icmp_ge (pc := 18) (pc' := 40) B d14_18 (by decide) (by decide) (fun hc18 => False.elim (by revert hc18; decide)) (fun hc18 => ?_)
  refine o_aloadN (pc := 21) B d14_21 rfl rfl ?_
  refine o_iload (pc := 22) B d14_22 rfl ?_
  refine o_aaload (pc := 24) B (1) rfl d14_24 (O.p_AR.ar) (by decide) (rfl) ?_
  refine o_astore_7_6 (pc := 25) B d14_25 rfl rfl ?_
  refine o_lloadN (pc := 27) B d14_27 rfl ?_
  refine o_aload (pc := 28) B d14_28 rfl rfl ?_
  refine o_arraylen (pc := 30) B (Int32.ofNat T1.length) d14_30 (O.p_A1) (by rw [List.length_map]) ?_
  refine o_i2l (pc := 31) B d14_31 ?_
  refine o_ladd (pc := 32) B d14_32 ?_
  refine o_lstoreN_7_1 (pc := 33) B d14_33 rfl ?_
  refine o_iinc_7_5 (pc := 34) B (1 : Int32) (2 : Int32) d14_34 (by decide) (by decide) ?_
  refine o_goto (pc := 37) (pc' := 14) B d14_37 (by decide) (by decide) ?_
  refine o_iload (pc := 14) B d14_14 rfl ?_
  refine o_iload (pc := 16) B d14_16 rfl ?_
  refine o_icmp_ge (pc := 18) (pc' := 40) B d14_18 (by decide) (by decide) (fun hc18 => ?_) (fun hc18 => False.elim (by revert hc18; decide))
  refine o_lloadN (pc := 40) B d14_40 rfl ?_
  exact o_lreturn (pc := 41) B d14_41 (by decide) (by decide) (⟨by rw [own_wide (by omega), own_wide (by omega), show (0 : Int64) + Int64.ofNat T0.length = Int64.ofNat T0.length from Int64.zero_add _, ← Int64.ofNat_add], rfl⟩)
def own_bit (F k : Nat) : Nat := F / 2 ^ k % 2
theorem own_and1 (x : Int32) : x &&& 1 = Int32.ofNat (x.toBitVec.toNat % 2) := own_and x (j := 1) (by decide)
def own_mid (m : Int64) : Prop := m.toBitVec.toNat % 2 ^ 4 = 0 ∧ m.toBitVec.toNat < 2 ^ 63
theorem own_x63 {x : Nat} (h : x < 2 ^ 63) : 2 ^ 63 ^^^ x = 2 ^ 63 + x := by
  have e := Nat.two_pow_add_eq_or_of_lt h 1
  rw [Nat.mul_one] at e
  rw [e]
  apply Nat.eq_of_testBit_eq; intro k
  rw [Nat.testBit_xor, Nat.testBit_or, Nat.testBit_two_pow]
  by_cases q : 63 = k
  · subst q
    rw [Nat.testBit_lt_two_pow h]; simp
  · simp [q]
/-- the key that fp makes: its segment, its slot -/
theorem own_key {m : Int64} {i : Nat} (hm : own_mid m) (h1 : 1 ≤ i) (h2 : i ≤ 13) :
    (((-9223372036854775808 : Int64) ||| m ||| Int64.ofNat i) ≠ 0 ∧ ((-9223372036854775808 : Int64) ||| m ||| Int64.ofNat i).toBitVec.toNat % 2 ^ 4 = i ∧ (XT.ushrL (((-9223372036854775808 : Int64) ||| m ||| Int64.ofNat i) ^^^ (-9223372036854775808)) 63).toInt32 = Int32.ofNat 0) ∧
    (((0 : Int64) ||| m ||| Int64.ofNat i) ≠ 0 ∧ ((0 : Int64) ||| m ||| Int64.ofNat i).toBitVec.toNat % 2 ^ 4 = i ∧ (XT.ushrL (((0 : Int64) ||| m ||| Int64.ofNat i) ^^^ (-9223372036854775808)) 63).toInt32 = Int32.ofNat 1) := by
  obtain ⟨m1, m2⟩ := hm
  have en : (Int64.ofNat i).toBitVec.toNat = i := own_i64n i (by omega)
  have o1 : m.toBitVec.toNat ||| i = m.toBitVec.toNat + i := by
    have e : m.toBitVec.toNat = 2 ^ 4 * (m.toBitVec.toNat / 2 ^ 4) := by omega
    rw [e, ← Nat.two_pow_add_eq_or_of_lt (by omega)]
  have z1 : ((0 : Int64) ||| m ||| Int64.ofNat i).toBitVec.toNat = m.toBitVec.toNat + i := by
    rw [Int64.zero_or, Int64.toBitVec_or, BitVec.toNat_or, en, o1]
  have k1 : ((-9223372036854775808 : Int64) ||| m ||| Int64.ofNat i).toBitVec.toNat = 2 ^ 63 + (m.toBitVec.toNat + i) := by
    rw [Int64.or_assoc, Int64.toBitVec_or, BitVec.toNat_or, Int64.toBitVec_or, BitVec.toNat_or, en, o1]
    show 9223372036854775808 ||| _ = _
    rw [show (9223372036854775808 : Nat) = 2 ^ 63 * 1 by decide, ← Nat.two_pow_add_eq_or_of_lt (by omega)]
  have nz : ∀ {x : Int64}, x.toBitVec.toNat ≠ 0 → x ≠ 0 := fun h e => h (by rw [e]; rfl)
  have seg : ∀ x : Int64, (XT.ushrL (x ^^^ (-9223372036854775808)) 63).toInt32 = Int32.ofNat ((x.toBitVec.toNat ^^^ 2 ^ 63) / 2 ^ 63) := fun x => by
    have e : (XT.ushrL (x ^^^ (-9223372036854775808)) 63) = Int64.ofNat ((x.toBitVec.toNat ^^^ 2 ^ 63) / 2 ^ 63) := by
      have lt : (x.toBitVec.toNat ^^^ 2 ^ 63) < 2 ^ 64 := Nat.xor_lt_two_pow x.toBitVec.isLt (by decide)
      apply Int64.toBitVec_inj.mp; apply BitVec.eq_of_toNat_eq
      rw [own_i64n _ (by omega)]
      have e2 : (XT.ushrL (x ^^^ (-9223372036854775808)) 63).toBitVec = (x ^^^ (-9223372036854775808)).toBitVec >>> 63 := rfl
      rw [e2, BitVec.toNat_ushiftRight, Nat.shiftRight_eq_div_pow, Int64.toBitVec_xor, BitVec.toNat_xor]
      rfl
    have lt : (x.toBitVec.toNat ^^^ 2 ^ 63) < 2 ^ 64 := Nat.xor_lt_two_pow x.toBitVec.isLt (by decide)
    rw [e, own_narrow (by omega)]
  refine ⟨⟨nz (by omega), by omega, ?_⟩, ⟨nz (by omega), by omega, ?_⟩⟩
  · rw [seg, k1]
    have e : (2 ^ 63 + (m.toBitVec.toNat + i)) ^^^ 2 ^ 63 = m.toBitVec.toNat + i := by
      rw [Nat.xor_comm, ← own_x63 (by omega), ← Nat.xor_assoc, Nat.xor_self, Nat.zero_xor]
    rw [e, Nat.div_eq_of_lt (by omega)]
  · rw [seg, z1]
    have e : (m.toBitVec.toNat + i) ^^^ 2 ^ 63 = 2 ^ 63 + (m.toBitVec.toNat + i) := by rw [Nat.xor_comm]; exact own_x63 (by omega)
    rw [e]
    congr 1; omega
set_option maxRecDepth 65536 in
set_option maxHeartbeats 40000000 in
theorem oc7_1 (l : Launch) (Z : State) (a0 : Array Value) (hw : ∀ d ∈ tables_1, d.before a0 Z = true) (n0 : Nat) (h : Heap) (m : Int64) (flags : Int32) (hm : own_mid m) : o_C l Z n0 oy7 method_2_code 6 (some .long) orm7 [(.long m), (.int flags), (.int 1)] h (fun v h' => (∃ key d0 d1, v = some (.long key) ∧ key ≠ 0 ∧ key.toBitVec.toNat % 2 ^ 4 = 1 ∧ (XT.ushrL (key ^^^ (-9223372036854775808)) 63).toInt32 = Int32.ofNat d1 ∧ own_case d0 d1 ∧ d0 + d1 = 1 ∧ d0 = own_bit flags.toBitVec.toNat 0) ∧ h' = h) := by
  refine o_body (Ls := [.val (.long m), .second, .val (.int flags), .val (.int 1), .unset, .unset]) pn7 (by first | (simp [argsToLocals, Value.category]; done) | rfl) (fun κ B => ?_)
  have eb : XT.ushr flags 0 &&& 1 = Int32.ofNat (own_bit flags.toBitVec.toNat 0) := by
    rw [own_and1]
    have e2 : (XT.ushr flags 0).toBitVec = flags.toBitVec >>> 0 := rfl
    rw [e2, BitVec.toNat_ushiftRight, Nat.shiftRight_eq_div_pow]; rfl
  have hb2 : own_bit flags.toBitVec.toNat 0 < 2 := Nat.mod_lt _ (by decide)
  obtain ⟨⟨a1, a2, a3⟩, ⟨b1, b2, b3⟩⟩ := own_key (i := 1) hm (by decide) (by decide)
  refine o_iloadN (pc := 0) B d7_0 rfl ?_
  refine o_iloadN (pc := 1) B d7_1 rfl ?_
  refine o_iconst (pc := 2) B (1 : Int32) d7_2 (by decide) ?_
  refine o_isub_c (pc := 3) B (0 : Int32) d7_3 (by decide) ?_
  refine o_iushr (pc := 4) B d7_4 ?_
  refine o_iconst (pc := 5) B (1 : Int32) d7_5 (by decide) ?_
  refine o_iand (pc := 6) B d7_6 ?_
  rw [eb]
  refine o_if_eq (pc := 7) (pc' := 16) B d7_7 (by decide) (by decide) (fun hc7 => ?_) (fun hc7 => ?_)
  · have e0 : own_bit flags.toBitVec.toNat 0 = 0 := (own_inj (b := 0) (by omega) (by decide)).mp hc7
    refine o_lconst (pc := 16) B (0 : Int64) d7_16 (by decide) ?_
    refine o_lstore_6_4 (pc := 17) B d7_17 rfl ?_
    refine o_lload (pc := 19) B d7_19 rfl ?_
    refine o_lloadN (pc := 21) B d7_21 rfl ?_
    refine o_lor (pc := 22) B d7_22 ?_
    refine o_iloadN (pc := 23) B d7_23 rfl ?_
    refine o_i2l (pc := 24) B d7_24 ?_
    refine o_lor (pc := 25) B d7_25 ?_
    exact o_lreturn (pc := 26) B d7_26 (by decide) (by decide) (⟨⟨_, 0, 1, rfl, b1, b2, b3, Or.inr ⟨rfl, rfl⟩, rfl, e0.symm⟩, rfl⟩)
  have e1 : own_bit flags.toBitVec.toNat 0 = 1 := by
    have : own_bit flags.toBitVec.toNat 0 ≠ 0 := fun q => hc7 (by rw [q]; rfl)
    omega
  refine o_ldc2_w (pc := 10) B (x := (-9223372036854775808 : Int64)) d7_10 (hw _ (List.mem_of_getElem? (i := 77) rfl)) ?_
  refine o_goto (pc := 13) (pc' := 17) B d7_13 (by decide) (by decide) ?_
  refine o_lstore_6_4 (pc := 17) B d7_17 rfl ?_
  refine o_lload (pc := 19) B d7_19 rfl ?_
  refine o_lloadN (pc := 21) B d7_21 rfl ?_
  refine o_lor (pc := 22) B d7_22 ?_
  refine o_iloadN (pc := 23) B d7_23 rfl ?_
  refine o_i2l (pc := 24) B d7_24 ?_
  refine o_lor (pc := 25) B d7_25 ?_
  exact o_lreturn (pc := 26) B d7_26 (by decide) (by decide) (⟨⟨_, 1, 0, rfl, a1, a2, a3, Or.inl ⟨rfl, rfl⟩, rfl, e1.symm⟩, rfl⟩)
set_option maxRecDepth 65536 in
set_option maxHeartbeats 40000000 in
theorem oc7_2 (l : Launch) (Z : State) (a0 : Array Value) (hw : ∀ d ∈ tables_1, d.before a0 Z = true) (n0 : Nat) (h : Heap) (m : Int64) (flags : Int32) (hm : own_mid m) : o_C l Z n0 oy7 method_2_code 6 (some .long) orm7 [(.long m), (.int flags), (.int 2)] h (fun v h' => (∃ key d0 d1, v = some (.long key) ∧ key ≠ 0 ∧ key.toBitVec.toNat % 2 ^ 4 = 2 ∧ (XT.ushrL (key ^^^ (-9223372036854775808)) 63).toInt32 = Int32.ofNat d1 ∧ own_case d0 d1 ∧ d0 + d1 = 1 ∧ d0 = own_bit flags.toBitVec.toNat 1) ∧ h' = h) := by
  refine o_body (Ls := [.val (.long m), .second, .val (.int flags), .val (.int 2), .unset, .unset]) pn7 (by first | (simp [argsToLocals, Value.category]; done) | rfl) (fun κ B => ?_)
  have eb : XT.ushr flags 1 &&& 1 = Int32.ofNat (own_bit flags.toBitVec.toNat 1) := by
    rw [own_and1]
    have e2 : (XT.ushr flags 1).toBitVec = flags.toBitVec >>> 1 := rfl
    rw [e2, BitVec.toNat_ushiftRight, Nat.shiftRight_eq_div_pow]; rfl
  have hb2 : own_bit flags.toBitVec.toNat 1 < 2 := Nat.mod_lt _ (by decide)
  obtain ⟨⟨a1, a2, a3⟩, ⟨b1, b2, b3⟩⟩ := own_key (i := 2) hm (by decide) (by decide)
  refine o_iloadN (pc := 0) B d7_0 rfl ?_
  refine o_iloadN (pc := 1) B d7_1 rfl ?_
  refine o_iconst (pc := 2) B (1 : Int32) d7_2 (by decide) ?_
  refine o_isub_c (pc := 3) B (1 : Int32) d7_3 (by decide) ?_
  refine o_iushr (pc := 4) B d7_4 ?_
  refine o_iconst (pc := 5) B (1 : Int32) d7_5 (by decide) ?_
  refine o_iand (pc := 6) B d7_6 ?_
  rw [eb]
  refine o_if_eq (pc := 7) (pc' := 16) B d7_7 (by decide) (by decide) (fun hc7 => ?_) (fun hc7 => ?_)
  · have e0 : own_bit flags.toBitVec.toNat 1 = 0 := (own_inj (b := 0) (by omega) (by decide)).mp hc7
    refine o_lconst (pc := 16) B (0 : Int64) d7_16 (by decide) ?_
    refine o_lstore_6_4 (pc := 17) B d7_17 rfl ?_
    refine o_lload (pc := 19) B d7_19 rfl ?_
    refine o_lloadN (pc := 21) B d7_21 rfl ?_
    refine o_lor (pc := 22) B d7_22 ?_
    refine o_iloadN (pc := 23) B d7_23 rfl ?_
    refine o_i2l (pc := 24) B d7_24 ?_
    refine o_lor (pc := 25) B d7_25 ?_
    exact o_lreturn (pc := 26) B d7_26 (by decide) (by decide) (⟨⟨_, 0, 1, rfl, b1, b2, b3, Or.inr ⟨rfl, rfl⟩, rfl, e0.symm⟩, rfl⟩)
  have e1 : own_bit flags.toBitVec.toNat 1 = 1 := by
    have : own_bit flags.toBitVec.toNat 1 ≠ 0 := fun q => hc7 (by rw [q]; rfl)
    omega
  refine o_ldc2_w (pc := 10) B (x := (-9223372036854775808 : Int64)) d7_10 (hw _ (List.mem_of_getElem? (i := 77) rfl)) ?_
  refine o_goto (pc := 13) (pc' := 17) B d7_13 (by decide) (by decide) ?_
  refine o_lstore_6_4 (pc := 17) B d7_17 rfl ?_
  refine o_lload (pc := 19) B d7_19 rfl ?_
  refine o_lloadN (pc := 21) B d7_21 rfl ?_
  refine o_lor (pc := 22) B d7_22 ?_
  refine o_iloadN (pc := 23) B d7_23 rfl ?_
  refine o_i2l (pc := 24) B d7_24 ?_
  refine o_lor (pc := 25) B d7_25 ?_
  exact o_lreturn (pc := 26) B d7_26 (by decide) (by decide) (⟨⟨_, 1, 0, rfl, a1, a2, a3, Or.inl ⟨rfl, rfl⟩, rfl, e1.symm⟩, rfl⟩)
set_option maxRecDepth 65536 in
set_option maxHeartbeats 40000000 in
theorem oc7_3 (l : Launch) (Z : State) (a0 : Array Value) (hw : ∀ d ∈ tables_1, d.before a0 Z = true) (n0 : Nat) (h : Heap) (m : Int64) (flags : Int32) (hm : own_mid m) : o_C l Z n0 oy7 method_2_code 6 (some .long) orm7 [(.long m), (.int flags), (.int 3)] h (fun v h' => (∃ key d0 d1, v = some (.long key) ∧ key ≠ 0 ∧ key.toBitVec.toNat % 2 ^ 4 = 3 ∧ (XT.ushrL (key ^^^ (-9223372036854775808)) 63).toInt32 = Int32.ofNat d1 ∧ own_case d0 d1 ∧ d0 + d1 = 1 ∧ d0 = own_bit flags.toBitVec.toNat 2) ∧ h' = h) := by
  refine o_body (Ls := [.val (.long m), .second, .val (.int flags), .val (.int 3), .unset, .unset]) pn7 (by first | (simp [argsToLocals, Value.category]; done) | rfl) (fun κ B => ?_)
  have eb : XT.ushr flags 2 &&& 1 = Int32.ofNat (own_bit flags.toBitVec.toNat 2) := by
    rw [own_and1]
    have e2 : (XT.ushr flags 2).toBitVec = flags.toBitVec >>> 2 := rfl
    rw [e2, BitVec.toNat_ushiftRight, Nat.shiftRight_eq_div_pow]; rfl
  have hb2 : own_bit flags.toBitVec.toNat 2 < 2 := Nat.mod_lt _ (by decide)
  obtain ⟨⟨a1, a2, a3⟩, ⟨b1, b2, b3⟩⟩ := own_key (i := 3) hm (by decide) (by decide)
  refine o_iloadN (pc := 0) B d7_0 rfl ?_
  refine o_iloadN (pc := 1) B d7_1 rfl ?_
  refine o_iconst (pc := 2) B (1 : Int32) d7_2 (by decide) ?_
  refine o_isub_c (pc := 3) B (2 : Int32) d7_3 (by decide) ?_
  refine o_iushr (pc := 4) B d7_4 ?_
  refine o_iconst (pc := 5) B (1 : Int32) d7_5 (by decide) ?_
  refine o_iand (pc := 6) B d7_6 ?_
  rw [eb]
  refine o_if_eq (pc := 7) (pc' := 16) B d7_7 (by decide) (by decide) (fun hc7 => ?_) (fun hc7 => ?_)
  · have e0 : own_bit flags.toBitVec.toNat 2 = 0 := (own_inj (b := 0) (by omega) (by decide)).mp hc7
    refine o_lconst (pc := 16) B (0 : Int64) d7_16 (by decide) ?_
    refine o_lstore_6_4 (pc := 17) B d7_17 rfl ?_
    refine o_lload (pc := 19) B d7_19 rfl ?_
    refine o_lloadN (pc := 21) B d7_21 rfl ?_
    refine o_lor (pc := 22) B d7_22 ?_
    refine o_iloadN (pc := 23) B d7_23 rfl ?_
    refine o_i2l (pc := 24) B d7_24 ?_
    refine o_lor (pc := 25) B d7_25 ?_
    exact o_lreturn (pc := 26) B d7_26 (by decide) (by decide) (⟨⟨_, 0, 1, rfl, b1, b2, b3, Or.inr ⟨rfl, rfl⟩, rfl, e0.symm⟩, rfl⟩)
  have e1 : own_bit flags.toBitVec.toNat 2 = 1 := by
    have : own_bit flags.toBitVec.toNat 2 ≠ 0 := fun q => hc7 (by rw [q]; rfl)
    omega
  refine o_ldc2_w (pc := 10) B (x := (-9223372036854775808 : Int64)) d7_10 (hw _ (List.mem_of_getElem? (i := 77) rfl)) ?_
  refine o_goto (pc := 13) (pc' := 17) B d7_13 (by decide) (by decide) ?_
  refine o_lstore_6_4 (pc := 17) B d7_17 rfl ?_
  refine o_lload (pc := 19) B d7_19 rfl ?_
  refine o_lloadN (pc := 21) B d7_21 rfl ?_
  refine o_lor (pc := 22) B d7_22 ?_
  refine o_iloadN (pc := 23) B d7_23 rfl ?_
  refine o_i2l (pc := 24) B d7_24 ?_
  refine o_lor (pc := 25) B d7_25 ?_
  exact o_lreturn (pc := 26) B d7_26 (by decide) (by decide) (⟨⟨_, 1, 0, rfl, a1, a2, a3, Or.inl ⟨rfl, rfl⟩, rfl, e1.symm⟩, rfl⟩)
set_option maxRecDepth 65536 in
set_option maxHeartbeats 40000000 in
theorem oc7_4 (l : Launch) (Z : State) (a0 : Array Value) (hw : ∀ d ∈ tables_1, d.before a0 Z = true) (n0 : Nat) (h : Heap) (m : Int64) (flags : Int32) (hm : own_mid m) : o_C l Z n0 oy7 method_2_code 6 (some .long) orm7 [(.long m), (.int flags), (.int 4)] h (fun v h' => (∃ key d0 d1, v = some (.long key) ∧ key ≠ 0 ∧ key.toBitVec.toNat % 2 ^ 4 = 4 ∧ (XT.ushrL (key ^^^ (-9223372036854775808)) 63).toInt32 = Int32.ofNat d1 ∧ own_case d0 d1 ∧ d0 + d1 = 1 ∧ d0 = own_bit flags.toBitVec.toNat 3) ∧ h' = h) := by
  refine o_body (Ls := [.val (.long m), .second, .val (.int flags), .val (.int 4), .unset, .unset]) pn7 (by first | (simp [argsToLocals, Value.category]; done) | rfl) (fun κ B => ?_)
  have eb : XT.ushr flags 3 &&& 1 = Int32.ofNat (own_bit flags.toBitVec.toNat 3) := by
    rw [own_and1]
    have e2 : (XT.ushr flags 3).toBitVec = flags.toBitVec >>> 3 := rfl
    rw [e2, BitVec.toNat_ushiftRight, Nat.shiftRight_eq_div_pow]; rfl
  have hb2 : own_bit flags.toBitVec.toNat 3 < 2 := Nat.mod_lt _ (by decide)
  obtain ⟨⟨a1, a2, a3⟩, ⟨b1, b2, b3⟩⟩ := own_key (i := 4) hm (by decide) (by decide)
  refine o_iloadN (pc := 0) B d7_0 rfl ?_
  refine o_iloadN (pc := 1) B d7_1 rfl ?_
  refine o_iconst (pc := 2) B (1 : Int32) d7_2 (by decide) ?_
  refine o_isub_c (pc := 3) B (3 : Int32) d7_3 (by decide) ?_
  refine o_iushr (pc := 4) B d7_4 ?_
  refine o_iconst (pc := 5) B (1 : Int32) d7_5 (by decide) ?_
  refine o_iand (pc := 6) B d7_6 ?_
  rw [eb]
  refine o_if_eq (pc := 7) (pc' := 16) B d7_7 (by decide) (by decide) (fun hc7 => ?_) (fun hc7 => ?_)
  · have e0 : own_bit flags.toBitVec.toNat 3 = 0 := (own_inj (b := 0) (by omega) (by decide)).mp hc7
    refine o_lconst (pc := 16) B (0 : Int64) d7_16 (by decide) ?_
    refine o_lstore_6_4 (pc := 17) B d7_17 rfl ?_
    refine o_lload (pc := 19) B d7_19 rfl ?_
    refine o_lloadN (pc := 21) B d7_21 rfl ?_
    refine o_lor (pc := 22) B d7_22 ?_
    refine o_iloadN (pc := 23) B d7_23 rfl ?_
    refine o_i2l (pc := 24) B d7_24 ?_
    refine o_lor (pc := 25) B d7_25 ?_
    exact o_lreturn (pc := 26) B d7_26 (by decide) (by decide) (⟨⟨_, 0, 1, rfl, b1, b2, b3, Or.inr ⟨rfl, rfl⟩, rfl, e0.symm⟩, rfl⟩)
  have e1 : own_bit flags.toBitVec.toNat 3 = 1 := by
    have : own_bit flags.toBitVec.toNat 3 ≠ 0 := fun q => hc7 (by rw [q]; rfl)
    omega
  refine o_ldc2_w (pc := 10) B (x := (-9223372036854775808 : Int64)) d7_10 (hw _ (List.mem_of_getElem? (i := 77) rfl)) ?_
  refine o_goto (pc := 13) (pc' := 17) B d7_13 (by decide) (by decide) ?_
  refine o_lstore_6_4 (pc := 17) B d7_17 rfl ?_
  refine o_lload (pc := 19) B d7_19 rfl ?_
  refine o_lloadN (pc := 21) B d7_21 rfl ?_
  refine o_lor (pc := 22) B d7_22 ?_
  refine o_iloadN (pc := 23) B d7_23 rfl ?_
  refine o_i2l (pc := 24) B d7_24 ?_
  refine o_lor (pc := 25) B d7_25 ?_
  exact o_lreturn (pc := 26) B d7_26 (by decide) (by decide) (⟨⟨_, 1, 0, rfl, a1, a2, a3, Or.inl ⟨rfl, rfl⟩, rfl, e1.symm⟩, rfl⟩)
set_option maxRecDepth 65536 in
set_option maxHeartbeats 40000000 in
theorem oc7_5 (l : Launch) (Z : State) (a0 : Array Value) (hw : ∀ d ∈ tables_1, d.before a0 Z = true) (n0 : Nat) (h : Heap) (m : Int64) (flags : Int32) (hm : own_mid m) : o_C l Z n0 oy7 method_2_code 6 (some .long) orm7 [(.long m), (.int flags), (.int 5)] h (fun v h' => (∃ key d0 d1, v = some (.long key) ∧ key ≠ 0 ∧ key.toBitVec.toNat % 2 ^ 4 = 5 ∧ (XT.ushrL (key ^^^ (-9223372036854775808)) 63).toInt32 = Int32.ofNat d1 ∧ own_case d0 d1 ∧ d0 + d1 = 1 ∧ d0 = own_bit flags.toBitVec.toNat 4) ∧ h' = h) := by
  refine o_body (Ls := [.val (.long m), .second, .val (.int flags), .val (.int 5), .unset, .unset]) pn7 (by first | (simp [argsToLocals, Value.category]; done) | rfl) (fun κ B => ?_)
  have eb : XT.ushr flags 4 &&& 1 = Int32.ofNat (own_bit flags.toBitVec.toNat 4) := by
    rw [own_and1]
    have e2 : (XT.ushr flags 4).toBitVec = flags.toBitVec >>> 4 := rfl
    rw [e2, BitVec.toNat_ushiftRight, Nat.shiftRight_eq_div_pow]; rfl
  have hb2 : own_bit flags.toBitVec.toNat 4 < 2 := Nat.mod_lt _ (by decide)
  obtain ⟨⟨a1, a2, a3⟩, ⟨b1, b2, b3⟩⟩ := own_key (i := 5) hm (by decide) (by decide)
  refine o_iloadN (pc := 0) B d7_0 rfl ?_
  refine o_iloadN (pc := 1) B d7_1 rfl ?_
  refine o_iconst (pc := 2) B (1 : Int32) d7_2 (by decide) ?_
  refine o_isub_c (pc := 3) B (4 : Int32) d7_3 (by decide) ?_
  refine o_iushr (pc := 4) B d7_4 ?_
  refine o_iconst (pc := 5) B (1 : Int32) d7_5 (by decide) ?_
  refine o_iand (pc := 6) B d7_6 ?_
  rw [eb]
  refine o_if_eq (pc := 7) (pc' := 16) B d7_7 (by decide) (by decide) (fun hc7 => ?_) (fun hc7 => ?_)
  · have e0 : own_bit flags.toBitVec.toNat 4 = 0 := (own_inj (b := 0) (by omega) (by decide)).mp hc7
    refine o_lconst (pc := 16) B (0 : Int64) d7_16 (by decide) ?_
    refine o_lstore_6_4 (pc := 17) B d7_17 rfl ?_
    refine o_lload (pc := 19) B d7_19 rfl ?_
    refine o_lloadN (pc := 21) B d7_21 rfl ?_
    refine o_lor (pc := 22) B d7_22 ?_
    refine o_iloadN (pc := 23) B d7_23 rfl ?_
    refine o_i2l (pc := 24) B d7_24 ?_
    refine o_lor (pc := 25) B d7_25 ?_
    exact o_lreturn (pc := 26) B d7_26 (by decide) (by decide) (⟨⟨_, 0, 1, rfl, b1, b2, b3, Or.inr ⟨rfl, rfl⟩, rfl, e0.symm⟩, rfl⟩)
  have e1 : own_bit flags.toBitVec.toNat 4 = 1 := by
    have : own_bit flags.toBitVec.toNat 4 ≠ 0 := fun q => hc7 (by rw [q]; rfl)
    omega
  refine o_ldc2_w (pc := 10) B (x := (-9223372036854775808 : Int64)) d7_10 (hw _ (List.mem_of_getElem? (i := 77) rfl)) ?_
  refine o_goto (pc := 13) (pc' := 17) B d7_13 (by decide) (by decide) ?_
  refine o_lstore_6_4 (pc := 17) B d7_17 rfl ?_
  refine o_lload (pc := 19) B d7_19 rfl ?_
  refine o_lloadN (pc := 21) B d7_21 rfl ?_
  refine o_lor (pc := 22) B d7_22 ?_
  refine o_iloadN (pc := 23) B d7_23 rfl ?_
  refine o_i2l (pc := 24) B d7_24 ?_
  refine o_lor (pc := 25) B d7_25 ?_
  exact o_lreturn (pc := 26) B d7_26 (by decide) (by decide) (⟨⟨_, 1, 0, rfl, a1, a2, a3, Or.inl ⟨rfl, rfl⟩, rfl, e1.symm⟩, rfl⟩)
set_option maxRecDepth 65536 in
set_option maxHeartbeats 40000000 in
theorem oc7_6 (l : Launch) (Z : State) (a0 : Array Value) (hw : ∀ d ∈ tables_1, d.before a0 Z = true) (n0 : Nat) (h : Heap) (m : Int64) (flags : Int32) (hm : own_mid m) : o_C l Z n0 oy7 method_2_code 6 (some .long) orm7 [(.long m), (.int flags), (.int 6)] h (fun v h' => (∃ key d0 d1, v = some (.long key) ∧ key ≠ 0 ∧ key.toBitVec.toNat % 2 ^ 4 = 6 ∧ (XT.ushrL (key ^^^ (-9223372036854775808)) 63).toInt32 = Int32.ofNat d1 ∧ own_case d0 d1 ∧ d0 + d1 = 1 ∧ d0 = own_bit flags.toBitVec.toNat 5) ∧ h' = h) := by
  refine o_body (Ls := [.val (.long m), .second, .val (.int flags), .val (.int 6), .unset, .unset]) pn7 (by first | (simp [argsToLocals, Value.category]; done) | rfl) (fun κ B => ?_)
  have eb : XT.ushr flags 5 &&& 1 = Int32.ofNat (own_bit flags.toBitVec.toNat 5) := by
    rw [own_and1]
    have e2 : (XT.ushr flags 5).toBitVec = flags.toBitVec >>> 5 := rfl
    rw [e2, BitVec.toNat_ushiftRight, Nat.shiftRight_eq_div_pow]; rfl
  have hb2 : own_bit flags.toBitVec.toNat 5 < 2 := Nat.mod_lt _ (by decide)
  obtain ⟨⟨a1, a2, a3⟩, ⟨b1, b2, b3⟩⟩ := own_key (i := 6) hm (by decide) (by decide)
  refine o_iloadN (pc := 0) B d7_0 rfl ?_
  refine o_iloadN (pc := 1) B d7_1 rfl ?_
  refine o_iconst (pc := 2) B (1 : Int32) d7_2 (by decide) ?_
  refine o_isub_c (pc := 3) B (5 : Int32) d7_3 (by decide) ?_
  refine o_iushr (pc := 4) B d7_4 ?_
  refine o_iconst (pc := 5) B (1 : Int32) d7_5 (by decide) ?_
  refine o_iand (pc := 6) B d7_6 ?_
  rw [eb]
  refine o_if_eq (pc := 7) (pc' := 16) B d7_7 (by decide) (by decide) (fun hc7 => ?_) (fun hc7 => ?_)
  · have e0 : own_bit flags.toBitVec.toNat 5 = 0 := (own_inj (b := 0) (by omega) (by decide)).mp hc7
    refine o_lconst (pc := 16) B (0 : Int64) d7_16 (by decide) ?_
    refine o_lstore_6_4 (pc := 17) B d7_17 rfl ?_
    refine o_lload (pc := 19) B d7_19 rfl ?_
    refine o_lloadN (pc := 21) B d7_21 rfl ?_
    refine o_lor (pc := 22) B d7_22 ?_
    refine o_iloadN (pc := 23) B d7_23 rfl ?_
    refine o_i2l (pc := 24) B d7_24 ?_
    refine o_lor (pc := 25) B d7_25 ?_
    exact o_lreturn (pc := 26) B d7_26 (by decide) (by decide) (⟨⟨_, 0, 1, rfl, b1, b2, b3, Or.inr ⟨rfl, rfl⟩, rfl, e0.symm⟩, rfl⟩)
  have e1 : own_bit flags.toBitVec.toNat 5 = 1 := by
    have : own_bit flags.toBitVec.toNat 5 ≠ 0 := fun q => hc7 (by rw [q]; rfl)
    omega
  refine o_ldc2_w (pc := 10) B (x := (-9223372036854775808 : Int64)) d7_10 (hw _ (List.mem_of_getElem? (i := 77) rfl)) ?_
  refine o_goto (pc := 13) (pc' := 17) B d7_13 (by decide) (by decide) ?_
  refine o_lstore_6_4 (pc := 17) B d7_17 rfl ?_
  refine o_lload (pc := 19) B d7_19 rfl ?_
  refine o_lloadN (pc := 21) B d7_21 rfl ?_
  refine o_lor (pc := 22) B d7_22 ?_
  refine o_iloadN (pc := 23) B d7_23 rfl ?_
  refine o_i2l (pc := 24) B d7_24 ?_
  refine o_lor (pc := 25) B d7_25 ?_
  exact o_lreturn (pc := 26) B d7_26 (by decide) (by decide) (⟨⟨_, 1, 0, rfl, a1, a2, a3, Or.inl ⟨rfl, rfl⟩, rfl, e1.symm⟩, rfl⟩)
set_option maxRecDepth 65536 in
set_option maxHeartbeats 40000000 in
theorem oc7_7 (l : Launch) (Z : State) (a0 : Array Value) (hw : ∀ d ∈ tables_1, d.before a0 Z = true) (n0 : Nat) (h : Heap) (m : Int64) (flags : Int32) (hm : own_mid m) : o_C l Z n0 oy7 method_2_code 6 (some .long) orm7 [(.long m), (.int flags), (.int 7)] h (fun v h' => (∃ key d0 d1, v = some (.long key) ∧ key ≠ 0 ∧ key.toBitVec.toNat % 2 ^ 4 = 7 ∧ (XT.ushrL (key ^^^ (-9223372036854775808)) 63).toInt32 = Int32.ofNat d1 ∧ own_case d0 d1 ∧ d0 + d1 = 1 ∧ d0 = own_bit flags.toBitVec.toNat 6) ∧ h' = h) := by
  refine o_body (Ls := [.val (.long m), .second, .val (.int flags), .val (.int 7), .unset, .unset]) pn7 (by first | (simp [argsToLocals, Value.category]; done) | rfl) (fun κ B => ?_)
  have eb : XT.ushr flags 6 &&& 1 = Int32.ofNat (own_bit flags.toBitVec.toNat 6) := by
    rw [own_and1]
    have e2 : (XT.ushr flags 6).toBitVec = flags.toBitVec >>> 6 := rfl
    rw [e2, BitVec.toNat_ushiftRight, Nat.shiftRight_eq_div_pow]; rfl
  have hb2 : own_bit flags.toBitVec.toNat 6 < 2 := Nat.mod_lt _ (by decide)
  obtain ⟨⟨a1, a2, a3⟩, ⟨b1, b2, b3⟩⟩ := own_key (i := 7) hm (by decide) (by decide)
  refine o_iloadN (pc := 0) B d7_0 rfl ?_
  refine o_iloadN (pc := 1) B d7_1 rfl ?_
  refine o_iconst (pc := 2) B (1 : Int32) d7_2 (by decide) ?_
  refine o_isub_c (pc := 3) B (6 : Int32) d7_3 (by decide) ?_
  refine o_iushr (pc := 4) B d7_4 ?_
  refine o_iconst (pc := 5) B (1 : Int32) d7_5 (by decide) ?_
  refine o_iand (pc := 6) B d7_6 ?_
  rw [eb]
  refine o_if_eq (pc := 7) (pc' := 16) B d7_7 (by decide) (by decide) (fun hc7 => ?_) (fun hc7 => ?_)
  · have e0 : own_bit flags.toBitVec.toNat 6 = 0 := (own_inj (b := 0) (by omega) (by decide)).mp hc7
    refine o_lconst (pc := 16) B (0 : Int64) d7_16 (by decide) ?_
    refine o_lstore_6_4 (pc := 17) B d7_17 rfl ?_
    refine o_lload (pc := 19) B d7_19 rfl ?_
    refine o_lloadN (pc := 21) B d7_21 rfl ?_
    refine o_lor (pc := 22) B d7_22 ?_
    refine o_iloadN (pc := 23) B d7_23 rfl ?_
    refine o_i2l (pc := 24) B d7_24 ?_
    refine o_lor (pc := 25) B d7_25 ?_
    exact o_lreturn (pc := 26) B d7_26 (by decide) (by decide) (⟨⟨_, 0, 1, rfl, b1, b2, b3, Or.inr ⟨rfl, rfl⟩, rfl, e0.symm⟩, rfl⟩)
  have e1 : own_bit flags.toBitVec.toNat 6 = 1 := by
    have : own_bit flags.toBitVec.toNat 6 ≠ 0 := fun q => hc7 (by rw [q]; rfl)
    omega
  refine o_ldc2_w (pc := 10) B (x := (-9223372036854775808 : Int64)) d7_10 (hw _ (List.mem_of_getElem? (i := 77) rfl)) ?_
  refine o_goto (pc := 13) (pc' := 17) B d7_13 (by decide) (by decide) ?_
  refine o_lstore_6_4 (pc := 17) B d7_17 rfl ?_
  refine o_lload (pc := 19) B d7_19 rfl ?_
  refine o_lloadN (pc := 21) B d7_21 rfl ?_
  refine o_lor (pc := 22) B d7_22 ?_
  refine o_iloadN (pc := 23) B d7_23 rfl ?_
  refine o_i2l (pc := 24) B d7_24 ?_
  refine o_lor (pc := 25) B d7_25 ?_
  exact o_lreturn (pc := 26) B d7_26 (by decide) (by decide) (⟨⟨_, 1, 0, rfl, a1, a2, a3, Or.inl ⟨rfl, rfl⟩, rfl, e1.symm⟩, rfl⟩)
set_option maxRecDepth 65536 in
set_option maxHeartbeats 40000000 in
theorem oc7_8 (l : Launch) (Z : State) (a0 : Array Value) (hw : ∀ d ∈ tables_1, d.before a0 Z = true) (n0 : Nat) (h : Heap) (m : Int64) (flags : Int32) (hm : own_mid m) : o_C l Z n0 oy7 method_2_code 6 (some .long) orm7 [(.long m), (.int flags), (.int 8)] h (fun v h' => (∃ key d0 d1, v = some (.long key) ∧ key ≠ 0 ∧ key.toBitVec.toNat % 2 ^ 4 = 8 ∧ (XT.ushrL (key ^^^ (-9223372036854775808)) 63).toInt32 = Int32.ofNat d1 ∧ own_case d0 d1 ∧ d0 + d1 = 1 ∧ d0 = own_bit flags.toBitVec.toNat 7) ∧ h' = h) := by
  refine o_body (Ls := [.val (.long m), .second, .val (.int flags), .val (.int 8), .unset, .unset]) pn7 (by first | (simp [argsToLocals, Value.category]; done) | rfl) (fun κ B => ?_)
  have eb : XT.ushr flags 7 &&& 1 = Int32.ofNat (own_bit flags.toBitVec.toNat 7) := by
    rw [own_and1]
    have e2 : (XT.ushr flags 7).toBitVec = flags.toBitVec >>> 7 := rfl
    rw [e2, BitVec.toNat_ushiftRight, Nat.shiftRight_eq_div_pow]; rfl
  have hb2 : own_bit flags.toBitVec.toNat 7 < 2 := Nat.mod_lt _ (by decide)
  obtain ⟨⟨a1, a2, a3⟩, ⟨b1, b2, b3⟩⟩ := own_key (i := 8) hm (by decide) (by decide)
  refine o_iloadN (pc := 0) B d7_0 rfl ?_
  refine o_iloadN (pc := 1) B d7_1 rfl ?_
  refine o_iconst (pc := 2) B (1 : Int32) d7_2 (by decide) ?_
  refine o_isub_c (pc := 3) B (7 : Int32) d7_3 (by decide) ?_
  refine o_iushr (pc := 4) B d7_4 ?_
  refine o_iconst (pc := 5) B (1 : Int32) d7_5 (by decide) ?_
  refine o_iand (pc := 6) B d7_6 ?_
  rw [eb]
  refine o_if_eq (pc := 7) (pc' := 16) B d7_7 (by decide) (by decide) (fun hc7 => ?_) (fun hc7 => ?_)
  · have e0 : own_bit flags.toBitVec.toNat 7 = 0 := (own_inj (b := 0) (by omega) (by decide)).mp hc7
    refine o_lconst (pc := 16) B (0 : Int64) d7_16 (by decide) ?_
    refine o_lstore_6_4 (pc := 17) B d7_17 rfl ?_
    refine o_lload (pc := 19) B d7_19 rfl ?_
    refine o_lloadN (pc := 21) B d7_21 rfl ?_
    refine o_lor (pc := 22) B d7_22 ?_
    refine o_iloadN (pc := 23) B d7_23 rfl ?_
    refine o_i2l (pc := 24) B d7_24 ?_
    refine o_lor (pc := 25) B d7_25 ?_
    exact o_lreturn (pc := 26) B d7_26 (by decide) (by decide) (⟨⟨_, 0, 1, rfl, b1, b2, b3, Or.inr ⟨rfl, rfl⟩, rfl, e0.symm⟩, rfl⟩)
  have e1 : own_bit flags.toBitVec.toNat 7 = 1 := by
    have : own_bit flags.toBitVec.toNat 7 ≠ 0 := fun q => hc7 (by rw [q]; rfl)
    omega
  refine o_ldc2_w (pc := 10) B (x := (-9223372036854775808 : Int64)) d7_10 (hw _ (List.mem_of_getElem? (i := 77) rfl)) ?_
  refine o_goto (pc := 13) (pc' := 17) B d7_13 (by decide) (by decide) ?_
  refine o_lstore_6_4 (pc := 17) B d7_17 rfl ?_
  refine o_lload (pc := 19) B d7_19 rfl ?_
  refine o_lloadN (pc := 21) B d7_21 rfl ?_
  refine o_lor (pc := 22) B d7_22 ?_
  refine o_iloadN (pc := 23) B d7_23 rfl ?_
  refine o_i2l (pc := 24) B d7_24 ?_
  refine o_lor (pc := 25) B d7_25 ?_
  exact o_lreturn (pc := 26) B d7_26 (by decide) (by decide) (⟨⟨_, 1, 0, rfl, a1, a2, a3, Or.inl ⟨rfl, rfl⟩, rfl, e1.symm⟩, rfl⟩)
set_option maxRecDepth 65536 in
set_option maxHeartbeats 40000000 in
theorem oc7_9 (l : Launch) (Z : State) (a0 : Array Value) (hw : ∀ d ∈ tables_1, d.before a0 Z = true) (n0 : Nat) (h : Heap) (m : Int64) (flags : Int32) (hm : own_mid m) : o_C l Z n0 oy7 method_2_code 6 (some .long) orm7 [(.long m), (.int flags), (.int 9)] h (fun v h' => (∃ key d0 d1, v = some (.long key) ∧ key ≠ 0 ∧ key.toBitVec.toNat % 2 ^ 4 = 9 ∧ (XT.ushrL (key ^^^ (-9223372036854775808)) 63).toInt32 = Int32.ofNat d1 ∧ own_case d0 d1 ∧ d0 + d1 = 1 ∧ d0 = own_bit flags.toBitVec.toNat 8) ∧ h' = h) := by
  refine o_body (Ls := [.val (.long m), .second, .val (.int flags), .val (.int 9), .unset, .unset]) pn7 (by first | (simp [argsToLocals, Value.category]; done) | rfl) (fun κ B => ?_)
  have eb : XT.ushr flags 8 &&& 1 = Int32.ofNat (own_bit flags.toBitVec.toNat 8) := by
    rw [own_and1]
    have e2 : (XT.ushr flags 8).toBitVec = flags.toBitVec >>> 8 := rfl
    rw [e2, BitVec.toNat_ushiftRight, Nat.shiftRight_eq_div_pow]; rfl
  have hb2 : own_bit flags.toBitVec.toNat 8 < 2 := Nat.mod_lt _ (by decide)
  obtain ⟨⟨a1, a2, a3⟩, ⟨b1, b2, b3⟩⟩ := own_key (i := 9) hm (by decide) (by decide)
  refine o_iloadN (pc := 0) B d7_0 rfl ?_
  refine o_iloadN (pc := 1) B d7_1 rfl ?_
  refine o_iconst (pc := 2) B (1 : Int32) d7_2 (by decide) ?_
  refine o_isub_c (pc := 3) B (8 : Int32) d7_3 (by decide) ?_
  refine o_iushr (pc := 4) B d7_4 ?_
  refine o_iconst (pc := 5) B (1 : Int32) d7_5 (by decide) ?_
  refine o_iand (pc := 6) B d7_6 ?_
  rw [eb]
  refine o_if_eq (pc := 7) (pc' := 16) B d7_7 (by decide) (by decide) (fun hc7 => ?_) (fun hc7 => ?_)
  · have e0 : own_bit flags.toBitVec.toNat 8 = 0 := (own_inj (b := 0) (by omega) (by decide)).mp hc7
    refine o_lconst (pc := 16) B (0 : Int64) d7_16 (by decide) ?_
    refine o_lstore_6_4 (pc := 17) B d7_17 rfl ?_
    refine o_lload (pc := 19) B d7_19 rfl ?_
    refine o_lloadN (pc := 21) B d7_21 rfl ?_
    refine o_lor (pc := 22) B d7_22 ?_
    refine o_iloadN (pc := 23) B d7_23 rfl ?_
    refine o_i2l (pc := 24) B d7_24 ?_
    refine o_lor (pc := 25) B d7_25 ?_
    exact o_lreturn (pc := 26) B d7_26 (by decide) (by decide) (⟨⟨_, 0, 1, rfl, b1, b2, b3, Or.inr ⟨rfl, rfl⟩, rfl, e0.symm⟩, rfl⟩)
  have e1 : own_bit flags.toBitVec.toNat 8 = 1 := by
    have : own_bit flags.toBitVec.toNat 8 ≠ 0 := fun q => hc7 (by rw [q]; rfl)
    omega
  refine o_ldc2_w (pc := 10) B (x := (-9223372036854775808 : Int64)) d7_10 (hw _ (List.mem_of_getElem? (i := 77) rfl)) ?_
  refine o_goto (pc := 13) (pc' := 17) B d7_13 (by decide) (by decide) ?_
  refine o_lstore_6_4 (pc := 17) B d7_17 rfl ?_
  refine o_lload (pc := 19) B d7_19 rfl ?_
  refine o_lloadN (pc := 21) B d7_21 rfl ?_
  refine o_lor (pc := 22) B d7_22 ?_
  refine o_iloadN (pc := 23) B d7_23 rfl ?_
  refine o_i2l (pc := 24) B d7_24 ?_
  refine o_lor (pc := 25) B d7_25 ?_
  exact o_lreturn (pc := 26) B d7_26 (by decide) (by decide) (⟨⟨_, 1, 0, rfl, a1, a2, a3, Or.inl ⟨rfl, rfl⟩, rfl, e1.symm⟩, rfl⟩)
set_option maxRecDepth 65536 in
set_option maxHeartbeats 40000000 in
theorem oc7_10 (l : Launch) (Z : State) (a0 : Array Value) (hw : ∀ d ∈ tables_1, d.before a0 Z = true) (n0 : Nat) (h : Heap) (m : Int64) (flags : Int32) (hm : own_mid m) : o_C l Z n0 oy7 method_2_code 6 (some .long) orm7 [(.long m), (.int flags), (.int 10)] h (fun v h' => (∃ key d0 d1, v = some (.long key) ∧ key ≠ 0 ∧ key.toBitVec.toNat % 2 ^ 4 = 10 ∧ (XT.ushrL (key ^^^ (-9223372036854775808)) 63).toInt32 = Int32.ofNat d1 ∧ own_case d0 d1 ∧ d0 + d1 = 1 ∧ d0 = own_bit flags.toBitVec.toNat 9) ∧ h' = h) := by
  refine o_body (Ls := [.val (.long m), .second, .val (.int flags), .val (.int 10), .unset, .unset]) pn7 (by first | (simp [argsToLocals, Value.category]; done) | rfl) (fun κ B => ?_)
  have eb : XT.ushr flags 9 &&& 1 = Int32.ofNat (own_bit flags.toBitVec.toNat 9) := by
    rw [own_and1]
    have e2 : (XT.ushr flags 9).toBitVec = flags.toBitVec >>> 9 := rfl
    rw [e2, BitVec.toNat_ushiftRight, Nat.shiftRight_eq_div_pow]; rfl
  have hb2 : own_bit flags.toBitVec.toNat 9 < 2 := Nat.mod_lt _ (by decide)
  obtain ⟨⟨a1, a2, a3⟩, ⟨b1, b2, b3⟩⟩ := own_key (i := 10) hm (by decide) (by decide)
  refine o_iloadN (pc := 0) B d7_0 rfl ?_
  refine o_iloadN (pc := 1) B d7_1 rfl ?_
  refine o_iconst (pc := 2) B (1 : Int32) d7_2 (by decide) ?_
  refine o_isub_c (pc := 3) B (9 : Int32) d7_3 (by decide) ?_
  refine o_iushr (pc := 4) B d7_4 ?_
  refine o_iconst (pc := 5) B (1 : Int32) d7_5 (by decide) ?_
  refine o_iand (pc := 6) B d7_6 ?_
  rw [eb]
  refine o_if_eq (pc := 7) (pc' := 16) B d7_7 (by decide) (by decide) (fun hc7 => ?_) (fun hc7 => ?_)
  · have e0 : own_bit flags.toBitVec.toNat 9 = 0 := (own_inj (b := 0) (by omega) (by decide)).mp hc7
    refine o_lconst (pc := 16) B (0 : Int64) d7_16 (by decide) ?_
    refine o_lstore_6_4 (pc := 17) B d7_17 rfl ?_
    refine o_lload (pc := 19) B d7_19 rfl ?_
    refine o_lloadN (pc := 21) B d7_21 rfl ?_
    refine o_lor (pc := 22) B d7_22 ?_
    refine o_iloadN (pc := 23) B d7_23 rfl ?_
    refine o_i2l (pc := 24) B d7_24 ?_
    refine o_lor (pc := 25) B d7_25 ?_
    exact o_lreturn (pc := 26) B d7_26 (by decide) (by decide) (⟨⟨_, 0, 1, rfl, b1, b2, b3, Or.inr ⟨rfl, rfl⟩, rfl, e0.symm⟩, rfl⟩)
  have e1 : own_bit flags.toBitVec.toNat 9 = 1 := by
    have : own_bit flags.toBitVec.toNat 9 ≠ 0 := fun q => hc7 (by rw [q]; rfl)
    omega
  refine o_ldc2_w (pc := 10) B (x := (-9223372036854775808 : Int64)) d7_10 (hw _ (List.mem_of_getElem? (i := 77) rfl)) ?_
  refine o_goto (pc := 13) (pc' := 17) B d7_13 (by decide) (by decide) ?_
  refine o_lstore_6_4 (pc := 17) B d7_17 rfl ?_
  refine o_lload (pc := 19) B d7_19 rfl ?_
  refine o_lloadN (pc := 21) B d7_21 rfl ?_
  refine o_lor (pc := 22) B d7_22 ?_
  refine o_iloadN (pc := 23) B d7_23 rfl ?_
  refine o_i2l (pc := 24) B d7_24 ?_
  refine o_lor (pc := 25) B d7_25 ?_
  exact o_lreturn (pc := 26) B d7_26 (by decide) (by decide) (⟨⟨_, 1, 0, rfl, a1, a2, a3, Or.inl ⟨rfl, rfl⟩, rfl, e1.symm⟩, rfl⟩)
set_option maxRecDepth 65536 in
set_option maxHeartbeats 40000000 in
theorem oc7_11 (l : Launch) (Z : State) (a0 : Array Value) (hw : ∀ d ∈ tables_1, d.before a0 Z = true) (n0 : Nat) (h : Heap) (m : Int64) (flags : Int32) (hm : own_mid m) : o_C l Z n0 oy7 method_2_code 6 (some .long) orm7 [(.long m), (.int flags), (.int 11)] h (fun v h' => (∃ key d0 d1, v = some (.long key) ∧ key ≠ 0 ∧ key.toBitVec.toNat % 2 ^ 4 = 11 ∧ (XT.ushrL (key ^^^ (-9223372036854775808)) 63).toInt32 = Int32.ofNat d1 ∧ own_case d0 d1 ∧ d0 + d1 = 1 ∧ d0 = own_bit flags.toBitVec.toNat 10) ∧ h' = h) := by
  refine o_body (Ls := [.val (.long m), .second, .val (.int flags), .val (.int 11), .unset, .unset]) pn7 (by first | (simp [argsToLocals, Value.category]; done) | rfl) (fun κ B => ?_)
  have eb : XT.ushr flags 10 &&& 1 = Int32.ofNat (own_bit flags.toBitVec.toNat 10) := by
    rw [own_and1]
    have e2 : (XT.ushr flags 10).toBitVec = flags.toBitVec >>> 10 := rfl
    rw [e2, BitVec.toNat_ushiftRight, Nat.shiftRight_eq_div_pow]; rfl
  have hb2 : own_bit flags.toBitVec.toNat 10 < 2 := Nat.mod_lt _ (by decide)
  obtain ⟨⟨a1, a2, a3⟩, ⟨b1, b2, b3⟩⟩ := own_key (i := 11) hm (by decide) (by decide)
  refine o_iloadN (pc := 0) B d7_0 rfl ?_
  refine o_iloadN (pc := 1) B d7_1 rfl ?_
  refine o_iconst (pc := 2) B (1 : Int32) d7_2 (by decide) ?_
  refine o_isub_c (pc := 3) B (10 : Int32) d7_3 (by decide) ?_
  refine o_iushr (pc := 4) B d7_4 ?_
  refine o_iconst (pc := 5) B (1 : Int32) d7_5 (by decide) ?_
  refine o_iand (pc := 6) B d7_6 ?_
  rw [eb]
  refine o_if_eq (pc := 7) (pc' := 16) B d7_7 (by decide) (by decide) (fun hc7 => ?_) (fun hc7 => ?_)
  · have e0 : own_bit flags.toBitVec.toNat 10 = 0 := (own_inj (b := 0) (by omega) (by decide)).mp hc7
    refine o_lconst (pc := 16) B (0 : Int64) d7_16 (by decide) ?_
    refine o_lstore_6_4 (pc := 17) B d7_17 rfl ?_
    refine o_lload (pc := 19) B d7_19 rfl ?_
    refine o_lloadN (pc := 21) B d7_21 rfl ?_
    refine o_lor (pc := 22) B d7_22 ?_
    refine o_iloadN (pc := 23) B d7_23 rfl ?_
    refine o_i2l (pc := 24) B d7_24 ?_
    refine o_lor (pc := 25) B d7_25 ?_
    exact o_lreturn (pc := 26) B d7_26 (by decide) (by decide) (⟨⟨_, 0, 1, rfl, b1, b2, b3, Or.inr ⟨rfl, rfl⟩, rfl, e0.symm⟩, rfl⟩)
  have e1 : own_bit flags.toBitVec.toNat 10 = 1 := by
    have : own_bit flags.toBitVec.toNat 10 ≠ 0 := fun q => hc7 (by rw [q]; rfl)
    omega
  refine o_ldc2_w (pc := 10) B (x := (-9223372036854775808 : Int64)) d7_10 (hw _ (List.mem_of_getElem? (i := 77) rfl)) ?_
  refine o_goto (pc := 13) (pc' := 17) B d7_13 (by decide) (by decide) ?_
  refine o_lstore_6_4 (pc := 17) B d7_17 rfl ?_
  refine o_lload (pc := 19) B d7_19 rfl ?_
  refine o_lloadN (pc := 21) B d7_21 rfl ?_
  refine o_lor (pc := 22) B d7_22 ?_
  refine o_iloadN (pc := 23) B d7_23 rfl ?_
  refine o_i2l (pc := 24) B d7_24 ?_
  refine o_lor (pc := 25) B d7_25 ?_
  exact o_lreturn (pc := 26) B d7_26 (by decide) (by decide) (⟨⟨_, 1, 0, rfl, a1, a2, a3, Or.inl ⟨rfl, rfl⟩, rfl, e1.symm⟩, rfl⟩)
set_option maxRecDepth 65536 in
set_option maxHeartbeats 40000000 in
theorem oc7_12 (l : Launch) (Z : State) (a0 : Array Value) (hw : ∀ d ∈ tables_1, d.before a0 Z = true) (n0 : Nat) (h : Heap) (m : Int64) (flags : Int32) (hm : own_mid m) : o_C l Z n0 oy7 method_2_code 6 (some .long) orm7 [(.long m), (.int flags), (.int 12)] h (fun v h' => (∃ key d0 d1, v = some (.long key) ∧ key ≠ 0 ∧ key.toBitVec.toNat % 2 ^ 4 = 12 ∧ (XT.ushrL (key ^^^ (-9223372036854775808)) 63).toInt32 = Int32.ofNat d1 ∧ own_case d0 d1 ∧ d0 + d1 = 1 ∧ d0 = own_bit flags.toBitVec.toNat 11) ∧ h' = h) := by
  refine o_body (Ls := [.val (.long m), .second, .val (.int flags), .val (.int 12), .unset, .unset]) pn7 (by first | (simp [argsToLocals, Value.category]; done) | rfl) (fun κ B => ?_)
  have eb : XT.ushr flags 11 &&& 1 = Int32.ofNat (own_bit flags.toBitVec.toNat 11) := by
    rw [own_and1]
    have e2 : (XT.ushr flags 11).toBitVec = flags.toBitVec >>> 11 := rfl
    rw [e2, BitVec.toNat_ushiftRight, Nat.shiftRight_eq_div_pow]; rfl
  have hb2 : own_bit flags.toBitVec.toNat 11 < 2 := Nat.mod_lt _ (by decide)
  obtain ⟨⟨a1, a2, a3⟩, ⟨b1, b2, b3⟩⟩ := own_key (i := 12) hm (by decide) (by decide)
  refine o_iloadN (pc := 0) B d7_0 rfl ?_
  refine o_iloadN (pc := 1) B d7_1 rfl ?_
  refine o_iconst (pc := 2) B (1 : Int32) d7_2 (by decide) ?_
  refine o_isub_c (pc := 3) B (11 : Int32) d7_3 (by decide) ?_
  refine o_iushr (pc := 4) B d7_4 ?_
  refine o_iconst (pc := 5) B (1 : Int32) d7_5 (by decide) ?_
  refine o_iand (pc := 6) B d7_6 ?_
  rw [eb]
  refine o_if_eq (pc := 7) (pc' := 16) B d7_7 (by decide) (by decide) (fun hc7 => ?_) (fun hc7 => ?_)
  · have e0 : own_bit flags.toBitVec.toNat 11 = 0 := (own_inj (b := 0) (by omega) (by decide)).mp hc7
    refine o_lconst (pc := 16) B (0 : Int64) d7_16 (by decide) ?_
    refine o_lstore_6_4 (pc := 17) B d7_17 rfl ?_
    refine o_lload (pc := 19) B d7_19 rfl ?_
    refine o_lloadN (pc := 21) B d7_21 rfl ?_
    refine o_lor (pc := 22) B d7_22 ?_
    refine o_iloadN (pc := 23) B d7_23 rfl ?_
    refine o_i2l (pc := 24) B d7_24 ?_
    refine o_lor (pc := 25) B d7_25 ?_
    exact o_lreturn (pc := 26) B d7_26 (by decide) (by decide) (⟨⟨_, 0, 1, rfl, b1, b2, b3, Or.inr ⟨rfl, rfl⟩, rfl, e0.symm⟩, rfl⟩)
  have e1 : own_bit flags.toBitVec.toNat 11 = 1 := by
    have : own_bit flags.toBitVec.toNat 11 ≠ 0 := fun q => hc7 (by rw [q]; rfl)
    omega
  refine o_ldc2_w (pc := 10) B (x := (-9223372036854775808 : Int64)) d7_10 (hw _ (List.mem_of_getElem? (i := 77) rfl)) ?_
  refine o_goto (pc := 13) (pc' := 17) B d7_13 (by decide) (by decide) ?_
  refine o_lstore_6_4 (pc := 17) B d7_17 rfl ?_
  refine o_lload (pc := 19) B d7_19 rfl ?_
  refine o_lloadN (pc := 21) B d7_21 rfl ?_
  refine o_lor (pc := 22) B d7_22 ?_
  refine o_iloadN (pc := 23) B d7_23 rfl ?_
  refine o_i2l (pc := 24) B d7_24 ?_
  refine o_lor (pc := 25) B d7_25 ?_
  exact o_lreturn (pc := 26) B d7_26 (by decide) (by decide) (⟨⟨_, 1, 0, rfl, a1, a2, a3, Or.inl ⟨rfl, rfl⟩, rfl, e1.symm⟩, rfl⟩)
set_option maxRecDepth 65536 in
set_option maxHeartbeats 40000000 in
theorem oc7_13 (l : Launch) (Z : State) (a0 : Array Value) (hw : ∀ d ∈ tables_1, d.before a0 Z = true) (n0 : Nat) (h : Heap) (m : Int64) (flags : Int32) (hm : own_mid m) : o_C l Z n0 oy7 method_2_code 6 (some .long) orm7 [(.long m), (.int flags), (.int 13)] h (fun v h' => (∃ key d0 d1, v = some (.long key) ∧ key ≠ 0 ∧ key.toBitVec.toNat % 2 ^ 4 = 13 ∧ (XT.ushrL (key ^^^ (-9223372036854775808)) 63).toInt32 = Int32.ofNat d1 ∧ own_case d0 d1 ∧ d0 + d1 = 1 ∧ d0 = own_bit flags.toBitVec.toNat 12) ∧ h' = h) := by
  refine o_body (Ls := [.val (.long m), .second, .val (.int flags), .val (.int 13), .unset, .unset]) pn7 (by first | (simp [argsToLocals, Value.category]; done) | rfl) (fun κ B => ?_)
  have eb : XT.ushr flags 12 &&& 1 = Int32.ofNat (own_bit flags.toBitVec.toNat 12) := by
    rw [own_and1]
    have e2 : (XT.ushr flags 12).toBitVec = flags.toBitVec >>> 12 := rfl
    rw [e2, BitVec.toNat_ushiftRight, Nat.shiftRight_eq_div_pow]; rfl
  have hb2 : own_bit flags.toBitVec.toNat 12 < 2 := Nat.mod_lt _ (by decide)
  obtain ⟨⟨a1, a2, a3⟩, ⟨b1, b2, b3⟩⟩ := own_key (i := 13) hm (by decide) (by decide)
  refine o_iloadN (pc := 0) B d7_0 rfl ?_
  refine o_iloadN (pc := 1) B d7_1 rfl ?_
  refine o_iconst (pc := 2) B (1 : Int32) d7_2 (by decide) ?_
  refine o_isub_c (pc := 3) B (12 : Int32) d7_3 (by decide) ?_
  refine o_iushr (pc := 4) B d7_4 ?_
  refine o_iconst (pc := 5) B (1 : Int32) d7_5 (by decide) ?_
  refine o_iand (pc := 6) B d7_6 ?_
  rw [eb]
  refine o_if_eq (pc := 7) (pc' := 16) B d7_7 (by decide) (by decide) (fun hc7 => ?_) (fun hc7 => ?_)
  · have e0 : own_bit flags.toBitVec.toNat 12 = 0 := (own_inj (b := 0) (by omega) (by decide)).mp hc7
    refine o_lconst (pc := 16) B (0 : Int64) d7_16 (by decide) ?_
    refine o_lstore_6_4 (pc := 17) B d7_17 rfl ?_
    refine o_lload (pc := 19) B d7_19 rfl ?_
    refine o_lloadN (pc := 21) B d7_21 rfl ?_
    refine o_lor (pc := 22) B d7_22 ?_
    refine o_iloadN (pc := 23) B d7_23 rfl ?_
    refine o_i2l (pc := 24) B d7_24 ?_
    refine o_lor (pc := 25) B d7_25 ?_
    exact o_lreturn (pc := 26) B d7_26 (by decide) (by decide) (⟨⟨_, 0, 1, rfl, b1, b2, b3, Or.inr ⟨rfl, rfl⟩, rfl, e0.symm⟩, rfl⟩)
  have e1 : own_bit flags.toBitVec.toNat 12 = 1 := by
    have : own_bit flags.toBitVec.toNat 12 ≠ 0 := fun q => hc7 (by rw [q]; rfl)
    omega
  refine o_ldc2_w (pc := 10) B (x := (-9223372036854775808 : Int64)) d7_10 (hw _ (List.mem_of_getElem? (i := 77) rfl)) ?_
  refine o_goto (pc := 13) (pc' := 17) B d7_13 (by decide) (by decide) ?_
  refine o_lstore_6_4 (pc := 17) B d7_17 rfl ?_
  refine o_lload (pc := 19) B d7_19 rfl ?_
  refine o_lloadN (pc := 21) B d7_21 rfl ?_
  refine o_lor (pc := 22) B d7_22 ?_
  refine o_iloadN (pc := 23) B d7_23 rfl ?_
  refine o_i2l (pc := 24) B d7_24 ?_
  refine o_lor (pc := 25) B d7_25 ?_
  exact o_lreturn (pc := 26) B d7_26 (by decide) (by decide) (⟨⟨_, 1, 0, rfl, a1, a2, a3, Or.inl ⟨rfl, rfl⟩, rfl, e1.symm⟩, rfl⟩)
theorem own_midm (a : Int64) : own_mid ((a <<< ((4 : Int32).toInt64 &&& 63)) &&& 9223372036854775792) := by
  have lt : ((a <<< ((4 : Int32).toInt64 &&& 63)) &&& 9223372036854775792).toBitVec.toNat ≤ 9223372036854775792 := by
    rw [Int64.toBitVec_and, BitVec.toNat_and]; exact Nat.and_le_right
  refine ⟨?_, by omega⟩
  have e : ((a <<< ((4 : Int32).toInt64 &&& 63)) &&& 9223372036854775792) &&& 15 = 0 := by
    rw [Int64.and_assoc, show (9223372036854775792 : Int64) &&& 15 = 0 by decide, Int64.and_zero]
  have e2 := own_andL ((a <<< ((4 : Int32).toInt64 &&& 63)) &&& 9223372036854775792) (j := 4) (by decide)
  have e3 : ((a <<< ((4 : Int32).toInt64 &&& 63)) &&& 9223372036854775792) &&& 15 = Int64.ofNat _ := e2
  rw [e] at e3
  have m := Nat.mod_lt ((a <<< ((4 : Int32).toInt64 &&& 63)) &&& 9223372036854775792).toBitVec.toNat (show 0 < 2 ^ 4 by decide)
  have e4 := congrArg (fun x : Int64 => x.toBitVec.toNat) e3
  have e5 : (0 : Nat) = (Int64.ofNat (((a <<< ((4 : Int32).toInt64 &&& 63)) &&& 9223372036854775792).toBitVec.toNat % 2 ^ 4)).toBitVec.toNat := e4
  rw [own_i64n _ (by omega)] at e5
  exact e5.symm
def own_pc (G : Nat) : Nat := own_bit G 0 + own_bit G 1 + own_bit G 2 + own_bit G 3 + own_bit G 4 + own_bit G 5 + own_bit G 6 + own_bit G 7 + own_bit G 8 + own_bit G 9 + own_bit G 10 + own_bit G 11 + own_bit G 12
def own_pn : Nat → Nat → Nat
  | 0, _ => 0
  | n + 1, G => G % 2 + own_pn n (G / 2)
theorem own_pn_spec : ∀ n G, G < 2 ^ n → own_pn n G ≤ n ∧ (own_pn n G = n ↔ G + 1 = 2 ^ n) ∧ (own_pn n G = 0 ↔ G = 0)
  | 0, G, h => by simp [own_pn] at h ⊢; omega
  | n + 1, G, h => by
    obtain ⟨a, b, c⟩ := own_pn_spec n (G / 2) (by rw [Nat.pow_succ] at h; omega)
    simp only [own_pn, Nat.pow_succ] at h ⊢
    generalize own_pn n (G / 2) = p at *
    generalize 2 ^ n = q at *
    omega
theorem own_bit_succ (G k : Nat) : own_bit G (k + 1) = own_bit (G / 2) k := by
  unfold own_bit
  rw [Nat.pow_succ, Nat.mul_comm, Nat.div_div_eq_div_mul]
theorem own_bit_zero (G : Nat) : own_bit G 0 = G % 2 := by simp [own_bit]
theorem own_pc_pn (G : Nat) : own_pc G = own_pn 13 G := by
  simp only [own_pc, own_pn, own_bit_succ, own_bit_zero, Nat.add_assoc, Nat.add_zero]
theorem own_pcs (G : Nat) (h : G < 8192) : (own_pc G = 13 ↔ G = 8191) ∧ (own_pc G = 0 ↔ G = 0) := by
  obtain ⟨a, b, c⟩ := own_pn_spec 13 G h
  rw [own_pc_pn]
  exact ⟨by omega, c⟩
theorem own_bitm (F : Nat) {k : Nat} (hk : k < 13) : own_bit (F % 8192) k = own_bit F k := by
  unfold own_bit
  have e : 8192 = 2 ^ k * 2 ^ (13 - k) := by rw [← Nat.pow_add, show k + (13 - k) = 13 by omega]
  rw [e, Nat.mod_mul_right_div_self, Nat.mod_mod_of_dvd]
  exact Nat.dvd_of_mod_eq_zero (by rw [show 13 - k = (12 - k) + 1 by omega, Nat.pow_succ]; exact Nat.mul_mod_left _ _)
theorem own_pcm (F : Nat) : own_pc (F % 8192) = own_pc F := by
  unfold own_pc
  rw [own_bitm F (show 0 < 13 by decide), own_bitm F (show 1 < 13 by decide), own_bitm F (show 2 < 13 by decide), own_bitm F (show 3 < 13 by decide), own_bitm F (show 4 < 13 by decide), own_bitm F (show 5 < 13 by decide), own_bitm F (show 6 < 13 by decide), own_bitm F (show 7 < 13 by decide), own_bitm F (show 8 < 13 by decide), own_bitm F (show 9 < 13 by decide), own_bitm F (show 10 < 13 by decide), own_bitm F (show 11 < 13 by decide), own_bitm F (show 12 < 13 by decide)]
set_option maxRecDepth 65536 in
set_option maxHeartbeats 40000000 in
theorem oc0 (l : Launch) (Z : State) (a0 : Array Value) (hw : ∀ d ∈ tables_1, d.before a0 Z = true) (n0 : Nat) (h : Heap) (bytes a : Int64) (flags : Int32) (Z0 : n0 ≤ h.size) : o_C l Z n0 Jvm.Pilot.@@N@@.x code maxLocals ret room_1 [(.long bytes), (.long a), (.int flags)] h (fun v h' => v = some (.int 1)) := by
  refine o_body (Ls := [.val (.long bytes), .second, .val (.long a), .second, .val (.int flags), .unset, .unset, .unset, .unset, .unset, .unset, .unset]) pn0 (by first | (simp [argsToLocals, Value.category, maxLocals]; done) | rfl) (fun κ B => ?_)
  refine o_lloadN (pc := 0) B at_0 rfl ?_
  refine o_iconst (pc := 1) B (4 : Int32) at_1 (by decide) ?_
  refine o_lshl (pc := 2) B at_2 ?_
  refine o_ldc2_w (pc := 3) B (x := (9223372036854775792 : Int64)) at_3 (hw _ (List.mem_of_getElem? (i := 0) rfl)) ?_
  refine o_land (pc := 6) B at_6 ?_
  have hm := own_midm a
  obtain ⟨m, em⟩ : ∃ m, m = (a <<< ((4 : Int32).toInt64 &&& 63)) &&& 9223372036854775792 := ⟨_, rfl⟩
  rw [← em] at hm ⊢
  refine o_lstore_12_5 (pc := 7) B at_7 rfl ?_
  refine o_new (pc := 9) B at_9 (hw _ (List.mem_of_getElem? (i := 1) rfl)) (hw _ (List.mem_of_getElem? (i := 2) rfl)) (hw _ (List.mem_of_getElem? (i := 3) rfl)) (by decide) (by decide) ?_
  intro h1 E1 X1 D1
  obtain ⟨o, go, eo⟩ : ∃ a, n0 ≤ a ∧ a = h.size := ⟨_, Z0, rfl⟩
  rw [← eo] at X1 ⊢
  have F1 : Fld Z h1 o own_FS "segmentBits" "I" (.int 0) := eo ▸ D1 (Or.inl (hw _ (List.mem_of_getElem? (i := 11) rfl))) (ty := .int) (by decide)
  have F2 : Fld Z h1 o own_FS "tables" "[[J" .null := eo ▸ D1 (Or.inl (hw _ (List.mem_of_getElem? (i := 17) rfl))) (ty := .array (.array .long)) (by decide)
  have F3 : Fld Z h1 o own_FS "counts" "[I" .null := eo ▸ D1 (Or.inl (hw _ (List.mem_of_getElem? (i := 20) rfl))) (ty := .array .int) (by decide)
  have F4 : Fld Z h1 o own_FS "blockStarts" "[J" .null := eo ▸ D1 (Or.inl (hw _ (List.mem_of_getElem? (i := 22) rfl))) (ty := .array .long) (by decide)
  have F5 : Fld Z h1 o own_FS "mostSegmentBits" "I" (.int 0) := eo ▸ D1 (Or.inr (hw _ (List.mem_of_getElem? (i := 42) rfl))) (ty := .int) (by decide)
  have z1 := E1.1
  refine o_dup (pc := 12) B at_12 rfl ?_
  refine o_lloadN (pc := 13) B at_13 rfl ?_
  refine o_callN1 (pc := 14) B 1 at_14 rfl (hw _ (List.mem_of_getElem? (i := 4) rfl)) (hw _ (List.mem_of_getElem? (i := 5) rfl)) (hw _ (List.mem_of_getElem? (i := 3) rfl)) (hw _ (List.mem_of_getElem? (i := 6) rfl)) (by decide) pd1 rfl (by first | exact Nat.zero_le _ | exact Nat.le_of_ble_eq_true rfl | simp [Value.category]) (by decide) (by decide) (by decide) (by decide) rfl (oc1 l Z a0 hw n0 _ o bytes .null .null .null (.int 0) (.int 0) go (by omega) X1 F1 F2 F3 F4 F5) ?_
  rintro v h2 ⟨rfl, ta, t0, t1, ac, O0⟩
  have L0_0 : (List.replicate 16 (0 : Int64)).length = 16 := by simp
  have I0_0 : ∀ j, 1 ≤ j → j < 16 → (List.replicate 16 (0 : Int64))[j]? = some 0 := fun j _ q => by rw [List.getElem?_replicate, if_pos q]
  refine o_astore_12_7 (pc := 17) B at_17 rfl rfl ?_
  refine o_aload (pc := 19) B at_19 rfl rfl ?_
  refine o_lload (pc := 21) B at_21 rfl ?_
  refine o_iload (pc := 23) B at_23 rfl ?_
  refine o_iconst (pc := 25) B (1 : Int32) at_25 (by decide) ?_
  refine o_callS3 (pc := 26) B 1 at_26 (hw _ (List.mem_of_getElem? (i := 43) rfl)) (hw _ (List.mem_of_getElem? (i := 44) rfl)) (hw _ (List.mem_of_getElem? (i := 45) rfl)) (hw _ (List.mem_of_getElem? (i := 46) rfl)) (by decide) pd7 rfl (by first | exact Nat.zero_le _ | exact Nat.le_of_ble_eq_true rfl | simp [Value.category]) (by decide) (by decide) (by decide) (by decide) rfl (oc7_1 l Z a0 hw n0 _ m flags hm) ?_
  rintro v h' ⟨⟨k1, d0_1, d1_1, rfl, x1, y1, s1, c1, u1, b1⟩, rfl⟩
  refine o_callV1 (pc := 29) B 0 at_29 (hw _ (List.mem_of_getElem? (i := 47) rfl)) (hw _ (List.mem_of_getElem? (i := 48) rfl)) (hw _ (List.mem_of_getElem? (i := 50) rfl)) (hw _ (List.mem_of_getElem? (i := 49) rfl)) (hw _ (List.mem_of_getElem? (i := 3) rfl)) (hw _ (List.mem_of_getElem? (i := 51) rfl)) (by decide) pd8 rfl (by first | exact Nat.zero_le _ | exact Nat.le_of_ble_eq_true rfl | simp [Value.category]) (by decide) (by decide) (by decide) (by decide) rfl (O0.p_E) (oc8 l Z a0 hw n0 _ o ta t0 t1 ac 0 0 1 d0_1 d1_1 (List.replicate 16 0) (List.replicate 16 0) k1 O0 (by decide) (by decide) L0_0 L0_0 I0_0 I0_0 x1 y1 s1 c1 (by omega)) ?_
  rintro v h3 ⟨rfl, T0_1, T1_1, O1, l0_1, l1_1, i0_1, i1_1⟩
  refine o_istore_12_8 (pc := 32) B at_32 rfl ?_
  refine o_iload (pc := 34) B at_34 rfl ?_
  refine o_aload (pc := 36) B at_36 rfl rfl ?_
  refine o_lload (pc := 38) B at_38 rfl ?_
  refine o_iload (pc := 40) B at_40 rfl ?_
  refine o_iconst (pc := 42) B (2 : Int32) at_42 (by decide) ?_
  refine o_callS3 (pc := 43) B 2 at_43 (hw _ (List.mem_of_getElem? (i := 43) rfl)) (hw _ (List.mem_of_getElem? (i := 44) rfl)) (hw _ (List.mem_of_getElem? (i := 45) rfl)) (hw _ (List.mem_of_getElem? (i := 46) rfl)) (by decide) pd7 rfl (by first | exact Nat.zero_le _ | exact Nat.le_of_ble_eq_true rfl | simp [Value.category]) (by decide) (by decide) (by decide) (by decide) rfl (oc7_2 l Z a0 hw n0 _ m flags hm) ?_
  rintro v h' ⟨⟨k2, d0_2, d1_2, rfl, x2, y2, s2, c2, u2, b2⟩, rfl⟩
  refine o_callV1 (pc := 46) B 1 at_46 (hw _ (List.mem_of_getElem? (i := 47) rfl)) (hw _ (List.mem_of_getElem? (i := 48) rfl)) (hw _ (List.mem_of_getElem? (i := 50) rfl)) (hw _ (List.mem_of_getElem? (i := 49) rfl)) (hw _ (List.mem_of_getElem? (i := 3) rfl)) (hw _ (List.mem_of_getElem? (i := 51) rfl)) (by decide) pd8 rfl (by first | exact Nat.zero_le _ | exact Nat.le_of_ble_eq_true rfl | simp [Value.category]) (by decide) (by decide) (by decide) (by decide) rfl (O1.p_E) (oc8 l Z a0 hw n0 _ o ta t0 t1 ac (0 + d0_1) (0 + d1_1) 2 d0_2 d1_2 T0_1 T1_1 k2 O1 (by decide) (by decide) l0_1 l1_1 i0_1 i1_1 x2 y2 s2 c2 (by omega)) ?_
  rintro v h4 ⟨rfl, T0_2, T1_2, O2, l0_2, l1_2, i0_2, i1_2⟩
  refine o_iand_c (pc := 49) B (1 : Int32) at_49 (by decide) ?_
  refine o_istore_12_8 (pc := 50) B at_50 rfl ?_
  refine o_iload (pc := 52) B at_52 rfl ?_
  refine o_aload (pc := 54) B at_54 rfl rfl ?_
  refine o_lload (pc := 56) B at_56 rfl ?_
  refine o_iload (pc := 58) B at_58 rfl ?_
  refine o_iconst (pc := 60) B (3 : Int32) at_60 (by decide) ?_
  refine o_callS3 (pc := 61) B 2 at_61 (hw _ (List.mem_of_getElem? (i := 43) rfl)) (hw _ (List.mem_of_getElem? (i := 44) rfl)) (hw _ (List.mem_of_getElem? (i := 45) rfl)) (hw _ (List.mem_of_getElem? (i := 46) rfl)) (by decide) pd7 rfl (by first | exact Nat.zero_le _ | exact Nat.le_of_ble_eq_true rfl | simp [Value.category]) (by decide) (by decide) (by decide) (by decide) rfl (oc7_3 l Z a0 hw n0 _ m flags hm) ?_
  rintro v h' ⟨⟨k3, d0_3, d1_3, rfl, x3, y3, s3, c3, u3, b3⟩, rfl⟩
  refine o_callV1 (pc := 64) B 1 at_64 (hw _ (List.mem_of_getElem? (i := 47) rfl)) (hw _ (List.mem_of_getElem? (i := 48) rfl)) (hw _ (List.mem_of_getElem? (i := 50) rfl)) (hw _ (List.mem_of_getElem? (i := 49) rfl)) (hw _ (List.mem_of_getElem? (i := 3) rfl)) (hw _ (List.mem_of_getElem? (i := 51) rfl)) (by decide) pd8 rfl (by first | exact Nat.zero_le _ | exact Nat.le_of_ble_eq_true rfl | simp [Value.category]) (by decide) (by decide) (by decide) (by decide) rfl (O2.p_E) (oc8 l Z a0 hw n0 _ o ta t0 t1 ac ((0 + d0_1) + d0_2) ((0 + d1_1) + d1_2) 3 d0_3 d1_3 T0_2 T1_2 k3 O2 (by decide) (by decide) l0_2 l1_2 i0_2 i1_2 x3 y3 s3 c3 (by omega)) ?_
  rintro v h5 ⟨rfl, T0_3, T1_3, O3, l0_3, l1_3, i0_3, i1_3⟩
  refine o_iand_c (pc := 67) B (1 : Int32) at_67 (by decide) ?_
  refine o_istore_12_8 (pc := 68) B at_68 rfl ?_
  refine o_iload (pc := 70) B at_70 rfl ?_
  refine o_aload (pc := 72) B at_72 rfl rfl ?_
  refine o_lload (pc := 74) B at_74 rfl ?_
  refine o_iload (pc := 76) B at_76 rfl ?_
  refine o_iconst (pc := 78) B (4 : Int32) at_78 (by decide) ?_
  refine o_callS3 (pc := 79) B 2 at_79 (hw _ (List.mem_of_getElem? (i := 43) rfl)) (hw _ (List.mem_of_getElem? (i := 44) rfl)) (hw _ (List.mem_of_getElem? (i := 45) rfl)) (hw _ (List.mem_of_getElem? (i := 46) rfl)) (by decide) pd7 rfl (by first | exact Nat.zero_le _ | exact Nat.le_of_ble_eq_true rfl | simp [Value.category]) (by decide) (by decide) (by decide) (by decide) rfl (oc7_4 l Z a0 hw n0 _ m flags hm) ?_
  rintro v h' ⟨⟨k4, d0_4, d1_4, rfl, x4, y4, s4, c4, u4, b4⟩, rfl⟩
  refine o_callV1 (pc := 82) B 1 at_82 (hw _ (List.mem_of_getElem? (i := 47) rfl)) (hw _ (List.mem_of_getElem? (i := 48) rfl)) (hw _ (List.mem_of_getElem? (i := 50) rfl)) (hw _ (List.mem_of_getElem? (i := 49) rfl)) (hw _ (List.mem_of_getElem? (i := 3) rfl)) (hw _ (List.mem_of_getElem? (i := 51) rfl)) (by decide) pd8 rfl (by first | exact Nat.zero_le _ | exact Nat.le_of_ble_eq_true rfl | simp [Value.category]) (by decide) (by decide) (by decide) (by decide) rfl (O3.p_E) (oc8 l Z a0 hw n0 _ o ta t0 t1 ac (((0 + d0_1) + d0_2) + d0_3) (((0 + d1_1) + d1_2) + d1_3) 4 d0_4 d1_4 T0_3 T1_3 k4 O3 (by decide) (by decide) l0_3 l1_3 i0_3 i1_3 x4 y4 s4 c4 (by omega)) ?_
  rintro v h6 ⟨rfl, T0_4, T1_4, O4, l0_4, l1_4, i0_4, i1_4⟩
  refine o_iand_c (pc := 85) B (1 : Int32) at_85 (by decide) ?_
  refine o_istore_12_8 (pc := 86) B at_86 rfl ?_
  refine o_iload (pc := 88) B at_88 rfl ?_
  refine o_aload (pc := 90) B at_90 rfl rfl ?_
  refine o_lload (pc := 92) B at_92 rfl ?_
  refine o_iload (pc := 94) B at_94 rfl ?_
  refine o_iconst (pc := 96) B (5 : Int32) at_96 (by decide) ?_
  refine o_callS3 (pc := 97) B 2 at_97 (hw _ (List.mem_of_getElem? (i := 43) rfl)) (hw _ (List.mem_of_getElem? (i := 44) rfl)) (hw _ (List.mem_of_getElem? (i := 45) rfl)) (hw _ (List.mem_of_getElem? (i := 46) rfl)) (by decide) pd7 rfl (by first | exact Nat.zero_le _ | exact Nat.le_of_ble_eq_true rfl | simp [Value.category]) (by decide) (by decide) (by decide) (by decide) rfl (oc7_5 l Z a0 hw n0 _ m flags hm) ?_
  rintro v h' ⟨⟨k5, d0_5, d1_5, rfl, x5, y5, s5, c5, u5, b5⟩, rfl⟩
  refine o_callV1 (pc := 100) B 1 at_100 (hw _ (List.mem_of_getElem? (i := 47) rfl)) (hw _ (List.mem_of_getElem? (i := 48) rfl)) (hw _ (List.mem_of_getElem? (i := 50) rfl)) (hw _ (List.mem_of_getElem? (i := 49) rfl)) (hw _ (List.mem_of_getElem? (i := 3) rfl)) (hw _ (List.mem_of_getElem? (i := 51) rfl)) (by decide) pd8 rfl (by first | exact Nat.zero_le _ | exact Nat.le_of_ble_eq_true rfl | simp [Value.category]) (by decide) (by decide) (by decide) (by decide) rfl (O4.p_E) (oc8 l Z a0 hw n0 _ o ta t0 t1 ac ((((0 + d0_1) + d0_2) + d0_3) + d0_4) ((((0 + d1_1) + d1_2) + d1_3) + d1_4) 5 d0_5 d1_5 T0_4 T1_4 k5 O4 (by decide) (by decide) l0_4 l1_4 i0_4 i1_4 x5 y5 s5 c5 (by omega)) ?_
  rintro v h7 ⟨rfl, T0_5, T1_5, O5, l0_5, l1_5, i0_5, i1_5⟩
  refine o_iand_c (pc := 103) B (1 : Int32) at_103 (by decide) ?_
  refine o_istore_12_8 (pc := 104) B at_104 rfl ?_
  refine o_iload (pc := 106) B at_106 rfl ?_
  refine o_aload (pc := 108) B at_108 rfl rfl ?_
  refine o_lload (pc := 110) B at_110 rfl ?_
  refine o_iload (pc := 112) B at_112 rfl ?_
  refine o_bipush (pc := 114) B (6 : Int32) at_114 (by decide) ?_
  refine o_callS3 (pc := 116) B 2 at_116 (hw _ (List.mem_of_getElem? (i := 43) rfl)) (hw _ (List.mem_of_getElem? (i := 44) rfl)) (hw _ (List.mem_of_getElem? (i := 45) rfl)) (hw _ (List.mem_of_getElem? (i := 46) rfl)) (by decide) pd7 rfl (by first | exact Nat.zero_le _ | exact Nat.le_of_ble_eq_true rfl | simp [Value.category]) (by decide) (by decide) (by decide) (by decide) rfl (oc7_6 l Z a0 hw n0 _ m flags hm) ?_
  rintro v h' ⟨⟨k6, d0_6, d1_6, rfl, x6, y6, s6, c6, u6, b6⟩, rfl⟩
  refine o_callV1 (pc := 119) B 1 at_119 (hw _ (List.mem_of_getElem? (i := 47) rfl)) (hw _ (List.mem_of_getElem? (i := 48) rfl)) (hw _ (List.mem_of_getElem? (i := 50) rfl)) (hw _ (List.mem_of_getElem? (i := 49) rfl)) (hw _ (List.mem_of_getElem? (i := 3) rfl)) (hw _ (List.mem_of_getElem? (i := 51) rfl)) (by decide) pd8 rfl (by first | exact Nat.zero_le _ | exact Nat.le_of_ble_eq_true rfl | simp [Value.category]) (by decide) (by decide) (by decide) (by decide) rfl (O5.p_E) (oc8 l Z a0 hw n0 _ o ta t0 t1 ac (((((0 + d0_1) + d0_2) + d0_3) + d0_4) + d0_5) (((((0 + d1_1) + d1_2) + d1_3) + d1_4) + d1_5) 6 d0_6 d1_6 T0_5 T1_5 k6 O5 (by decide) (by decide) l0_5 l1_5 i0_5 i1_5 x6 y6 s6 c6 (by omega)) ?_
  rintro v h8 ⟨rfl, T0_6, T1_6, O6, l0_6, l1_6, i0_6, i1_6⟩
  refine o_iand_c (pc := 122) B (1 : Int32) at_122 (by decide) ?_
  refine o_istore_12_8 (pc := 123) B at_123 rfl ?_
  refine o_iload (pc := 125) B at_125 rfl ?_
  refine o_aload (pc := 127) B at_127 rfl rfl ?_
  refine o_lload (pc := 129) B at_129 rfl ?_
  refine o_iload (pc := 131) B at_131 rfl ?_
  refine o_bipush (pc := 133) B (7 : Int32) at_133 (by decide) ?_
  refine o_callS3 (pc := 135) B 2 at_135 (hw _ (List.mem_of_getElem? (i := 43) rfl)) (hw _ (List.mem_of_getElem? (i := 44) rfl)) (hw _ (List.mem_of_getElem? (i := 45) rfl)) (hw _ (List.mem_of_getElem? (i := 46) rfl)) (by decide) pd7 rfl (by first | exact Nat.zero_le _ | exact Nat.le_of_ble_eq_true rfl | simp [Value.category]) (by decide) (by decide) (by decide) (by decide) rfl (oc7_7 l Z a0 hw n0 _ m flags hm) ?_
  rintro v h' ⟨⟨k7, d0_7, d1_7, rfl, x7, y7, s7, c7, u7, b7⟩, rfl⟩
  refine o_callV1 (pc := 138) B 1 at_138 (hw _ (List.mem_of_getElem? (i := 47) rfl)) (hw _ (List.mem_of_getElem? (i := 48) rfl)) (hw _ (List.mem_of_getElem? (i := 50) rfl)) (hw _ (List.mem_of_getElem? (i := 49) rfl)) (hw _ (List.mem_of_getElem? (i := 3) rfl)) (hw _ (List.mem_of_getElem? (i := 51) rfl)) (by decide) pd8 rfl (by first | exact Nat.zero_le _ | exact Nat.le_of_ble_eq_true rfl | simp [Value.category]) (by decide) (by decide) (by decide) (by decide) rfl (O6.p_E) (oc8 l Z a0 hw n0 _ o ta t0 t1 ac ((((((0 + d0_1) + d0_2) + d0_3) + d0_4) + d0_5) + d0_6) ((((((0 + d1_1) + d1_2) + d1_3) + d1_4) + d1_5) + d1_6) 7 d0_7 d1_7 T0_6 T1_6 k7 O6 (by decide) (by decide) l0_6 l1_6 i0_6 i1_6 x7 y7 s7 c7 (by omega)) ?_
  rintro v h9 ⟨rfl, T0_7, T1_7, O7, l0_7, l1_7, i0_7, i1_7⟩
  refine o_iand_c (pc := 141) B (1 : Int32) at_141 (by decide) ?_
  refine o_istore_12_8 (pc := 142) B at_142 rfl ?_
  refine o_iload (pc := 144) B at_144 rfl ?_
  refine o_aload (pc := 146) B at_146 rfl rfl ?_
  refine o_lload (pc := 148) B at_148 rfl ?_
  refine o_iload (pc := 150) B at_150 rfl ?_
  refine o_bipush (pc := 152) B (8 : Int32) at_152 (by decide) ?_
  refine o_callS3 (pc := 154) B 2 at_154 (hw _ (List.mem_of_getElem? (i := 43) rfl)) (hw _ (List.mem_of_getElem? (i := 44) rfl)) (hw _ (List.mem_of_getElem? (i := 45) rfl)) (hw _ (List.mem_of_getElem? (i := 46) rfl)) (by decide) pd7 rfl (by first | exact Nat.zero_le _ | exact Nat.le_of_ble_eq_true rfl | simp [Value.category]) (by decide) (by decide) (by decide) (by decide) rfl (oc7_8 l Z a0 hw n0 _ m flags hm) ?_
  rintro v h' ⟨⟨k8, d0_8, d1_8, rfl, x8, y8, s8, c8, u8, b8⟩, rfl⟩
  refine o_callV1 (pc := 157) B 1 at_157 (hw _ (List.mem_of_getElem? (i := 47) rfl)) (hw _ (List.mem_of_getElem? (i := 48) rfl)) (hw _ (List.mem_of_getElem? (i := 50) rfl)) (hw _ (List.mem_of_getElem? (i := 49) rfl)) (hw _ (List.mem_of_getElem? (i := 3) rfl)) (hw _ (List.mem_of_getElem? (i := 51) rfl)) (by decide) pd8 rfl (by first | exact Nat.zero_le _ | exact Nat.le_of_ble_eq_true rfl | simp [Value.category]) (by decide) (by decide) (by decide) (by decide) rfl (O7.p_E) (oc8 l Z a0 hw n0 _ o ta t0 t1 ac (((((((0 + d0_1) + d0_2) + d0_3) + d0_4) + d0_5) + d0_6) + d0_7) (((((((0 + d1_1) + d1_2) + d1_3) + d1_4) + d1_5) + d1_6) + d1_7) 8 d0_8 d1_8 T0_7 T1_7 k8 O7 (by decide) (by decide) l0_7 l1_7 i0_7 i1_7 x8 y8 s8 c8 (by omega)) ?_
  rintro v h10 ⟨rfl, T0_8, T1_8, O8, l0_8, l1_8, i0_8, i1_8⟩
  refine o_iand_c (pc := 160) B (1 : Int32) at_160 (by decide) ?_
  refine o_istore_12_8 (pc := 161) B at_161 rfl ?_
  refine o_iload (pc := 163) B at_163 rfl ?_
  refine o_aload (pc := 165) B at_165 rfl rfl ?_
  refine o_lload (pc := 167) B at_167 rfl ?_
  refine o_iload (pc := 169) B at_169 rfl ?_
  refine o_bipush (pc := 171) B (9 : Int32) at_171 (by decide) ?_
  refine o_callS3 (pc := 173) B 2 at_173 (hw _ (List.mem_of_getElem? (i := 43) rfl)) (hw _ (List.mem_of_getElem? (i := 44) rfl)) (hw _ (List.mem_of_getElem? (i := 45) rfl)) (hw _ (List.mem_of_getElem? (i := 46) rfl)) (by decide) pd7 rfl (by first | exact Nat.zero_le _ | exact Nat.le_of_ble_eq_true rfl | simp [Value.category]) (by decide) (by decide) (by decide) (by decide) rfl (oc7_9 l Z a0 hw n0 _ m flags hm) ?_
  rintro v h' ⟨⟨k9, d0_9, d1_9, rfl, x9, y9, s9, c9, u9, b9⟩, rfl⟩
  refine o_callV1 (pc := 176) B 1 at_176 (hw _ (List.mem_of_getElem? (i := 47) rfl)) (hw _ (List.mem_of_getElem? (i := 48) rfl)) (hw _ (List.mem_of_getElem? (i := 50) rfl)) (hw _ (List.mem_of_getElem? (i := 49) rfl)) (hw _ (List.mem_of_getElem? (i := 3) rfl)) (hw _ (List.mem_of_getElem? (i := 51) rfl)) (by decide) pd8 rfl (by first | exact Nat.zero_le _ | exact Nat.le_of_ble_eq_true rfl | simp [Value.category]) (by decide) (by decide) (by decide) (by decide) rfl (O8.p_E) (oc8 l Z a0 hw n0 _ o ta t0 t1 ac ((((((((0 + d0_1) + d0_2) + d0_3) + d0_4) + d0_5) + d0_6) + d0_7) + d0_8) ((((((((0 + d1_1) + d1_2) + d1_3) + d1_4) + d1_5) + d1_6) + d1_7) + d1_8) 9 d0_9 d1_9 T0_8 T1_8 k9 O8 (by decide) (by decide) l0_8 l1_8 i0_8 i1_8 x9 y9 s9 c9 (by omega)) ?_
  rintro v h11 ⟨rfl, T0_9, T1_9, O9, l0_9, l1_9, i0_9, i1_9⟩
  refine o_iand_c (pc := 179) B (1 : Int32) at_179 (by decide) ?_
  refine o_istore_12_8 (pc := 180) B at_180 rfl ?_
  refine o_iload (pc := 182) B at_182 rfl ?_
  refine o_aload (pc := 184) B at_184 rfl rfl ?_
  refine o_lload (pc := 186) B at_186 rfl ?_
  refine o_iload (pc := 188) B at_188 rfl ?_
  refine o_bipush (pc := 190) B (10 : Int32) at_190 (by decide) ?_
  refine o_callS3 (pc := 192) B 2 at_192 (hw _ (List.mem_of_getElem? (i := 43) rfl)) (hw _ (List.mem_of_getElem? (i := 44) rfl)) (hw _ (List.mem_of_getElem? (i := 45) rfl)) (hw _ (List.mem_of_getElem? (i := 46) rfl)) (by decide) pd7 rfl (by first | exact Nat.zero_le _ | exact Nat.le_of_ble_eq_true rfl | simp [Value.category]) (by decide) (by decide) (by decide) (by decide) rfl (oc7_10 l Z a0 hw n0 _ m flags hm) ?_
  rintro v h' ⟨⟨k10, d0_10, d1_10, rfl, x10, y10, s10, c10, u10, b10⟩, rfl⟩
  refine o_callV1 (pc := 195) B 1 at_195 (hw _ (List.mem_of_getElem? (i := 47) rfl)) (hw _ (List.mem_of_getElem? (i := 48) rfl)) (hw _ (List.mem_of_getElem? (i := 50) rfl)) (hw _ (List.mem_of_getElem? (i := 49) rfl)) (hw _ (List.mem_of_getElem? (i := 3) rfl)) (hw _ (List.mem_of_getElem? (i := 51) rfl)) (by decide) pd8 rfl (by first | exact Nat.zero_le _ | exact Nat.le_of_ble_eq_true rfl | simp [Value.category]) (by decide) (by decide) (by decide) (by decide) rfl (O9.p_E) (oc8 l Z a0 hw n0 _ o ta t0 t1 ac (((((((((0 + d0_1) + d0_2) + d0_3) + d0_4) + d0_5) + d0_6) + d0_7) + d0_8) + d0_9) (((((((((0 + d1_1) + d1_2) + d1_3) + d1_4) + d1_5) + d1_6) + d1_7) + d1_8) + d1_9) 10 d0_10 d1_10 T0_9 T1_9 k10 O9 (by decide) (by decide) l0_9 l1_9 i0_9 i1_9 x10 y10 s10 c10 (by omega)) ?_
  rintro v h12 ⟨rfl, T0_10, T1_10, O10, l0_10, l1_10, i0_10, i1_10⟩
  refine o_iand_c (pc := 198) B (1 : Int32) at_198 (by decide) ?_
  refine o_istore_12_8 (pc := 199) B at_199 rfl ?_
  refine o_iload (pc := 201) B at_201 rfl ?_
  refine o_aload (pc := 203) B at_203 rfl rfl ?_
  refine o_lload (pc := 205) B at_205 rfl ?_
  refine o_iload (pc := 207) B at_207 rfl ?_
  refine o_bipush (pc := 209) B (11 : Int32) at_209 (by decide) ?_
  refine o_callS3 (pc := 211) B 2 at_211 (hw _ (List.mem_of_getElem? (i := 43) rfl)) (hw _ (List.mem_of_getElem? (i := 44) rfl)) (hw _ (List.mem_of_getElem? (i := 45) rfl)) (hw _ (List.mem_of_getElem? (i := 46) rfl)) (by decide) pd7 rfl (by first | exact Nat.zero_le _ | exact Nat.le_of_ble_eq_true rfl | simp [Value.category]) (by decide) (by decide) (by decide) (by decide) rfl (oc7_11 l Z a0 hw n0 _ m flags hm) ?_
  rintro v h' ⟨⟨k11, d0_11, d1_11, rfl, x11, y11, s11, c11, u11, b11⟩, rfl⟩
  refine o_callV1 (pc := 214) B 1 at_214 (hw _ (List.mem_of_getElem? (i := 47) rfl)) (hw _ (List.mem_of_getElem? (i := 48) rfl)) (hw _ (List.mem_of_getElem? (i := 50) rfl)) (hw _ (List.mem_of_getElem? (i := 49) rfl)) (hw _ (List.mem_of_getElem? (i := 3) rfl)) (hw _ (List.mem_of_getElem? (i := 51) rfl)) (by decide) pd8 rfl (by first | exact Nat.zero_le _ | exact Nat.le_of_ble_eq_true rfl | simp [Value.category]) (by decide) (by decide) (by decide) (by decide) rfl (O10.p_E) (oc8 l Z a0 hw n0 _ o ta t0 t1 ac ((((((((((0 + d0_1) + d0_2) + d0_3) + d0_4) + d0_5) + d0_6) + d0_7) + d0_8) + d0_9) + d0_10) ((((((((((0 + d1_1) + d1_2) + d1_3) + d1_4) + d1_5) + d1_6) + d1_7) + d1_8) + d1_9) + d1_10) 11 d0_11 d1_11 T0_10 T1_10 k11 O10 (by decide) (by decide) l0_10 l1_10 i0_10 i1_10 x11 y11 s11 c11 (by omega)) ?_
  rintro v h13 ⟨rfl, T0_11, T1_11, O11, l0_11, l1_11, i0_11, i1_11⟩
  refine o_iand_c (pc := 217) B (1 : Int32) at_217 (by decide) ?_
  refine o_istore_12_8 (pc := 218) B at_218 rfl ?_
  refine o_iload (pc := 220) B at_220 rfl ?_
  refine o_aload (pc := 222) B at_222 rfl rfl ?_
  refine o_lload (pc := 224) B at_224 rfl ?_
  refine o_iload (pc := 226) B at_226 rfl ?_
  refine o_bipush (pc := 228) B (12 : Int32) at_228 (by decide) ?_
  refine o_callS3 (pc := 230) B 2 at_230 (hw _ (List.mem_of_getElem? (i := 43) rfl)) (hw _ (List.mem_of_getElem? (i := 44) rfl)) (hw _ (List.mem_of_getElem? (i := 45) rfl)) (hw _ (List.mem_of_getElem? (i := 46) rfl)) (by decide) pd7 rfl (by first | exact Nat.zero_le _ | exact Nat.le_of_ble_eq_true rfl | simp [Value.category]) (by decide) (by decide) (by decide) (by decide) rfl (oc7_12 l Z a0 hw n0 _ m flags hm) ?_
  rintro v h' ⟨⟨k12, d0_12, d1_12, rfl, x12, y12, s12, c12, u12, b12⟩, rfl⟩
  refine o_callV1 (pc := 233) B 1 at_233 (hw _ (List.mem_of_getElem? (i := 47) rfl)) (hw _ (List.mem_of_getElem? (i := 48) rfl)) (hw _ (List.mem_of_getElem? (i := 50) rfl)) (hw _ (List.mem_of_getElem? (i := 49) rfl)) (hw _ (List.mem_of_getElem? (i := 3) rfl)) (hw _ (List.mem_of_getElem? (i := 51) rfl)) (by decide) pd8 rfl (by first | exact Nat.zero_le _ | exact Nat.le_of_ble_eq_true rfl | simp [Value.category]) (by decide) (by decide) (by decide) (by decide) rfl (O11.p_E) (oc8 l Z a0 hw n0 _ o ta t0 t1 ac (((((((((((0 + d0_1) + d0_2) + d0_3) + d0_4) + d0_5) + d0_6) + d0_7) + d0_8) + d0_9) + d0_10) + d0_11) (((((((((((0 + d1_1) + d1_2) + d1_3) + d1_4) + d1_5) + d1_6) + d1_7) + d1_8) + d1_9) + d1_10) + d1_11) 12 d0_12 d1_12 T0_11 T1_11 k12 O11 (by decide) (by decide) l0_11 l1_11 i0_11 i1_11 x12 y12 s12 c12 (by omega)) ?_
  rintro v h14 ⟨rfl, T0_12, T1_12, O12, l0_12, l1_12, i0_12, i1_12⟩
  refine o_iand_c (pc := 236) B (1 : Int32) at_236 (by decide) ?_
  refine o_istore_12_8 (pc := 237) B at_237 rfl ?_
  refine o_iload (pc := 239) B at_239 rfl ?_
  refine o_aload (pc := 241) B at_241 rfl rfl ?_
  refine o_lload (pc := 243) B at_243 rfl ?_
  refine o_iload (pc := 245) B at_245 rfl ?_
  refine o_bipush (pc := 247) B (13 : Int32) at_247 (by decide) ?_
  refine o_callS3 (pc := 249) B 2 at_249 (hw _ (List.mem_of_getElem? (i := 43) rfl)) (hw _ (List.mem_of_getElem? (i := 44) rfl)) (hw _ (List.mem_of_getElem? (i := 45) rfl)) (hw _ (List.mem_of_getElem? (i := 46) rfl)) (by decide) pd7 rfl (by first | exact Nat.zero_le _ | exact Nat.le_of_ble_eq_true rfl | simp [Value.category]) (by decide) (by decide) (by decide) (by decide) rfl (oc7_13 l Z a0 hw n0 _ m flags hm) ?_
  rintro v h' ⟨⟨k13, d0_13, d1_13, rfl, x13, y13, s13, c13, u13, b13⟩, rfl⟩
  refine o_callV1 (pc := 252) B 1 at_252 (hw _ (List.mem_of_getElem? (i := 47) rfl)) (hw _ (List.mem_of_getElem? (i := 48) rfl)) (hw _ (List.mem_of_getElem? (i := 50) rfl)) (hw _ (List.mem_of_getElem? (i := 49) rfl)) (hw _ (List.mem_of_getElem? (i := 3) rfl)) (hw _ (List.mem_of_getElem? (i := 51) rfl)) (by decide) pd8 rfl (by first | exact Nat.zero_le _ | exact Nat.le_of_ble_eq_true rfl | simp [Value.category]) (by decide) (by decide) (by decide) (by decide) rfl (O12.p_E) (oc8g l Z a0 hw n0 _ o ta t0 t1 ac ((((((((((((0 + d0_1) + d0_2) + d0_3) + d0_4) + d0_5) + d0_6) + d0_7) + d0_8) + d0_9) + d0_10) + d0_11) + d0_12) ((((((((((((0 + d1_1) + d1_2) + d1_3) + d1_4) + d1_5) + d1_6) + d1_7) + d1_8) + d1_9) + d1_10) + d1_11) + d1_12) 13 d0_13 d1_13 T0_12 T1_12 k13 (Nat.le_trans (o_le O12.p_g0) (Nat.le_of_lt (o_lt O12.p_E.lt))) O12 (by decide) (by decide) l0_12 l1_12 i0_12 i1_12 x13 y13 s13 c13 (by omega)) ?_
  rintro v h15 ⟨rfl, t0', t1', T0', T1', O13, hL, hl0, hl1⟩
  refine o_iand_c (pc := 255) B (1 : Int32) at_255 (by decide) ?_
  refine o_istore_12_8 (pc := 256) B at_256 rfl ?_
  refine o_iload (pc := 258) B at_258 rfl ?_
  refine o_sipush (pc := 260) B (8191 : Int32) at_260 (by decide) ?_
  refine o_iand (pc := 263) B at_263 ?_
  obtain ⟨F, eF⟩ : ∃ F, F = flags.toBitVec.toNat := ⟨_, rfl⟩
  rw [← eF] at b1 b2 b3 b4 b5 b6 b7 b8 b9 b10 b11 b12 b13
  have eG : flags &&& 8191 = Int32.ofNat (F % 8192) := by rw [eF]; exact own_and flags (j := 13) (by decide)
  have mG : F % 8192 < 8192 := Nat.mod_lt _ (by decide)
  obtain ⟨p1, p2⟩ := own_pcs (F % 8192) mG
  rw [own_pcm] at p1 p2
  have hpc : own_pc F = (((((((((((((0 + d0_1) + d0_2) + d0_3) + d0_4) + d0_5) + d0_6) + d0_7) + d0_8) + d0_9) + d0_10) + d0_11) + d0_12) + d0_13) := by
    rw [b1, b2, b3, b4, b5, b6, b7, b8, b9, b10, b11, b12, b13]; unfold own_pc; omega
  have hpc1 : (((((((((((((0 + d0_1) + d0_2) + d0_3) + d0_4) + d0_5) + d0_6) + d0_7) + d0_8) + d0_9) + d0_10) + d0_11) + d0_12) + d0_13) + (((((((((((((0 + d1_1) + d1_2) + d1_3) + d1_4) + d1_5) + d1_6) + d1_7) + d1_8) + d1_9) + d1_10) + d1_11) + d1_12) + d1_13) = 13 := by omega
  rw [eG]
  have fin : ∀ e : Int64, e = Int64.ofNat (T0'.length + T1'.length) → o_Go κ (fun v h' => v = some (.int 1)) h15 7 75 290 [.val (.long bytes), .second, .val (.long a), .second, .val (.int flags), .val (.long m), .second, .val (.ref o), .val (.int 1), .val (.int (Int32.ofNat (F % 8192))), .val (.long e), .second] [] := by
    intro e ee
    refine o_iload (pc := 290) B at_290 rfl ?_
    refine o_if_eq (pc := 292) (pc' := 310) B at_292 (by decide) (by decide) (fun hc292 => False.elim (by revert hc292; decide)) (fun hc292 => ?_)
    refine o_aload (pc := 295) B at_295 rfl rfl ?_
    refine o_callV0 (pc := 297) B 0 at_297 (hw _ (List.mem_of_getElem? (i := 72) rfl)) (hw _ (List.mem_of_getElem? (i := 73) rfl)) (hw _ (List.mem_of_getElem? (i := 75) rfl)) (hw _ (List.mem_of_getElem? (i := 74) rfl)) (hw _ (List.mem_of_getElem? (i := 3) rfl)) (hw _ (List.mem_of_getElem? (i := 76) rfl)) (by decide) pd14 rfl (by first | exact Nat.zero_le _ | exact Nat.le_of_ble_eq_true rfl | simp [Value.category]) (by decide) (by decide) (by decide) (by decide) rfl (O13.p_E) (oc14 l Z a0 hw n0 _ o ta t0' t1' ac _ _ T0' T1' O13 hl0 hl1) ?_
    rintro v h' ⟨rfl, rfl⟩
    refine o_lload (pc := 300) B at_300 rfl ?_
    refine o_lcmp (pc := 302) B at_302 ?_
    refine o_lif_ne (pc := 303) (pc' := 310) B at_303 (by decide) (by decide) (fun hc303 => False.elim ((hc303 ee.symm))) (fun hc303 => ?_)
    refine o_iconst (pc := 306) B (1 : Int32) at_306 (by decide) ?_
    refine o_goto (pc := 307) (pc' := 311) B at_307 (by decide) (by decide) ?_
    exact o_zreturn (pc := 311) B at_311 (by decide) (by decide) (rfl)
  refine o_istore_12_9 (pc := 264) B at_264 rfl ?_
  refine o_iload (pc := 266) B at_266 rfl ?_
  refine o_sipush (pc := 268) B (8191 : Int32) at_268 (by decide) ?_
  refine o_icmp_eq (pc := 271) (pc' := 279) B at_271 (by decide) (by decide) (fun hc271 => ?_) (fun hc271 => ?_)
  · have q : F % 8192 = 8191 := (own_inj (b := 8191) (by omega) (by decide)).mp hc271
    refine o_ldc2_w (pc := 279) B (x := (48 : Int64)) at_279 (hw _ (List.mem_of_getElem? (i := 71) rfl)) ?_
    refine o_goto (pc := 282) (pc' := 288) B at_282 (by decide) (by decide) ?_
    refine o_lstore_12_10 (pc := 288) B at_288 rfl ?_
    refine fin _ ?_
    rw [hL, if_pos (Or.inl (by have := p1.mpr q; omega))]; rfl
  have q1 : F % 8192 ≠ 8191 := fun q => hc271 (by rw [q]; rfl)
  refine o_iload (pc := 274) B at_274 rfl ?_
  refine o_if_ne (pc := 276) (pc' := 285) B at_276 (by decide) (by decide) (fun hc276 => ?_) (fun hc276 => ?_)
  · have q2 : F % 8192 ≠ 0 := fun q => hc276 (by rw [q]; rfl)
    refine o_ldc2_w (pc := 285) B (x := (32 : Int64)) at_285 (hw _ (List.mem_of_getElem? (i := 78) rfl)) ?_
    refine o_lstore_12_10 (pc := 288) B at_288 rfl ?_
    refine fin _ ?_
    have n1 : ¬ own_pc F = 13 := fun z => q1 (p1.mp z)
    have n2 : ¬ own_pc F = 0 := fun z => q2 (p2.mp z)
    rw [hL, if_neg (by omega)]; rfl
  have q2 : F % 8192 = 0 := (own_inj (b := 0) (by omega) (by decide)).mp hc276
  refine o_ldc2_w (pc := 279) B (x := (48 : Int64)) at_279 (hw _ (List.mem_of_getElem? (i := 71) rfl)) ?_
  refine o_goto (pc := 282) (pc' := 288) B at_282 (by decide) (by decide) ?_
  refine o_lstore_12_10 (pc := 288) B at_288 rfl ?_
  refine fin _ ?_
  rw [hL, if_pos (Or.inr (by have := p2.mpr q2; omega))]; rfl
set_option maxRecDepth 65536 in
set_option maxHeartbeats 40000000 in
theorem comes_1 {Post : Tables → Env → Array Value → State → Outcome → State → Prop} (hpost : ∀ tb e args s v u, (limb_1_1.after args s (.returned v) u = true ∧ limb_1_2.after args s (.returned v) u = true ∧ True) → FrameEnd s (.returned v) u (Jvm.fieldLocs frame_1_writes args s ++ Jvm.arrayLocs frame_1_arrays args s ++ Jvm.staticLocs frame_1_statics s) 24 256 → Post tb e args s (.returned v) u) :
    ArmFor flags0 classFile x code maxLocals ret World_1 tables_1 room_1 Calls_1 rest_1 Pre_1 Post := by
  intro l hfl _ _ p e ha hc hk s m args below hf hA hF happ hP
  obtain ⟨hcalls, hrest, hpre⟩ := hP
  obtain ⟨-, -, -, hnamed, -, -, -, hat⟩ := (Spec.applies_iff hf).mp happ
  obtain ⟨hg, hn⟩ := and_e (Cond.before_iff.mp (show (Jvm.Cond.and given_1 narrow_1).before args s = true from hpre))
  obtain ⟨hcnt, g0⟩ := and_e hg
  obtain ⟨q0, g1⟩ := and_e g0
  obtain ⟨q1, g2⟩ := and_e g1
  obtain ⟨w0, w1, w2, rfl⟩ : ∃ w0 w1 w2 : Value, args = #[w0, w1, w2] := by
    have hs : args.size = 3 := by simpa [Cond.value, given_1] using hcnt
    obtain ⟨L⟩ := args
    match L, hs with
    | [w0, w1, w2], _ => exact ⟨w0, w1, w2, rfl⟩
  have hw := fun d (hd : d ∈ tables_1) => atoms_spec (ws := Jvm.Cond.code x code maxLocals ret :: tables_1) hat d (List.mem_cons_of_mem _ hd)
  obtain ⟨i0, e0⟩ := isL_v q0
  obtain rfl : w0 = (.long i0) := Option.some.inj e0
  obtain ⟨i1, e1⟩ := isL_v q1
  obtain rfl : w1 = (.long i1) := Option.some.inj e1
  obtain ⟨i2, e2⟩ := is_v g2
  obtain rfl : w2 = (.int i2) := Option.some.inj e2
  obtain ⟨n, o, h1, h2, h3, _, L, rfl, ⟨rfl, N⟩, hq⟩ := (oc0 l s _ hw s.heap.size s.heap i0 i1 i2 (Nat.le_refl _)) tables_1 p e ha hc hk s m _ below hf ((Spec.applies_iff_loose hf).mp happ).1 ⟨rfl, State.Warmed39.refl s, rfl⟩ trivial
  refine ⟨n, _, h1, h2, h3, hpost _ _ _ _ _ _ ⟨Cond.after_iff.mpr rfl, Cond.after_iff.mpr (eq_i res_at (Term.int_eval (1)) rfl), trivial⟩ ⟨hq.1, hq.2.1, (hq.2.2.sift fun y hy => Or.inr (N y hy)).mono (by decide) (by decide)⟩⟩
theorem main_1_1 : Claimed_1_1 := comes_1 fun _ _ _ _ _ _ h hF => ⟨h.1, hF⟩
theorem main_1_2 : Claimed_1_2 := comes_1 fun _ _ _ _ _ _ h hF => ⟨h.2.1, hF⟩
end Jvm.Pilot.@@N@@
namespace Jvm.Pilot.@@N@@
open Jvm Jvm.ClassFile Sem Op Lib Jvm.Free Jvm.Stand Jvm.Pilot.@@N@@.Jvm.D
/-! MADE BY PROGRAM (witnessworld.py) out of the Statement's table words and the real class files: 20 classes; the members and pool entries that the words name. The judged class is class 1, her method 2. -/
namespace start1
open Jvm.ClassFile
def u (s : String) : CpInfo := .utf8 (stringToUtf16 s)
/-- a pool by its gaps: so many unusable entries, then the entry; so many at the end -/
def gap : Nat → List CpInfo → List CpInfo
  | 0, r => r
  | n + 1, r => .unusable :: gap n r
def poolList (es : List (Nat × CpInfo)) (last : Nat) : List CpInfo := es.foldr (fun e r => gap e.1 (e.2 :: r)) (gap last [])
def pool (es : List (Nat × CpInfo)) (last : Nat) : Array CpInfo := ⟨poolList es last⟩
def fileOf (pool : Array CpInfo) (this : Nat) (attrs : Array Attribute := #[]) (ms : Array MethodInfo := #[]) (fl : Nat := 33) (sup : Nat := 0) (ifs : Array Nat := #[]) (fds : Array FieldInfo := #[]) : ClassFile where
  minorVersion := 0
  majorVersion := 65
  constantPool := pool
  accessFlags := fl
  thisClass := this
  superClass := sup
  interfaces := ifs
  fields := fds
  methods := ms
  attributes := attrs
def plain (name : String) (sup : Option ClassId) : Class where
  name := name
  kind := .ordinary
  loader := none
  accessFlags := 33
  super := sup
  interfaces := #[]
  cf := none
  fields := #[]
  methods := #[]
  instanceTypes := #[]
  staticTypes := #[]
  resolved := #[]
  callSites := []
  init := .initialized
  statics := none
  mirror := none

def pool0 : Array CpInfo := pool [(5, u "<init>"), (0, u "()V"), (1, .class_ 10), (1, u "java/lang/Object")] 113

def k0c0 : Code := { maxStack := 0, maxLocals := 1, code := object_method_1_code, exceptionTable := #[], attributes := #[] }
def k0m0 : Method := { name := "<init>", desc := "()V", sig := { parameters := [], returnType := none }, accessFlags := 1, code := some k0c0 }
/-- java/lang/Object -/
def k0 : Class := { plain "java/lang/Object" none with
  accessFlags := 33
  interfaces := #[]
  cf := some (fileOf pool0 8 #[] #[{ accessFlags := 1, nameIndex := 5, descriptorIndex := 6, attributes := #[] }] 33 0 #[] #[])
  fields := #[]
  methods := #[k0m0]
  instanceTypes := #[]
  staticTypes := #[]
  resolved := Array.replicate 124 none
  statics := none }

def pool1 : Array CpInfo := pool [(2, .class_ 4), (1, u "java/lang/Object"), (0, u "<init>"), (0, u "()V"), (2, .long 9223372036854775808), (1, .long 9223372036854775792), (1, .class_ 14), (0, u "com/example/one_verdict/oneverdict/check/FingerprintSet"), (0, .methodref 13 16), (0, .nameAndType 5 17), (0, u "(J)V"), (0, .methodref 19 20), (0, .class_ 21), (0, .nameAndType 22 23), (0, u "com/example/one_verdict/oneverdict/check/FingerprintSetSlotsPinLaw"), (0, u "fp"), (0, u "(JII)J"), (0, .methodref 13 25), (0, .nameAndType 26 27), (0, u "add"), (0, u "(J)Z"), (0, .long 48), (1, .long 32), (1, .methodref 13 33), (0, .nameAndType 34 35), (0, u "slots"), (0, u "()J"), (3, u "law"), (0, u "(JJI)Z")] 2

def k1m0 : Method := { name := "<init>", desc := "()V", sig := { parameters := [], returnType := none }, accessFlags := 2, code := none }
def k1c1 : Code := { maxStack := 4, maxLocals := 6, code := method_2_code, exceptionTable := #[], attributes := #[] }
def k1m1 : Method := { name := "fp", desc := "(JII)J", sig := { parameters := [.long, .int, .int], returnType := some .long }, accessFlags := 10, code := some k1c1 }
def k1c2 : Code := { maxStack := 6, maxLocals := 12, code := code, exceptionTable := #[], attributes := #[] }
def k1m2 : Method := { name := "law", desc := "(JJI)Z", sig := { parameters := [.long, .long, .int], returnType := some .boolean }, accessFlags := 9, code := some k1c2 }
/-- com/example/one_verdict/oneverdict/check/FingerprintSetSlotsPinLaw -/
def k1 : Class := { plain "com/example/one_verdict/oneverdict/check/FingerprintSetSlotsPinLaw" (some 0) with
  accessFlags := 49
  interfaces := #[]
  cf := some (fileOf pool1 19 #[] #[{ accessFlags := 2, nameIndex := 5, descriptorIndex := 6, attributes := #[] }, { accessFlags := 10, nameIndex := 22, descriptorIndex := 23, attributes := #[] }, { accessFlags := 9, nameIndex := 39, descriptorIndex := 40, attributes := #[] }] 49 2 #[] #[])
  fields := #[]
  methods := #[k1m0, k1m1, k1m2]
  instanceTypes := #[]
  staticTypes := #[]
  resolved := Array.replicate 43 none
  statics := none }

def pool2 : Array CpInfo := pool [(1, .class_ 2), (0, u "java/lang/AutoCloseable"), (0, .class_ 4), (0, u "java/lang/Object")] 7

/-- java/lang/AutoCloseable -/
def k2 : Class := { plain "java/lang/AutoCloseable" (some 0) with
  accessFlags := 1537
  interfaces := #[]
  cf := some (fileOf pool2 1 #[] #[] 1537 3 #[] #[])
  fields := #[]
  methods := #[]
  instanceTypes := #[]
  staticTypes := #[]
  resolved := Array.replicate 12 none
  statics := none }

def pool3 : Array CpInfo := pool [(1, .class_ 2), (0, u "java/io/Closeable"), (0, .class_ 4), (0, u "java/lang/Object"), (0, .class_ 6), (0, u "java/lang/AutoCloseable")] 7

/-- java/io/Closeable -/
def k3 : Class := { plain "java/io/Closeable" (some 0) with
  accessFlags := 1537
  interfaces := #[2]
  cf := some (fileOf pool3 1 #[] #[] 1537 3 #[5] #[])
  fields := #[]
  methods := #[]
  instanceTypes := #[]
  staticTypes := #[]
  resolved := Array.replicate 14 none
  statics := none }

def pool4 : Array CpInfo := pool [(1, .methodref 2 3), (0, .class_ 4), (0, .nameAndType 5 6), (0, u "java/lang/Object"), (0, u "<init>"), (0, u "()V"), (0, .fieldref 8 9), (0, .class_ 10), (0, .nameAndType 11 12), (0, u "com/example/one_verdict/oneverdict/check/FingerprintSet"), (0, u "segmentBits"), (0, u "I"), (0, .class_ 14), (0, u "[J"), (0, .fieldref 8 16), (0, .nameAndType 17 18), (0, u "tables"), (0, u "[[J"), (0, .fieldref 8 20), (0, .nameAndType 21 22), (0, u "counts"), (0, u "[I"), (0, .fieldref 8 24), (0, .nameAndType 25 14), (0, u "blockStarts"), (0, .long 2), (1, .class_ 29), (0, u "java/lang/Long"), (0, .long 262144), (1, .methodref 33 34), (0, .class_ 35), (0, .nameAndType 36 37), (0, u "java/lang/Math"), (0, u "max"), (0, u "(JJ)J"), (0, .methodref 28 39), (0, .nameAndType 40 41), (0, u "numberOfLeadingZeros"), (0, u "(J)I"), (0, .methodref 33 43), (0, .nameAndType 44 45), (0, u "min"), (0, u "(II)I"), (0, .fieldref 8 47), (0, .nameAndType 48 12), (0, u "mostSegmentBits"), (0, .methodref 8 50), (0, .nameAndType 51 52), (0, u "key"), (0, u "(J)J"), (0, .methodref 8 54), (0, .nameAndType 55 56), (0, u "segmentOf"), (0, u "(JI)I"), (0, .methodref 8 58), (0, .nameAndType 59 60), (0, u "slot"), (0, u "([JJ)I"), (2, u "inFile"), (0, u "J"), (0, .methodref 8 66), (0, .nameAndType 67 68), (0, u "isCrowded"), (0, u "(II)Z"), (0, .integer 32768), (0, .methodref 8 71), (0, .nameAndType 72 73), (0, u "grown"), (0, u "([J)[J"), (11, .class_ 87), (1, u "com/example/one_verdict/oneverdict/check/FingerprintSet$FileLookup"), (1, u "(J)Z"), (11, u "file"), (0, u "Lcom/example/one_verdict/oneverdict/check/ScratchFile;"), (5, .long 9223372036854775809), (1, .long 4), (1, .long 3), (1, .long 9223372036854775808), (9, .class_ 125), (0, u "com/example/one_verdict/oneverdict/check/FingerprintSet$SortedKeys"), (3, .class_ 130), (0, u "com/example/one_verdict/oneverdict/check/FingerprintSet$KeysInFile"), (12, u "()J"), (6, u "(J)V"), (22, .class_ 174), (0, u "java/io/Closeable"), (0, u "ZERO"), (1, u "FEWEST_SLOTS"), (1, u "MOST_SLOTS"), (0, u "MOST_SEGMENT_BITS"), (1, u "BLOCK"), (6, u "slots"), (1, u "add")] 14

def k4c0 : Code := { maxStack := 6, maxLocals := 5, code := prog_6_method_1_code, exceptionTable := #[], attributes := #[] }
def k4m0 : Method := { name := "<init>", desc := "(J)V", sig := { parameters := [.long], returnType := none }, accessFlags := 0, code := some k4c0 }
def k4c1 : Code := { maxStack := 4, maxLocals := 7, code := prog_6_method_4_code, exceptionTable := #[], attributes := #[] }
def k4m1 : Method := { name := "slots", desc := "()J", sig := { parameters := [], returnType := some .long }, accessFlags := 0, code := some k4c1 }
def k4c2 : Code := { maxStack := 4, maxLocals := 8, code := prog_6_method_5_code, exceptionTable := #[], attributes := #[] }
def k4m2 : Method := { name := "add", desc := "(J)Z", sig := { parameters := [.long], returnType := some .boolean }, accessFlags := 0, code := some k4c2 }
def k4c3 : Code := { maxStack := 4, maxLocals := 2, code := prog_6_method_9_code, exceptionTable := #[], attributes := #[] }
def k4m3 : Method := { name := "key", desc := "(J)J", sig := { parameters := [.long], returnType := some .long }, accessFlags := 8, code := some k4c3 }
def k4c4 : Code := { maxStack := 4, maxLocals := 5, code := prog_6_method_10_code, exceptionTable := #[], attributes := #[] }
def k4m4 : Method := { name := "slot", desc := "([JJ)I", sig := { parameters := [(.array .long), .long], returnType := some .int }, accessFlags := 8, code := some k4c4 }
def k4c5 : Code := { maxStack := 6, maxLocals := 2, code := prog_6_method_11_code, exceptionTable := #[], attributes := #[] }
def k4m5 : Method := { name := "isCrowded", desc := "(II)Z", sig := { parameters := [.int, .int], returnType := some .boolean }, accessFlags := 8, code := some k4c5 }
def k4c6 : Code := { maxStack := 4, maxLocals := 3, code := prog_6_method_13_code, exceptionTable := #[], attributes := #[] }
def k4m6 : Method := { name := "segmentOf", desc := "(JI)I", sig := { parameters := [.long, .int], returnType := some .int }, accessFlags := 8, code := some k4c6 }
def k4c7 : Code := { maxStack := 4, maxLocals := 7, code := prog_6_method_14_code, exceptionTable := #[], attributes := #[] }
def k4m7 : Method := { name := "grown", desc := "([J)[J", sig := { parameters := [(.array .long)], returnType := some (.array .long) }, accessFlags := 10, code := some k4c7 }
/-- com/example/one_verdict/oneverdict/check/FingerprintSet -/
def k4 : Class := { plain "com/example/one_verdict/oneverdict/check/FingerprintSet" (some 0) with
  accessFlags := 32
  interfaces := #[3]
  cf := some (fileOf pool4 8 #[.nestMembers #[124, 129, 85]] #[{ accessFlags := 0, nameIndex := 5, descriptorIndex := 150, attributes := #[] }, { accessFlags := 0, nameIndex := 189, descriptorIndex := 143, attributes := #[] }, { accessFlags := 0, nameIndex := 191, descriptorIndex := 89, attributes := #[] }, { accessFlags := 8, nameIndex := 51, descriptorIndex := 52, attributes := #[] }, { accessFlags := 8, nameIndex := 59, descriptorIndex := 60, attributes := #[] }, { accessFlags := 8, nameIndex := 67, descriptorIndex := 68, attributes := #[] }, { accessFlags := 8, nameIndex := 55, descriptorIndex := 56, attributes := #[] }, { accessFlags := 10, nameIndex := 72, descriptorIndex := 73, attributes := #[] }] 32 2 #[173] #[{ accessFlags := 26, nameIndex := 175, descriptorIndex := 64, attributes := #[] }, { accessFlags := 24, nameIndex := 177, descriptorIndex := 12, attributes := #[] }, { accessFlags := 24, nameIndex := 179, descriptorIndex := 12, attributes := #[] }, { accessFlags := 26, nameIndex := 180, descriptorIndex := 12, attributes := #[] }, { accessFlags := 26, nameIndex := 182, descriptorIndex := 12, attributes := #[] }, { accessFlags := 18, nameIndex := 48, descriptorIndex := 12, attributes := #[] }, { accessFlags := 2, nameIndex := 11, descriptorIndex := 12, attributes := #[] }, { accessFlags := 2, nameIndex := 17, descriptorIndex := 18, attributes := #[] }, { accessFlags := 2, nameIndex := 21, descriptorIndex := 22, attributes := #[] }, { accessFlags := 2, nameIndex := 101, descriptorIndex := 102, attributes := #[] }, { accessFlags := 2, nameIndex := 63, descriptorIndex := 64, attributes := #[] }, { accessFlags := 2, nameIndex := 25, descriptorIndex := 14, attributes := #[] }])
  fields := #[{ name := "ZERO", type := .long, accessFlags := 26, slot := 0, constantValue := 0 }, { name := "FEWEST_SLOTS", type := .int, accessFlags := 24, slot := 1, constantValue := 0 }, { name := "MOST_SLOTS", type := .int, accessFlags := 24, slot := 2, constantValue := 0 }, { name := "MOST_SEGMENT_BITS", type := .int, accessFlags := 26, slot := 3, constantValue := 0 }, { name := "BLOCK", type := .int, accessFlags := 26, slot := 4, constantValue := 0 }, { name := "mostSegmentBits", type := .int, accessFlags := 18, slot := 0, constantValue := 0 }, { name := "segmentBits", type := .int, accessFlags := 2, slot := 1, constantValue := 0 }, { name := "tables", type := (.array (.array .long)), accessFlags := 2, slot := 2, constantValue := 0 }, { name := "counts", type := (.array .int), accessFlags := 2, slot := 3, constantValue := 0 }, { name := "file", type := (.object "com/example/one_verdict/oneverdict/check/ScratchFile"), accessFlags := 2, slot := 4, constantValue := 0 }, { name := "inFile", type := .long, accessFlags := 2, slot := 5, constantValue := 0 }, { name := "blockStarts", type := (.array .long), accessFlags := 2, slot := 6, constantValue := 0 }]
  methods := #[k4m0, k4m1, k4m2, k4m3, k4m4, k4m5, k4m6, k4m7]
  instanceTypes := #[.int, .int, (.array (.array .long)), (.array .int), (.object "com/example/one_verdict/oneverdict/check/ScratchFile"), .long, (.array .long)]
  staticTypes := #[.long, .int, .int, .int, .int]
  resolved := Array.replicate 206 none
  statics := none }

def pool5 : Array CpInfo := pool [(1, .class_ 2), (0, u "java/lang/Math"), (1, .class_ 6), (1, u "java/lang/Object"), (0, u "<init>"), (0, u "()V"), (89, .class_ 100), (1, u "java/lang/Math$RandomNumberGeneratorHolder"), (20, u "(JJ)J"), (50, u "negativeZeroFloatBits"), (0, u "J"), (2, u "negativeZeroDoubleBits"), (21, u "max"), (2, u "min"), (43, u "$assertionsDisabled"), (0, u "Z"), (88, u "(II)I"), (2, u "twoToTheDoubleScaleDown"), (0, u "D"), (4, u "twoToTheDoubleScaleUp"), (9, u "E"), (3, u "PI"), (2, u "TAU"), (2, u "DEGREES_TO_RADIANS"), (0, u "RADIANS_TO_DEGREES")] 94

def k5m0 : Method := { name := "<init>", desc := "()V", sig := { parameters := [], returnType := none }, accessFlags := 2, code := none }
def k5c1 : Code := { maxStack := 4, maxLocals := 4, code := jdk_29_method_66_code, exceptionTable := #[], attributes := #[] }
def k5m1 : Method := { name := "max", desc := "(JJ)J", sig := { parameters := [.long, .long], returnType := some .long }, accessFlags := 9, code := some k5c1 }
def k5c2 : Code := { maxStack := 2, maxLocals := 2, code := jdk_29_method_69_code, exceptionTable := #[], attributes := #[] }
def k5m2 : Method := { name := "min", desc := "(II)I", sig := { parameters := [.int, .int], returnType := some .int }, accessFlags := 9, code := some k5c2 }
/-- java/lang/Math -/
def k5 : Class := { plain "java/lang/Math" (some 0) with
  accessFlags := 49
  interfaces := #[]
  cf := some (fileOf pool5 1 #[.nestMembers #[98]] #[{ accessFlags := 2, nameIndex := 7, descriptorIndex := 8, attributes := #[] }, { accessFlags := 9, nameIndex := 198, descriptorIndex := 121, attributes := #[] }, { accessFlags := 9, nameIndex := 201, descriptorIndex := 335, attributes := #[] }] 49 4 #[] #[{ accessFlags := 25, nameIndex := 354, descriptorIndex := 339, attributes := #[] }, { accessFlags := 25, nameIndex := 358, descriptorIndex := 339, attributes := #[] }, { accessFlags := 25, nameIndex := 361, descriptorIndex := 339, attributes := #[] }, { accessFlags := 26, nameIndex := 364, descriptorIndex := 339, attributes := #[] }, { accessFlags := 26, nameIndex := 365, descriptorIndex := 339, attributes := #[] }, { accessFlags := 26, nameIndex := 172, descriptorIndex := 173, attributes := #[] }, { accessFlags := 26, nameIndex := 176, descriptorIndex := 173, attributes := #[] }, { accessFlags := 8, nameIndex := 344, descriptorIndex := 339, attributes := #[] }, { accessFlags := 8, nameIndex := 338, descriptorIndex := 339, attributes := #[] }, { accessFlags := 4120, nameIndex := 245, descriptorIndex := 246, attributes := #[] }])
  fields := #[{ name := "E", type := .double, accessFlags := 25, slot := 0, constantValue := 0 }, { name := "PI", type := .double, accessFlags := 25, slot := 1, constantValue := 0 }, { name := "TAU", type := .double, accessFlags := 25, slot := 2, constantValue := 0 }, { name := "DEGREES_TO_RADIANS", type := .double, accessFlags := 26, slot := 3, constantValue := 0 }, { name := "RADIANS_TO_DEGREES", type := .double, accessFlags := 26, slot := 4, constantValue := 0 }, { name := "negativeZeroFloatBits", type := .long, accessFlags := 26, slot := 5, constantValue := 0 }, { name := "negativeZeroDoubleBits", type := .long, accessFlags := 26, slot := 6, constantValue := 0 }, { name := "twoToTheDoubleScaleUp", type := .double, accessFlags := 8, slot := 7, constantValue := 0 }, { name := "twoToTheDoubleScaleDown", type := .double, accessFlags := 8, slot := 8, constantValue := 0 }, { name := "$assertionsDisabled", type := .boolean, accessFlags := 4120, slot := 9, constantValue := 0 }]
  methods := #[k5m0, k5m1, k5m2]
  instanceTypes := #[]
  staticTypes := #[.double, .double, .double, .double, .double, .long, .long, .double, .double, .boolean]
  resolved := Array.replicate 460 none
  statics := none }

def pool6 : Array CpInfo := pool [(1, .class_ 2), (0, u "java/io/Serializable"), (0, .class_ 4), (0, u "java/lang/Object")] 2

/-- java/io/Serializable -/
def k6 : Class := { plain "java/io/Serializable" (some 0) with
  accessFlags := 1537
  interfaces := #[]
  cf := some (fileOf pool6 1 #[] #[] 1537 3 #[] #[])
  fields := #[]
  methods := #[]
  instanceTypes := #[]
  staticTypes := #[]
  resolved := Array.replicate 7 none
  statics := none }

def pool7 : Array CpInfo := pool [(2, .class_ 4), (1, u "java/lang/Object"), (0, u "<init>"), (0, u "()V"), (1, .class_ 10), (1, u "java/lang/Number"), (2, .class_ 14), (0, u "java/io/Serializable"), (0, u "serialVersionUID"), (0, u "J")] 20

def k7m0 : Method := { name := "<init>", desc := "()V", sig := { parameters := [], returnType := none }, accessFlags := 1, code := none }
/-- java/lang/Number -/
def k7 : Class := { plain "java/lang/Number" (some 0) with
  accessFlags := 1057
  interfaces := #[6]
  cf := some (fileOf pool7 8 #[] #[{ accessFlags := 1, nameIndex := 5, descriptorIndex := 6, attributes := #[] }] 1057 2 #[13] #[{ accessFlags := 26, nameIndex := 15, descriptorIndex := 16, attributes := #[] }])
  fields := #[{ name := "serialVersionUID", type := .long, accessFlags := 26, slot := 0, constantValue := 0 }]
  methods := #[k7m0]
  instanceTypes := #[]
  staticTypes := #[.long]
  resolved := Array.replicate 37 none
  statics := none }

def pool8 : Array CpInfo := pool [(1, .class_ 2), (0, u "java/lang/Comparable"), (0, .class_ 4), (0, u "java/lang/Object")] 7

/-- java/lang/Comparable -/
def k8 : Class := { plain "java/lang/Comparable" (some 0) with
  accessFlags := 1537
  interfaces := #[]
  cf := some (fileOf pool8 1 #[] #[] 1537 3 #[] #[])
  fields := #[]
  methods := #[]
  instanceTypes := #[]
  staticTypes := #[]
  resolved := Array.replicate 12 none
  statics := none }

def pool9 : Array CpInfo := pool [(1, .class_ 2), (0, u "java/lang/constant/Constable"), (0, .class_ 4), (0, u "java/lang/Object")] 6

/-- java/lang/constant/Constable -/
def k9 : Class := { plain "java/lang/constant/Constable" (some 0) with
  accessFlags := 1537
  interfaces := #[]
  cf := some (fileOf pool9 1 #[] #[] 1537 3 #[] #[])
  fields := #[]
  methods := #[]
  instanceTypes := #[]
  staticTypes := #[]
  resolved := Array.replicate 11 none
  statics := none }

def pool10 : Array CpInfo := pool [(1, .class_ 2), (0, u "java/lang/constant/ConstantDesc"), (0, .class_ 4), (0, u "java/lang/Object")] 32

/-- java/lang/constant/ConstantDesc -/
def k10 : Class := { plain "java/lang/constant/ConstantDesc" (some 0) with
  accessFlags := 1537
  interfaces := #[]
  cf := some (fileOf pool10 1 #[] #[] 1537 3 #[] #[])
  fields := #[]
  methods := #[]
  instanceTypes := #[]
  staticTypes := #[]
  resolved := Array.replicate 37 none
  statics := none }

def pool11 : Array CpInfo := pool [(1, .class_ 2), (0, u "java/lang/Long"), (15, .class_ 20), (1, u "java/lang/Integer"), (79, u "numberOfLeadingZeros"), (0, u "(J)I"), (133, .class_ 237), (1, u "java/lang/Long$LongCache"), (33, .class_ 272), (0, u "java/lang/Number"), (2, u "value"), (0, u "J"), (31, .methodref 18 309), (0, .nameAndType 100 310), (0, u "(I)I"), (50, u "TYPE"), (0, u "Ljava/lang/Class;"), (0, .class_ 364), (0, u "java/lang/Comparable"), (0, .class_ 366), (0, u "java/lang/constant/Constable"), (0, .class_ 368), (0, u "java/lang/constant/ConstantDesc"), (0, u "MIN_VALUE"), (1, u "MAX_VALUE"), (4, u "SIZE"), (0, u "I"), (1, u "BYTES"), (1, u "serialVersionUID")] 142

def k11c0 : Code := { maxStack := 3, maxLocals := 3, code := jdk_35_method_48_code, exceptionTable := #[], attributes := #[] }
def k11m0 : Method := { name := "numberOfLeadingZeros", desc := "(J)I", sig := { parameters := [.long], returnType := some .int }, accessFlags := 9, code := some k11c0 }
/-- java/lang/Long -/
def k11 : Class := { plain "java/lang/Long" (some 7) with
  accessFlags := 49
  interfaces := #[8, 9, 10]
  cf := some (fileOf pool11 1 #[.nestMembers #[235]] #[{ accessFlags := 9, nameIndex := 100, descriptorIndex := 101, attributes := #[] }] 49 271 #[363, 365, 367] #[{ accessFlags := 25, nameIndex := 369, descriptorIndex := 276, attributes := #[] }, { accessFlags := 25, nameIndex := 371, descriptorIndex := 276, attributes := #[] }, { accessFlags := 25, nameIndex := 361, descriptorIndex := 362, attributes := #[] }, { accessFlags := 18, nameIndex := 275, descriptorIndex := 276, attributes := #[] }, { accessFlags := 25, nameIndex := 376, descriptorIndex := 377, attributes := #[] }, { accessFlags := 25, nameIndex := 379, descriptorIndex := 377, attributes := #[] }, { accessFlags := 26, nameIndex := 381, descriptorIndex := 276, attributes := #[] }])
  fields := #[{ name := "MIN_VALUE", type := .long, accessFlags := 25, slot := 0, constantValue := 0 }, { name := "MAX_VALUE", type := .long, accessFlags := 25, slot := 1, constantValue := 0 }, { name := "TYPE", type := (.object "java/lang/Class"), accessFlags := 25, slot := 2, constantValue := 0 }, { name := "value", type := .long, accessFlags := 18, slot := 0, constantValue := 0 }, { name := "SIZE", type := .int, accessFlags := 25, slot := 3, constantValue := 0 }, { name := "BYTES", type := .int, accessFlags := 25, slot := 4, constantValue := 0 }, { name := "serialVersionUID", type := .long, accessFlags := 26, slot := 5, constantValue := 0 }]
  methods := #[k11m0]
  instanceTypes := #[.long]
  staticTypes := #[.long, .long, (.object "java/lang/Class"), .int, .int, .long]
  resolved := Array.replicate 524 none
  statics := none }

def pool12 : Array CpInfo := pool [(1, .class_ 2), (0, u "java/lang/Integer"), (16, u "digits"), (0, u "[C"), (32, u "numberOfLeadingZeros"), (0, u "(I)I"), (30, u "DigitOnes"), (0, u "[B"), (2, u "DigitTens"), (99, .class_ 190), (0, u "java/lang/Integer$IntegerCache"), (3, u "I"), (8, .class_ 204), (0, u "java/lang/Number"), (2, u "value"), (56, .integer 65536), (37, u "TYPE"), (0, u "Ljava/lang/Class;"), (0, .class_ 305), (0, u "java/lang/Comparable"), (0, .class_ 307), (0, u "java/lang/constant/Constable"), (0, .class_ 309), (0, u "java/lang/constant/ConstantDesc"), (0, u "MIN_VALUE"), (1, u "MAX_VALUE"), (3, u "SIZE"), (1, u "BYTES"), (1, u "serialVersionUID"), (0, u "J")] 131

def k12c0 : Code := { maxStack := 3, maxLocals := 2, code := jdk_33_method_47_code, exceptionTable := #[], attributes := #[] }
def k12m0 : Method := { name := "numberOfLeadingZeros", desc := "(I)I", sig := { parameters := [.int], returnType := some .int }, accessFlags := 9, code := some k12c0 }
/-- java/lang/Integer -/
def k12 : Class := { plain "java/lang/Integer" (some 7) with
  accessFlags := 49
  interfaces := #[8, 9, 10]
  cf := some (fileOf pool12 1 #[.nestMembers #[189]] #[{ accessFlags := 9, nameIndex := 53, descriptorIndex := 54, attributes := #[] }] 49 203 #[304, 306, 308] #[{ accessFlags := 25, nameIndex := 310, descriptorIndex := 194, attributes := #[] }, { accessFlags := 25, nameIndex := 312, descriptorIndex := 194, attributes := #[] }, { accessFlags := 25, nameIndex := 302, descriptorIndex := 303, attributes := #[] }, { accessFlags := 24, nameIndex := 19, descriptorIndex := 20, attributes := #[] }, { accessFlags := 24, nameIndex := 89, descriptorIndex := 86, attributes := #[] }, { accessFlags := 24, nameIndex := 85, descriptorIndex := 86, attributes := #[] }, { accessFlags := 18, nameIndex := 207, descriptorIndex := 194, attributes := #[] }, { accessFlags := 25, nameIndex := 316, descriptorIndex := 194, attributes := #[] }, { accessFlags := 25, nameIndex := 318, descriptorIndex := 194, attributes := #[] }, { accessFlags := 26, nameIndex := 320, descriptorIndex := 321, attributes := #[] }])
  fields := #[{ name := "MIN_VALUE", type := .int, accessFlags := 25, slot := 0, constantValue := 0 }, { name := "MAX_VALUE", type := .int, accessFlags := 25, slot := 1, constantValue := 0 }, { name := "TYPE", type := (.object "java/lang/Class"), accessFlags := 25, slot := 2, constantValue := 0 }, { name := "digits", type := (.array .char), accessFlags := 24, slot := 3, constantValue := 0 }, { name := "DigitTens", type := (.array .byte), accessFlags := 24, slot := 4, constantValue := 0 }, { name := "DigitOnes", type := (.array .byte), accessFlags := 24, slot := 5, constantValue := 0 }, { name := "value", type := .int, accessFlags := 18, slot := 0, constantValue := 0 }, { name := "SIZE", type := .int, accessFlags := 25, slot := 6, constantValue := 0 }, { name := "BYTES", type := .int, accessFlags := 25, slot := 7, constantValue := 0 }, { name := "serialVersionUID", type := .long, accessFlags := 26, slot := 8, constantValue := 0 }]
  methods := #[k12m0]
  instanceTypes := #[.int]
  staticTypes := #[.int, .int, (.object "java/lang/Class"), (.array .char), (.array .byte), (.array .byte), .int, .int, .long]
  resolved := Array.replicate 453 none
  statics := none }

def pool13 : Array CpInfo := pool [(1, u "java/lang/Cloneable"), (0, .class_ 1), (0, u "java/lang/Object"), (0, .class_ 3)] 3

/-- java/lang/Cloneable -/
def k13 : Class := { plain "java/lang/Cloneable" (some 0) with
  accessFlags := 1537
  interfaces := #[]
  cf := some (fileOf pool13 2 #[] #[] 1537 4 #[] #[])
  fields := #[]
  methods := #[]
  instanceTypes := #[]
  staticTypes := #[]
  resolved := Array.replicate 8 none
  statics := none }

/-- the primitive byte -/
def k14 : Class := { plain "byte" none with kind := .primitive 'B', accessFlags := 0x411 }
/-- [B -/
def k15 : Class := { plain "[B" (some 0) with kind := .array 14 .byte, interfaces := #[13, 6], accessFlags := 1041 }

/-- the primitive int -/
def k16 : Class := { plain "int" none with kind := .primitive 'I', accessFlags := 0x411 }
/-- [I -/
def k17 : Class := { plain "[I" (some 0) with kind := .array 16 .int, interfaces := #[13, 6], accessFlags := 1041 }

/-- the primitive long -/
def k18 : Class := { plain "long" none with kind := .primitive 'J', accessFlags := 0x411 }
/-- [J -/
def k19 : Class := { plain "[J" (some 0) with kind := .array 18 .long, interfaces := #[13, 6], accessFlags := 1041 }

def heap : Heap := #[]
def k20 : Class := { plain "[[J" (some 0) with kind := .array 19 (.array .long), interfaces := #[13, 6], accessFlags := 1041 }
def classes : Array Class := #[k0, k1, k2, k3, k4, k5, k6, k7, k8, k9, k10, k11, k12, k13, k14, k15, k16, k17, k18, k19, k20]
def interned : List (Array UInt16 × Addr) := []
def slotsUsed : Nat := 0
def theMethod : MethodId := ⟨1, 2⟩
def args0 : Array Value := #[.long 5, .long 7, .int 3]
def aboutOver (below : List Frame) : State where
  vm := { classes := classes, interned := interned.toArray }
  heap := heap
  slotsUsed := slotsUsed
  threads := #[{ frames := .invoking theMethod args0 :: below }]
def below0 : List Frame := [.native { method := ⟨0, 0⟩, args := #[] }]
def about1 : State := aboutOver below0
def p0 : Program := .bare "" "" ""
def e0 : Env := launch0.env 0 0 0
theorem w_frames : about1.frames = Frame.invoking theMethod args0 :: below0 := rfl
set_option maxRecDepth 65536 in
theorem w_args : argsFit about1.vm theMethod args0 = true := by decide +kernel
set_option maxRecDepth 65536 in
theorem w_heap : heapFits about1 = true := by decide +kernel
set_option maxRecDepth 65536 in
theorem w_runnable : about1.curStatus? = some .runnable := by decide +kernel
set_option maxRecDepth 65536 in
theorem w_alone : about1.alone = true := by decide +kernel
set_option maxRecDepth 65536 in
theorem w_named : about1.methodNamed? x = some theMethod := by decide +kernel
set_option maxRecDepth 65536 in
theorem w_hears : about1.hears theMethod below0 = true := by decide +kernel
set_option maxRecDepth 65536 in
theorem w_ripe : about1.ripe theMethod args0 below0 = true := by decide +kernel
theorem w_running : about1.status = .running := rfl
set_option maxRecDepth 65536 in
theorem w_room : about1.hasRoom e0.platform room_1 = true :=
  launch0.hasRoom_least _ room_1 (by decide +kernel) (by decide +kernel) (by decide +kernel) (by decide +kernel) (by decide +kernel) (by decide +kernel)
theorem allAtoms_all (ts : List Jvm.Cond) (a : Array Jvm.Value) (st : Jvm.State) : (allAtoms ts).before a st = ts.all (fun c => c.before a st) := by
  induction ts with
  | nil => rfl
  | cons c t ih =>
    show (Jvm.Cond.and c (allAtoms t)).before a st = _
    rw [Jvm.Cond.before_and, ih, List.all_cons]
def words1 : List Jvm.Cond := Jvm.Cond.code x code maxLocals ret :: tables_1
/-- a 'code' word, met by the world's own term for the bytes: nothing is compared byte by byte -/
theorem code_word {y : MethodName} {bytes : ByteArray} {mx : Nat} {rt : Option FieldType} {a : Array Value} {s : State} {m : MethodId} {meth : Method} {c : Code} (h1 : s.methodNamed? y = some m) (h2 : s.vm.method? m = some meth) (h3 : meth.code = some c) (h4 : c.code = bytes)
    (h5 : (c.maxLocals == mx && c.exceptionTable.isEmpty && decide (c.maxStack ≤ mostOperands) && decide (meth.sig.returnType = rt) && !meth.locks && decide (parseMethodDescriptor y.desc = some meth.sig)) = true) : (Jvm.Cond.code y bytes mx rt).before a s = true := by
  simp only [Bool.and_eq_true, beq_iff_eq, Bool.not_eq_true', decide_eq_true_eq] at h5
  obtain ⟨⟨⟨⟨⟨g1, g2⟩, g3⟩, g4⟩, g5⟩, g6⟩ := h5
  simp [Cond.before, Cond.holds, Cond.value, h1, h2, h3, h4, g1, g2, g3, g4, g5, g6]
def isCode : Jvm.Cond → Bool
  | .code _ _ _ _ => true
  | _ => false
theorem all_split {L : List Jvm.Cond} {P : Jvm.Cond → Bool} (h1 : L.all (fun c => isCode c || P c) = true) (h2 : ∀ c ∈ L.filter isCode, P c = true) : L.all P = true := by
  refine List.all_eq_true.mpr fun c hc => ?_
  have h := List.all_eq_true.mp h1 c hc
  rcases Bool.eq_false_or_eq_true (isCode c) with hi | hi
  · exact h2 c (List.mem_filter.mpr ⟨hc, hi⟩)
  · simpa [hi] using h
set_option maxRecDepth 65536 in
theorem w_c0 : (Jvm.Cond.code x code maxLocals ret).before args0 about1 = true := code_word (m := ⟨1, 2⟩) (meth := k1m2) (c := k1c2) (by decide +kernel) rfl rfl rfl (by decide +kernel)
set_option maxRecDepth 65536 in
theorem w_c1 : (Jvm.Cond.code ({ cls := "com/example/one_verdict/oneverdict/check/FingerprintSet", name := "<init>", desc := "(J)V" } : Jvm.MethodName) prog_6_method_1_code (5 : Nat) (Option.none : Option Jvm.ClassFile.FieldType)).before args0 about1 = true := code_word (m := ⟨4, 0⟩) (meth := k4m0) (c := k4c0) (by decide +kernel) rfl rfl rfl (by decide +kernel)
set_option maxRecDepth 65536 in
theorem w_c2 : (Jvm.Cond.code ({ cls := "java/lang/Object", name := "<init>", desc := "()V" } : Jvm.MethodName) object_method_1_code (1 : Nat) (Option.none : Option Jvm.ClassFile.FieldType)).before args0 about1 = true := code_word (m := ⟨0, 0⟩) (meth := k0m0) (c := k0c0) (by decide +kernel) rfl rfl rfl (by decide +kernel)
set_option maxRecDepth 65536 in
theorem w_c3 : (Jvm.Cond.code ({ cls := "java/lang/Math", name := "max", desc := "(JJ)J" } : Jvm.MethodName) jdk_29_method_66_code (4 : Nat) (Option.some Jvm.ClassFile.FieldType.long)).before args0 about1 = true := code_word (m := ⟨5, 1⟩) (meth := k5m1) (c := k5c1) (by decide +kernel) rfl rfl rfl (by decide +kernel)
set_option maxRecDepth 65536 in
theorem w_c4 : (Jvm.Cond.code ({ cls := "java/lang/Long", name := "numberOfLeadingZeros", desc := "(J)I" } : Jvm.MethodName) jdk_35_method_48_code (3 : Nat) (Option.some Jvm.ClassFile.FieldType.int)).before args0 about1 = true := code_word (m := ⟨11, 0⟩) (meth := k11m0) (c := k11c0) (by decide +kernel) rfl rfl rfl (by decide +kernel)
set_option maxRecDepth 65536 in
theorem w_c5 : (Jvm.Cond.code ({ cls := "java/lang/Integer", name := "numberOfLeadingZeros", desc := "(I)I" } : Jvm.MethodName) jdk_33_method_47_code (2 : Nat) (Option.some Jvm.ClassFile.FieldType.int)).before args0 about1 = true := code_word (m := ⟨12, 0⟩) (meth := k12m0) (c := k12c0) (by decide +kernel) rfl rfl rfl (by decide +kernel)
set_option maxRecDepth 65536 in
theorem w_c6 : (Jvm.Cond.code ({ cls := "java/lang/Math", name := "min", desc := "(II)I" } : Jvm.MethodName) jdk_29_method_69_code (2 : Nat) (Option.some Jvm.ClassFile.FieldType.int)).before args0 about1 = true := code_word (m := ⟨5, 2⟩) (meth := k5m2) (c := k5c2) (by decide +kernel) rfl rfl rfl (by decide +kernel)
set_option maxRecDepth 65536 in
theorem w_c7 : (Jvm.Cond.code ({ cls := "com/example/one_verdict/oneverdict/check/FingerprintSetSlotsPinLaw", name := "fp", desc := "(JII)J" } : Jvm.MethodName) method_2_code (6 : Nat) (Option.some Jvm.ClassFile.FieldType.long)).before args0 about1 = true := code_word (m := ⟨1, 1⟩) (meth := k1m1) (c := k1c1) (by decide +kernel) rfl rfl rfl (by decide +kernel)
set_option maxRecDepth 65536 in
theorem w_c8 : (Jvm.Cond.code ({ cls := "com/example/one_verdict/oneverdict/check/FingerprintSet", name := "add", desc := "(J)Z" } : Jvm.MethodName) prog_6_method_5_code (8 : Nat) (Option.some Jvm.ClassFile.FieldType.boolean)).before args0 about1 = true := code_word (m := ⟨4, 2⟩) (meth := k4m2) (c := k4c2) (by decide +kernel) rfl rfl rfl (by decide +kernel)
set_option maxRecDepth 65536 in
theorem w_c9 : (Jvm.Cond.code ({ cls := "com/example/one_verdict/oneverdict/check/FingerprintSet", name := "key", desc := "(J)J" } : Jvm.MethodName) prog_6_method_9_code (2 : Nat) (Option.some Jvm.ClassFile.FieldType.long)).before args0 about1 = true := code_word (m := ⟨4, 3⟩) (meth := k4m3) (c := k4c3) (by decide +kernel) rfl rfl rfl (by decide +kernel)
set_option maxRecDepth 65536 in
theorem w_c10 : (Jvm.Cond.code ({ cls := "com/example/one_verdict/oneverdict/check/FingerprintSet", name := "segmentOf", desc := "(JI)I" } : Jvm.MethodName) prog_6_method_13_code (3 : Nat) (Option.some Jvm.ClassFile.FieldType.int)).before args0 about1 = true := code_word (m := ⟨4, 6⟩) (meth := k4m6) (c := k4c6) (by decide +kernel) rfl rfl rfl (by decide +kernel)
set_option maxRecDepth 65536 in
theorem w_c11 : (Jvm.Cond.code ({ cls := "com/example/one_verdict/oneverdict/check/FingerprintSet", name := "slot", desc := "([JJ)I" } : Jvm.MethodName) prog_6_method_10_code (5 : Nat) (Option.some Jvm.ClassFile.FieldType.int)).before args0 about1 = true := code_word (m := ⟨4, 4⟩) (meth := k4m4) (c := k4c4) (by decide +kernel) rfl rfl rfl (by decide +kernel)
set_option maxRecDepth 65536 in
theorem w_c12 : (Jvm.Cond.code ({ cls := "com/example/one_verdict/oneverdict/check/FingerprintSet", name := "isCrowded", desc := "(II)Z" } : Jvm.MethodName) prog_6_method_11_code (2 : Nat) (Option.some Jvm.ClassFile.FieldType.boolean)).before args0 about1 = true := code_word (m := ⟨4, 5⟩) (meth := k4m5) (c := k4c5) (by decide +kernel) rfl rfl rfl (by decide +kernel)
set_option maxRecDepth 65536 in
theorem w_c13 : (Jvm.Cond.code ({ cls := "com/example/one_verdict/oneverdict/check/FingerprintSet", name := "grown", desc := "([J)[J" } : Jvm.MethodName) prog_6_method_14_code (7 : Nat) (Option.some (Jvm.ClassFile.FieldType.array Jvm.ClassFile.FieldType.long))).before args0 about1 = true := code_word (m := ⟨4, 7⟩) (meth := k4m7) (c := k4c7) (by decide +kernel) rfl rfl rfl (by decide +kernel)
set_option maxRecDepth 65536 in
theorem w_c14 : (Jvm.Cond.code ({ cls := "com/example/one_verdict/oneverdict/check/FingerprintSet", name := "slots", desc := "()J" } : Jvm.MethodName) prog_6_method_4_code (7 : Nat) (Option.some Jvm.ClassFile.FieldType.long)).before args0 about1 = true := code_word (m := ⟨4, 1⟩) (meth := k4m1) (c := k4c1) (by decide +kernel) rfl rfl rfl (by decide +kernel)
def codes1 : List Jvm.Cond := [Jvm.Cond.code x code maxLocals ret, Jvm.Cond.code ({ cls := "com/example/one_verdict/oneverdict/check/FingerprintSet", name := "<init>", desc := "(J)V" } : Jvm.MethodName) prog_6_method_1_code (5 : Nat) (Option.none : Option Jvm.ClassFile.FieldType), Jvm.Cond.code ({ cls := "java/lang/Object", name := "<init>", desc := "()V" } : Jvm.MethodName) object_method_1_code (1 : Nat) (Option.none : Option Jvm.ClassFile.FieldType), Jvm.Cond.code ({ cls := "java/lang/Math", name := "max", desc := "(JJ)J" } : Jvm.MethodName) jdk_29_method_66_code (4 : Nat) (Option.some Jvm.ClassFile.FieldType.long), Jvm.Cond.code ({ cls := "java/lang/Long", name := "numberOfLeadingZeros", desc := "(J)I" } : Jvm.MethodName) jdk_35_method_48_code (3 : Nat) (Option.some Jvm.ClassFile.FieldType.int), Jvm.Cond.code ({ cls := "java/lang/Integer", name := "numberOfLeadingZeros", desc := "(I)I" } : Jvm.MethodName) jdk_33_method_47_code (2 : Nat) (Option.some Jvm.ClassFile.FieldType.int), Jvm.Cond.code ({ cls := "java/lang/Math", name := "min", desc := "(II)I" } : Jvm.MethodName) jdk_29_method_69_code (2 : Nat) (Option.some Jvm.ClassFile.FieldType.int), Jvm.Cond.code ({ cls := "com/example/one_verdict/oneverdict/check/FingerprintSetSlotsPinLaw", name := "fp", desc := "(JII)J" } : Jvm.MethodName) method_2_code (6 : Nat) (Option.some Jvm.ClassFile.FieldType.long), Jvm.Cond.code ({ cls := "com/example/one_verdict/oneverdict/check/FingerprintSet", name := "add", desc := "(J)Z" } : Jvm.MethodName) prog_6_method_5_code (8 : Nat) (Option.some Jvm.ClassFile.FieldType.boolean), Jvm.Cond.code ({ cls := "com/example/one_verdict/oneverdict/check/FingerprintSet", name := "key", desc := "(J)J" } : Jvm.MethodName) prog_6_method_9_code (2 : Nat) (Option.some Jvm.ClassFile.FieldType.long), Jvm.Cond.code ({ cls := "com/example/one_verdict/oneverdict/check/FingerprintSet", name := "segmentOf", desc := "(JI)I" } : Jvm.MethodName) prog_6_method_13_code (3 : Nat) (Option.some Jvm.ClassFile.FieldType.int), Jvm.Cond.code ({ cls := "com/example/one_verdict/oneverdict/check/FingerprintSet", name := "slot", desc := "([JJ)I" } : Jvm.MethodName) prog_6_method_10_code (5 : Nat) (Option.some Jvm.ClassFile.FieldType.int), Jvm.Cond.code ({ cls := "com/example/one_verdict/oneverdict/check/FingerprintSet", name := "isCrowded", desc := "(II)Z" } : Jvm.MethodName) prog_6_method_11_code (2 : Nat) (Option.some Jvm.ClassFile.FieldType.boolean), Jvm.Cond.code ({ cls := "com/example/one_verdict/oneverdict/check/FingerprintSet", name := "grown", desc := "([J)[J" } : Jvm.MethodName) prog_6_method_14_code (7 : Nat) (Option.some (Jvm.ClassFile.FieldType.array Jvm.ClassFile.FieldType.long)), Jvm.Cond.code ({ cls := "com/example/one_verdict/oneverdict/check/FingerprintSet", name := "slots", desc := "()J" } : Jvm.MethodName) prog_6_method_4_code (7 : Nat) (Option.some Jvm.ClassFile.FieldType.long)]
set_option maxRecDepth 65536 in
theorem codes_eq : words1.filter isCode = codes1 := rfl
theorem w_codes : ∀ c ∈ words1.filter isCode, c.before args0 about1 = true := by
  rw [codes_eq]
  intro c hc
  simp only [codes1, List.mem_cons, List.not_mem_nil, or_false] at hc
  rcases hc with rfl | rfl | rfl | rfl | rfl | rfl | rfl | rfl | rfl | rfl | rfl | rfl | rfl | rfl | rfl
  · exact w_c0
  · exact w_c1
  · exact w_c2
  · exact w_c3
  · exact w_c4
  · exact w_c5
  · exact w_c6
  · exact w_c7
  · exact w_c8
  · exact w_c9
  · exact w_c10
  · exact w_c11
  · exact w_c12
  · exact w_c13
  · exact w_c14
set_option maxRecDepth 65536 in
theorem w_t1 : (words1.take 24).all (fun c => isCode c || c.before args0 about1) = true := by decide +kernel
set_option maxRecDepth 65536 in
theorem w_t2 : ((words1.drop 24).take 24).all (fun c => isCode c || c.before args0 about1) = true := by decide +kernel
set_option maxRecDepth 65536 in
theorem w_t3 : (((words1.drop 24).drop 24).take 24).all (fun c => isCode c || c.before args0 about1) = true := by decide +kernel
set_option maxRecDepth 65536 in
theorem w_t4 : (((words1.drop 24).drop 24).drop 24).all (fun c => isCode c || c.before args0 about1) = true := by decide +kernel
theorem w_tables : (allAtoms (Jvm.Cond.code x code maxLocals ret :: tables_1)).before args0 about1 = true := by
  rw [allAtoms_all]
  show words1.all (fun c => c.before args0 about1) = true
  refine all_split ?_ w_codes
  rw [← List.take_append_drop 24 words1, List.all_append, w_t1, ← List.take_append_drop 24 (words1.drop 24), List.all_append, w_t2, ← List.take_append_drop 24 ((words1.drop 24).drop 24), List.all_append, w_t3, w_t4]
  rfl
set_option maxRecDepth 65536 in
theorem w_case : (Jvm.Cond.and given_1 narrow_1).before args0 about1 = true := by decide +kernel
theorem w_applies : (headSpec (Jvm.Cond.code x code maxLocals ret :: tables_1) room_1).applies x e0.platform about1 = true :=
  (Spec.applies_iff w_frames).mpr ⟨w_running, w_runnable, w_alone, w_named, w_hears, w_ripe, w_room, w_tables⟩
theorem atStart : AtStart classFile x code maxLocals ret World_1 tables_1 room_1 Calls_1 rest_1 Pre_1 launch0 p0 e0 about1 theMethod args0 below0 :=
  ⟨lists_1, trivial, launch0.admits_env _ _ _, launch0.least_env, fairChoices_fair.cas, fairChoices_fair.clock, w_frames, w_args, w_heap, w_applies, trivial, trivial, w_case⟩
end start1
theorem witness_1 : WitnessClaimed_1 := ⟨start1.p0, start1.e0, start1.about1, start1.theMethod, start1.args0, start1.below0, start1.atStart⟩
end Jvm.Pilot.@@N@@
